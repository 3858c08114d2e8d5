/- The texts of a claim, put together: the engine, the contracts, the law. Own work. -/
import Derived.Test.YtogokkkdfcgncaaGreatDoorWf3P4
import Derived.Lib.ConvBytes
namespace Go.Proofs.YtogokkkdfcgncaaGreatDoor.ME
open Go
open Go.RowKit
set_option linter.unusedVariables false
set_option linter.unusedSimpArgs false
set_option maxRecDepth 20000
def qap (v:Int) (T:Tree):Bs:=(be 4 ((IntKind.i32.wrap (T.at_ 0).N))) ++ ((if (decide (v ≥ 2)) = true then be 4 ((IntKind.i32.wrap (T.at_ 1).N)) else []) ++ ((be 4 ((IntKind.i32.wrap (T.at_ 2).N))) ++ (if (decide (v ≥ 4)) = true then (uv T.U.length) ++ (qbr T.U) else [])))
theorem qbm (v:Int) (T:Tree):0 < (qap v T).length:=qkg (qkD (by decide))
def qau (v:Int) (T:Tree):Bs:=(if (decide (v ≥ 4)) = true then (uv ((T.at_ 0).S.length + 1) ++ (T.at_ 0).S) else (be 2 (T.at_ 0).S.length ++ (T.at_ 0).S)) ++ (((if (decide (v ≥ 4)) = true then (uv ((lst (T.at_ 1)).length + 1)) else (be 4 (lst (T.at_ 1)).length)) ++ ((lst (T.at_ 1)).flatMap (qap v))) ++ (if (decide (v ≥ 4)) = true then (uv T.U.length) ++ (qbr T.U) else []))
theorem qbG (v:Int) (T:Tree):0 < (qau v T).length:=qkg (qlJ (qkg (qlv _)) (qkg (qkD (by decide))))
def qbw (v:Int) (T:Tree):Bs:=(if (decide (v ≥ 3)) = true then be 4 ((IntKind.i32.wrap (T.at_ 0).N)) else []) ++ (((if (decide (v ≥ 4)) = true then (uv ((lst (T.at_ 1)).length + 1)) else (be 4 (lst (T.at_ 1)).length)) ++ ((lst (T.at_ 1)).flatMap (qau v))) ++ ((if (decide (v ≥ 4)) = true then (uv T.U.length) ++ (qbr T.U) else []) ++ (([]:Bs))))
theorem qb0 (v:Int) (T:Tree):qag v T = qbw v T:=rfl
def qbo (d:DV):List Value:=[.int .i32 ((d.f 0).n),.int .i32 ((d.f 1).n),.int .i32 ((d.f 2).n),.map d.m]
theorem qaY:qgJ qaB:=by
 intro w w' F F' M d hs hM hF h
 unfold qaB at h ⊢
 obtain ⟨g0,g1,g2,t1,t2,t3,_⟩:=h
 exact ⟨g0,g1,g2,t1.move hs hM hF,t2,t3,trivial⟩
def qbI (d:DV):List Value:=[.string ((d.f 0).s),.slice ((d.f 1).A) ((d.f 1).l) ((d.f 1).c),.map d.m]
theorem qbb:qgJ qaL:=by
 intro w w' F F' M d hs hM hF h
 unfold qaL at h ⊢
 obtain ⟨g0,⟨g1,g1l,g1e⟩,t1,t2,t3,_⟩:=h
 exact ⟨g0,⟨g1.move hs hM hF,g1l,fun i hi=>qaY _ hs hM hF (g1e i hi)⟩,t1.move hs hM hF,t2,t3,trivial⟩
def qaG (v:Int) (D:DV) (T:Tree):Prop:=((D.f 0).n = IntKind.i32.wrap (T.at_ 0).N) ∧ (((decide (v ≥ 2)) = true → (D.f 1).n = IntKind.i32.wrap (T.at_ 1).N) ∧ ((decide (v ≥ 2)) = false → (D.f 1).n = -1)) ∧ ((D.f 2).n = IntKind.i32.wrap (T.at_ 2).N) ∧ (((decide (v ≥ 4)) = true → D.u = T.U) ∧ ((decide (v ≥ 4)) = false → D.u = [])) ∧ True
def qaQ (v:Int) (D:DV) (T:Tree):Prop:=((D.f 0).s = bs (T.at_ 0).S) ∧ (((D.f 1).l = (lst (T.at_ 1)).length ∧ ∀ i,i < (D.f 1).l → qaG v ((D.f 1).f i) ((lst (T.at_ 1)).getD i .zero))) ∧ (((decide (v ≥ 4)) = true → D.u = T.U) ∧ ((decide (v ≥ 4)) = false → D.u = [])) ∧ True
def qbi (v:Int) (D:DV) (T:Tree):Prop:=(((decide (v ≥ 3)) = true → (D.f 0).n = IntKind.i32.wrap (T.at_ 0).N) ∧ ((decide (v ≥ 3)) = false → (D.f 0).n = -2)) ∧ (((D.f 1).l = (lst (T.at_ 1)).length ∧ ∀ i,i < (D.f 1).l → qaQ v ((D.f 1).f i) ((lst (T.at_ 1)).getD i .zero))) ∧ (((decide (v ≥ 4)) = true → D.u = T.U) ∧ ((decide (v ≥ 4)) = false → D.u = [])) ∧ True
theorem qlQ (b o:Nat) (w:World):Calls Tryz.prog 144 #[.pointer (some ⟨b,o,none⟩)] w (fun e w'=>e = .returned (.tuple #[]) ∧ w' = w):=by
 refine enter (n:=2) (vs:=[.pointer (some ⟨b,o,none⟩)]) Tryz.func144 rfl Tryz.ntmps144 kz fun a hE=>?_
 refine wp_skip ?_
 exact qce hE (WOk.start w Nil).cells (v:=.tuple #[]) kz ⟨rfl,rfl⟩
set_option maxHeartbeats 4000000 in
theorem qcK (v:Int) (T:Tree) {bv:Nat} {A:Option Addr} {c:Nat} {w:World} {F:Nat → Nat → Prop} (hst:Str w bv [.int .i16 v,.int .i32 (-2),.slice none 0 0,.map none]) (ho:Octs w F A c (qag v T)) (hFd:∀ b o,F b o → ¬ (b = bv ∧ o < 4)) (hc:qaS T) (hR:T.ranged) :
  Calls Tryz.prog 104 #[.pointer (some ⟨bv,0,none⟩),.slice A (qag v T).length c,.bool false] w (fun e w'=>∃ D:DV,e = .returned .nilIface ∧ Str w' bv [.int .i16 v,.int .i32 ((D.f 0).n),.slice ((D.f 1).A) ((D.f 1).l) ((D.f 1).c),.map D.m] ∧ qa1 w' (Fp F w) D ∧ qbi v D T ∧ Step w w' (fun b o=>b = bv ∧ o < 4)):=by
 refine enter (n:=160) Tryz.func104 rfl Tryz.ntmps104 kz fun a hE=>?_
 have hW:=WOk.startStr hst
 have hE1:=(hE.grow ⟨bv,0,[.int .i16 v,.int .i32 (-2),.slice none 0 0,.map none],true⟩).recast 0 (.v (.pointer (some ⟨bv,0,none⟩))) (.p 0 0) rfl rfl (Nat.le_of_ble_eq_true (n:=1) rfl)
 refine qas [(0,.p 0 0),(1,.v (.slice A ((qag v T).length) c)),(2,.v (.bool false))] hW hE1 fun a1 hE2=>?_
 refine qae [0,1] kz ?_
 refine qaj [0] [1] [(0,.p 0 0),(1,.v (.slice A ((qag v T).length) c)),(2,.v (.bool false)),(28,.p 0 0)] hW hE2 fun a3 hE4=>?_
 refine qam (qa6 hE4 (f:=102) (vs:=[.pointer (some ⟨bv,0,none⟩)]) (d:=29) (n':=5) kz Tryz.call102 Tryz.func102 rfl Tryz.ntmps102 kz fun a5 hE6=>?_)
 have hE7:=hE6.recast 0 (.v (.pointer (some ⟨bv,0,none⟩))) (.p 0 0) rfl rfl (Nat.le_of_ble_eq_true (n:=1) rfl)
 refine qar [0,1,2,3] kz ?_
 refine qaj [0,1,2] [3] [(4,.p 0 1)] hW hE7 fun a8 hE9=>?_
 refine qam (qaP hW hE9 (oi:=0) (cs:=[.int .i16 v,.int .i32 (-2),.slice none 0 0,.map none]) kz fun fz fh dx eJ=>?_)
 refine qaf ?_
 refine qce eJ dx.cells (v:=.tuple #[]) kz ?_
 refine ⟨_,rfl,fun fA eK=>?_⟩
 have eL:=(EnvOk.places (tb':=[⟨bv,0,[.int .i16 v,.int .i32 (-2),.slice none 0 0,.map none],true⟩]) eK (show Pl [⟨bv,0,[.int .i16 v,.int .i32 (-2),.slice none 0 0,.map none],true⟩] [⟨bv,0,[.int .i16 v,.int .i32 (-2),.slice none 0 0,.map none],true⟩] from ⟨rfl,rfl,trivial⟩)).pk (env':=[(29,.v (.tuple #[])),(0,.p 0 0),(1,.v (.slice A ((qag v T).length) c)),(2,.v (.bool false)),(28,.p 0 0)])
 refine qaf (qab ?_)
 refine qae [0,1,2,3] kz ?_
 refine qaj [0,1] [2,3] [(0,.p 0 0),(2,.v (.bool false)),(31,.v (.agg #[.slice A ((qag v T).length) c,.bool false]))] dx eL fun fB eM=>?_
 refine qam (qbe dx eM (d:=7) (cs:=[.slice none 0 0,.bool false]) kz fun aV fC fD fi fj fk eN eO=>?_)
 refine qam (qaP eN eO (oi:=1) (cs:=[.slice A ((qag v T).length) c,.bool false]) kz fun fE fl dy eP=>?_)
 refine qaf (qab ?_)
 have dF:=RS.start (F:=F) (s:=qag v T) dy eP (ho.move dy.step (fun b_ o_ h_ _=>hFd b_ o_ h_) (dy.immM hFd)) [(0,.p 1 0),(2,.v (.bool false)),(7,.p 0 0)]
 have fb:=hc
 have e32r:=hR
 unfold qaS at fb
 obtain ⟨e32_0,⟨e32_1,e32_1e⟩,e32_U,_⟩:=fb
 obtain ⟨bd,dG⟩:∃ R,R = (if (decide (v ≥ 4)) = true then (uv T.U.length) ++ (qbr T.U) else []) ++ ([]:Bs):=⟨_,rfl⟩
 obtain ⟨dH,dI⟩:∃ R,R = ((if (decide (v ≥ 4)) = true then (uv ((lst (T.at_ 1)).length + 1)) else (be 4 (lst (T.at_ 1)).length)) ++ ((lst (T.at_ 1)).flatMap (qau v))) ++ bd:=⟨_,rfl⟩
 obtain ⟨fm,dJ⟩:∃ R,R = (if (decide (v ≥ 3)) = true then be 4 ((IntKind.i32.wrap (T.at_ 0).N)) else []) ++ dH:=⟨_,rfl⟩
 have dK:=dF.cast (t:=fm) (by rw [qb0,dJ,dI,dG]; unfold qbw; simp only [List.append_assoc])
 clear dF
 refine wp_seq ?_
 refine qb4 [(0,.p 1 0),(2,.v (.bool false)),(7,.p 0 0),(8,.v (.int .i16 v))] dK fun _ dL=>?_
 clear dK
 refine qab ?_
 refine wp_seq ?_
 refine qb4 [(0,.p 1 0),(2,.v (.bool false)),(7,.p 0 0),(8,.v (.int .i16 v))] dL fun _ dM=>?_
 clear dL
 refine qab ?_
 refine wp_seq ?_
 refine qb4 [(0,.p 1 0),(2,.v (.bool false)),(7,.p 0 0),(8,.v (.int .i16 v)),(9,.v (.bool (decide (v ≥ 4))))] dM fun _ dN=>?_
 clear dM
 refine qab ?_
 refine wp_seq ?_
 refine qb4 [(0,.p 1 0),(2,.v (.bool false)),(7,.p 0 0),(8,.v (.int .i16 v)),(9,.v (.bool (decide (v ≥ 4))))] dN fun _ dO=>?_
 clear dN
 refine qab ?_
 refine wp_seq ?_
 refine qb4 [(2,.v (.bool false)),(7,.p 0 0),(8,.v (.int .i16 v)),(9,.v (.bool (decide (v ≥ 4)))),(10,.p 1 0)] dO fun _ dP=>?_
 clear dO
 refine qab ?_
 refine wp_seq ?_
 have dQ:=dP.cast dJ
 clear dP
 refine qeB (Mid:=fun a_ w_=>∃ (ak:DV) (P':qcE),(∀ w F,P' w F → noF w F ∧ (True) ∧ ((decide (v ≥ 3)) = true → ak.n = IntKind.i32.wrap (T.at_ 0).N) ∧ ((decide (v ≥ 3)) = false → ak.n = -2)) ∧ RS w (fun b o=>b = bv ∧ o < 4) F 160 aV [⟨bv,0,[.int .i16 v,.int .i32 ak.n,.slice none 0 0,.map none],true⟩] [(2,.v (.bool false)),(7,.p 0 0),(8,.v (.int .i16 v)),(9,.v (.bool (decide (v ≥ 4)))),(10,.p 1 0)] P' dH a_ w_) ?_ ?_
 ·
  refine wp_seq ?_
  refine qb4 [(2,.v (.bool false)),(7,.p 0 0),(8,.v (.int .i16 v)),(9,.v (.bool (decide (v ≥ 4)))),(10,.p 1 0),(42,.v (.bool (decide (v ≥ 3))))] dQ fun _ aJ=>qab ?_
  clear dQ
  refine qay aJ.env_ (b:=decide (v ≥ 3)) kz (fun aK=>?_) (fun aK=>?_)
  ·
   have dR:=aJ.cast (t:=(be 4 ((IntKind.i32.wrap (T.at_ 0).N))) ++ dH) (by rw [if_pos aK])
   clear aJ
   refine wp_seq ?_
   refine qfm (d:=43) [(2,.v (.bool false)),(7,.p 0 0),(8,.v (.int .i16 v)),(9,.v (.bool (decide (v ≥ 4)))),(10,.p 1 0),(11,.v (.int .i32 (IntKind.i32.wrap (T.at_ 0).N)))] dR (qhN _ _) Tryz.call117 fun _ _ dS=>?_
   clear dR
   refine qab ?_
   refine qeS [⟨bv,0,[.int .i16 v,.int .i32 (IntKind.i32.wrap (T.at_ 0).N),.slice none 0 0,.map none],true⟩] 0 [(2,.v (.bool false)),(7,.p 0 0),(8,.v (.int .i16 v)),(9,.v (.bool (decide (v ≥ 4)))),(10,.p 1 0)] dS fun _ _ eQ=>?_
   clear dS
   refine qab ?_
   exact ⟨dvN (IntKind.i32.wrap (T.at_ 0).N),_,fun w F h_=>⟨h_,trivial,⟨fun _=>rfl,(fun e_=>by rw [aK] at e_; cases e_)⟩⟩,eQ.pk (env':=[(2,.v (.bool false)),(7,.p 0 0),(8,.v (.int .i16 v)),(9,.v (.bool (decide (v ≥ 4)))),(10,.p 1 0)])⟩
  have dT:=aJ.cast (t:=[] ++ dH) (by rw [if_neg (by rw [aK]; decide)])
  clear aJ
  have eR:=dT.cast (t:=dH) rfl
  clear dT
  refine wp_skip (qab ?_)
  exact ⟨dvN (-2),_,fun w F h_=>⟨h_,trivial,⟨(fun e_=>by rw [aK] at e_; cases e_),fun _=>rfl⟩⟩,eR.pk (env':=[(2,.v (.bool false)),(7,.p 0 0),(8,.v (.int .i16 v)),(9,.v (.bool (decide (v ≥ 4)))),(10,.p 1 0)])⟩
 rintro _ _ ⟨ak,fe,dU,dV⟩
 refine qab ?_
 refine wp_seq ?_
 refine wp_seq ?_
 refine qb4 [(2,.v (.bool false)),(7,.p 0 0),(8,.v (.int .i16 v)),(9,.v (.bool (decide (v ≥ 4)))),(10,.p 1 0),(12,.v (.slice none 0 0))] dV fun _ dW=>?_
 clear dV
 refine qab ?_
 refine wp_seq ?_
 refine qb4 [(2,.v (.bool false)),(7,.p 0 0),(8,.v (.int .i16 v)),(9,.v (.bool (decide (v ≥ 4)))),(10,.p 1 0),(13,.v (.slice none 0 0))] dW fun _ dX=>?_
 clear dW
 refine qab ?_
 refine wp_seq ?_
 refine qb4 [(2,.v (.bool false)),(7,.p 0 0),(8,.v (.int .i16 v)),(9,.v (.bool (decide (v ≥ 4)))),(10,.p 1 0),(13,.v (.slice none 0 0))] dX fun _ dY=>?_
 clear dX
 refine qab ?_
 refine wp_seq ?_
 have dZ:=dY.cast dI
 clear dY
 have d5:=dZ.cast (t:=(if (decide (v ≥ 4)) = true then (uv ((lst (T.at_ 1)).length + 1)) else (be 4 (lst (T.at_ 1)).length)) ++ (((lst (T.at_ 1)).flatMap (qau v)) ++ bd)) (by rw [List.append_assoc])
 clear dZ
 refine qhi (d1:=54) (d2:=55) [(2,.v (.bool false)),(7,.p 0 0),(8,.v (.int .i16 v)),(9,.v (.bool (decide (v ≥ 4)))),(10,.p 1 0),(13,.v (.slice none 0 0)),(53,.v (.bool (decide (v ≥ 4))))] [(2,.v (.bool false)),(7,.p 0 0),(8,.v (.int .i16 v)),(9,.v (.bool (decide (v ≥ 4)))),(10,.p 1 0),(13,.v (.slice none 0 0)),(14,.v (.int .i32 (((lst (T.at_ 1)).length:Nat):Int)))] d5 (qdi ((lst (T.at_ 1)).length) e32_1 _ (flat_ge' (qbG v) _)) Tryz.call123 (qgL ((lst (T.at_ 1)).length) e32_1 _ (flat_ge' (qbG v) _)) Tryz.call124 fun _ _ d6=>?_
 clear d5
 refine qab ?_
 refine wp_seq ?_
 refine wp_seq ?_
 refine qlL (d:=56) [(2,.v (.bool false)),(7,.p 0 0),(8,.v (.int .i16 v)),(9,.v (.bool (decide (v ≥ 4)))),(10,.p 1 0),(13,.v (.slice none 0 0)),(14,.v (.int .i32 (((lst (T.at_ 1)).length:Nat):Int))),(57,.v (.bool false))] d6 (pOk _) Tryz.call125 fun _ _ dz=>?_
 clear d6
 refine qab ?_
 refine qat dz.env_ (b:=false) kz (rfl) ?_
 refine wp_skip ?_
 refine qab ?_
 refine wp_seq ?_
 refine qjC (t:=111) (e:=176) (size:=3) (bytes:=48) (d:=60) (A0:=none) (m:=0) (cp:=0) [(2,.v (.bool false)),(7,.p 0 0),(8,.v (.int .i16 v)),(9,.v (.bool (decide (v ≥ 4)))),(10,.p 1 0),(14,.v (.int .i32 (((lst (T.at_ 1)).length:Nat):Int))),(59,.v (.slice none 0 0))] [(2,.v (.bool false)),(7,.p 0 0),(8,.v (.int .i16 v)),(9,.v (.bool (decide (v ≥ 4)))),(10,.p 1 0),(13,.v (.slice none 0 0)),(14,.v (.int .i32 (((lst (T.at_ 1)).length:Nat):Int)))] 1 dz fun _ d7=>?_
 clear dz
 refine qab ?_
 refine qhL (Mid:=fun a_ w_=>∃ (al:DV) (P':qcE),(∀ w F,P' w F → fe w F ∧ (Slots w F 3 al.A al.c al.l (fun i=>[.string (((al.f i).f 0).s),.slice (((al.f i).f 1).A) (((al.f i).f 1).l) (((al.f i).f 1).c),.map ((al.f i).m)]) ∧ al.l ≤ 1000000 ∧ ∀ i,i < al.l → qaL w F (al.f i)) ∧ (al.l = (lst (T.at_ 1)).length ∧ ∀ i,i < al.l → qaQ v (al.f i) ((lst (T.at_ 1)).getD i .zero))) ∧ RS w (fun b o=>b = bv ∧ o < 4) F 160 aV [⟨bv,0,[.int .i16 v,.int .i32 ak.n,.slice none 0 0,.map none],true⟩] [(7,.p 0 0),(9,.v (.bool (decide (v ≥ 4)))),(10,.p 1 0),(13,.v (.slice al.A al.l al.c))] P' bd a_ w_) ?_ ?_
 ·
  refine wp_seq ?_
  refine qb4 [(2,.v (.bool false)),(7,.p 0 0),(8,.v (.int .i16 v)),(9,.v (.bool (decide (v ≥ 4)))),(10,.p 1 0),(13,.v (.slice none 0 0)),(14,.v (.int .i32 (((lst (T.at_ 1)).length:Nat):Int))),(62,.v (.bool (decide ((((lst (T.at_ 1)).length:Nat):Int) > 0))))] d7 fun _ aL=>qab ?_
  clear d7
  refine qay aL.env_ (b:=decide ((((lst (T.at_ 1)).length:Nat):Int) > 0)) kz (fun aW=>?_) (fun aW=>?_)
  ·
   have hn_g74:0 < (lst (T.at_ 1)).length:=by have h_:=of_decide_eq_true aW; omega
   refine qar [0,1,2,3] kz ?_
   refine qdg [0,1] [2,3] [(2,.v (.bool false)),(7,.p 0 0),(8,.v (.int .i16 v)),(9,.v (.bool (decide (v ≥ 4)))),(10,.p 1 0),(14,.v (.int .i32 (((lst (T.at_ 1)).length:Nat):Int))),(63,.v (.slice none 0 0)),(64,.v (.int .i32 (((lst (T.at_ 1)).length:Nat):Int)))] aL fun _ d8=>?_
   clear aL
   refine qam (qfH (A0:=none) (d:=65) (t:=111) (tn:=21) (e:=176) (size:=3) (bytes:=48) (k:=.i32) (kn:=.i32) (q:=(((lst (T.at_ 1)).length:Nat):Int)) (j:=(lst (T.at_ 1)).length) (.agg #[.string ByteArray.empty,.slice none 0 0,.map none]) d8 (fun ab ag _ _ hg_g74 hcap_g74 d9=>?_) rfl hn_g74 (by have:=e32_1; omega))
   clear d8
   refine qdg [3] [] [(2,.v (.bool false)),(7,.p 0 0),(8,.v (.int .i16 v)),(9,.v (.bool (decide (v ≥ 4)))),(10,.p 1 0),(13,.v (.slice (some ⟨ab,0,none⟩) ((lst (T.at_ 1)).length) ag)),(14,.v (.int .i32 (((lst (T.at_ 1)).length:Nat):Int)))] d9 fun _ ea=>qaf ?_
   clear d9
   refine qab ?_
   refine wp_seq ?_
   refine qb4 [(2,.v (.bool false)),(7,.p 0 0),(8,.v (.int .i16 v)),(9,.v (.bool (decide (v ≥ 4)))),(10,.p 1 0),(13,.v (.slice (some ⟨ab,0,none⟩) ((lst (T.at_ 1)).length) ag)),(14,.v (.int .i32 (((lst (T.at_ 1)).length:Nat):Int))),(15,.v (.int .i32 0))] ea fun _ dA=>?_
   clear ea
   refine qab ?_
   refine wp_block ?_
   have bf:=dA.mv
   have eS:=(dA.cast (t:=(lst (T.at_ 1)).flatMap (qau v) ++ bd) rfl).pk (env':=[(2,.v (.bool false)),(7,.p 0 0),(8,.v (.int .i16 v)),(9,.v (.bool (decide (v ≥ 4)))),(10,.p 1 0),(13,.v (.slice (some ⟨ab,0,none⟩) ((lst (T.at_ 1)).length) ag)),(14,.v (.int .i32 (((lst (T.at_ 1)).length:Nat):Int))),(15,.v (.int .i32 ((0:Nat):Int)))])
   clear dA
   refine qjy (tb:=[⟨bv,0,[.int .i16 v,.int .i32 ak.n,.slice none 0 0,.map none],true⟩]) (z:=.agg #[.string ByteArray.empty,.slice none 0 0,.map none]) (cl:=qbI) (ok:=qaL) (rel:=(qaQ v)) (L:=lst (T.at_ 1)) (size:=3) (qau v) bd (fun k=>[(2,.v (.bool false)),(7,.p 0 0),(8,.v (.int .i16 v)),(9,.v (.bool (decide (v ≥ 4)))),(10,.p 1 0),(13,.v (.slice (some ⟨ab,0,none⟩) ((lst (T.at_ 1)).length) ag)),(14,.v (.int .i32 (((lst (T.at_ 1)).length:Nat):Int))),(15,.v (.int .i32 ((k:Nat):Int)))]) eS qbb (fun ac aa _ _ dB eT eb=>?_) (fun _ _ ec=>?_)
   ·
    obtain ⟨ff,ee,ef⟩:∃ P',(∀ w F,P' w F → (fe w F ∧ qfq ab 3 qbI qaL (qaQ v) (lst (T.at_ 1)) ac w F)) ∧ RS w (fun b o=>b = bv ∧ o < 4) F 160 aV [⟨bv,0,[.int .i16 v,.int .i32 ak.n,.slice none 0 0,.map none],true⟩,qbs ab 3 (.agg #[.string ByteArray.empty,.slice none 0 0,.map none]) ((lst (T.at_ 1)).length) ac] [(2,.v (.bool false)),(7,.p 0 0),(8,.v (.int .i16 v)),(9,.v (.bool (decide (v ≥ 4)))),(10,.p 1 0),(13,.v (.slice (some ⟨ab,0,none⟩) ((lst (T.at_ 1)).length) ag)),(14,.v (.int .i32 (((lst (T.at_ 1)).length:Nat):Int))),(15,.v (.int .i32 ((ac:Nat):Int)))] P' ((qau v) aa ++ (((lst (T.at_ 1)).drop (ac + 1)).flatMap (qau v) ++ bd)) _ _:=⟨_,fun _ _ h=>h,eb⟩
    clear eb
    obtain ⟨eg,eh⟩:∃ R,R = ((lst (T.at_ 1)).drop (ac + 1)).flatMap (qau v) ++ bd:=⟨_,rfl⟩
    have fg:=(e32_1e aa (List.mem_of_getElem? dB))
    have e93r:=(qfG (qfl e32r 1) aa (List.mem_of_getElem? dB))
    unfold qa9 at fg
    obtain ⟨e93_0,⟨e93_1,e93_1e⟩,e93_U,_⟩:=fg
    obtain ⟨bg,ei⟩:∃ R,R = (if (decide (v ≥ 4)) = true then (uv aa.U.length) ++ (qbr aa.U) else []) ++ eg:=⟨_,rfl⟩
    obtain ⟨fo,ej⟩:∃ R,R = ((if (decide (v ≥ 4)) = true then (uv ((lst (aa.at_ 1)).length + 1)) else (be 4 (lst (aa.at_ 1)).length)) ++ ((lst (aa.at_ 1)).flatMap (qap v))) ++ bg:=⟨_,rfl⟩
    obtain ⟨fq,ek⟩:∃ R,R = (if (decide (v ≥ 4)) = true then (uv ((aa.at_ 0).S.length + 1) ++ (aa.at_ 0).S) else (be 2 (aa.at_ 0).S.length ++ (aa.at_ 0).S)) ++ fo:=⟨_,rfl⟩
    have bh:=ef.cast (t:=fq) (by rw [ek,ej,ei,← eh]; unfold qau; simp only [List.append_assoc])
    clear ef
    refine wp_seq ?_
    refine wp_seq ?_
    refine qb4 [(2,.v (.bool false)),(7,.p 0 0),(8,.v (.int .i16 v)),(9,.v (.bool (decide (v ≥ 4)))),(10,.p 1 0),(13,.v (.slice (some ⟨ab,0,none⟩) ((lst (T.at_ 1)).length) ag)),(14,.v (.int .i32 (((lst (T.at_ 1)).length:Nat):Int))),(15,.v (.int .i32 ((ac:Nat):Int))),(68,.v (.bool (decide (((ac:Nat):Int) < (((lst (T.at_ 1)).length:Nat):Int)))))] bh fun _ aM=>qab ?_
    clear bh
    refine qbK aM.env_ (b:=decide (((ac:Nat):Int) < (((lst (T.at_ 1)).length:Nat):Int))) kz (decide_eq_true (by omega)) ?_
    refine wp_skip ?_
    refine qab ?_
    refine wp_seq ?_
    refine wp_block ?_
    refine wp_seq ?_
    refine qjD (t:=111) (e:=176) (size:=3) (bytes:=48) (d:=73) (tb:=[⟨bv,0,[.int .i16 v,.int .i32 ak.n,.slice none 0 0,.map none],true⟩]) (z:=.agg #[.string ByteArray.empty,.slice none 0 0,.map none]) [(2,.v (.bool false)),(7,.p 0 0),(8,.v (.int .i16 v)),(9,.v (.bool (decide (v ≥ 4)))),(10,.p 1 0),(13,.v (.slice (some ⟨ab,0,none⟩) ((lst (T.at_ 1)).length) ag)),(14,.v (.int .i32 (((lst (T.at_ 1)).length:Nat):Int))),(15,.v (.int .i32 ((ac:Nat):Int))),(71,.v (.slice (some ⟨ab,0,none⟩) ((lst (T.at_ 1)).length) ag)),(72,.v (.int .i32 ((ac:Nat):Int)))] [(2,.v (.bool false)),(7,.p 0 0),(8,.v (.int .i16 v)),(9,.v (.bool (decide (v ≥ 4)))),(10,.p 1 0),(13,.v (.slice (some ⟨ab,0,none⟩) ((lst (T.at_ 1)).length) ag)),(14,.v (.int .i32 (((lst (T.at_ 1)).length:Nat):Int))),(15,.v (.int .i32 ((ac:Nat):Int))),(16,.p 3 0)] 2 aM eT rfl kz fun _ bi=>?_
    clear aM
    have bj:=bi.tbEq (tb':=[⟨bv,0,[.int .i16 v,.int .i32 ak.n,.slice none 0 0,.map none],true⟩,qbs ab 3 (.agg #[.string ByteArray.empty,.slice none 0 0,.map none]) ((lst (T.at_ 1)).length) (ac + 1),⟨ab,ac * 3,[.string ByteArray.empty,.slice none 0 0,.map none],true⟩]) rfl
    clear bi
    refine qab ?_
    refine wp_seq ?_
    refine qar [0,1] kz ?_
    refine qdg [0] [1] [(2,.v (.bool false)),(7,.p 0 0),(8,.v (.int .i16 v)),(9,.v (.bool (decide (v ≥ 4)))),(10,.p 1 0),(13,.v (.slice (some ⟨ab,0,none⟩) ((lst (T.at_ 1)).length) ag)),(14,.v (.int .i32 (((lst (T.at_ 1)).length:Nat):Int))),(15,.v (.int .i32 ((ac:Nat):Int))),(16,.p 3 0),(74,.p 3 0)] bj fun _ bk=>?_
    clear bj
    refine qam (qlK (d:=75) (vs:=[.pointer (some ⟨ab,ac * 3,none⟩)]) bk (fun _=>qlQ _ _ _) Tryz.call144 fun _ bn=>?_)
    clear bk
    refine qaf ?_
    have bo:=bn.pk (env':=[(2,.v (.bool false)),(7,.p 0 0),(8,.v (.int .i16 v)),(9,.v (.bool (decide (v ≥ 4)))),(10,.p 1 0),(13,.v (.slice (some ⟨ab,0,none⟩) ((lst (T.at_ 1)).length) ag)),(14,.v (.int .i32 (((lst (T.at_ 1)).length:Nat):Int))),(15,.v (.int .i32 ((ac:Nat):Int))),(16,.p 3 0)])
    clear bn
    refine qab ?_
    refine wp_seq ?_
    refine qb4 [(2,.v (.bool false)),(7,.p 0 0),(8,.v (.int .i16 v)),(9,.v (.bool (decide (v ≥ 4)))),(10,.p 1 0),(13,.v (.slice (some ⟨ab,0,none⟩) ((lst (T.at_ 1)).length) ag)),(14,.v (.int .i32 (((lst (T.at_ 1)).length:Nat):Int))),(15,.v (.int .i32 ((ac:Nat):Int))),(17,.p 3 0)] bo fun _ bp=>?_
    clear bo
    refine qab ?_
    refine wp_seq ?_
    refine wp_seq ?_
    refine qb4 [(2,.v (.bool false)),(7,.p 0 0),(8,.v (.int .i16 v)),(9,.v (.bool (decide (v ≥ 4)))),(10,.p 1 0),(13,.v (.slice (some ⟨ab,0,none⟩) ((lst (T.at_ 1)).length) ag)),(14,.v (.int .i32 (((lst (T.at_ 1)).length:Nat):Int))),(15,.v (.int .i32 ((ac:Nat):Int))),(17,.p 3 0)] bp fun _ bq=>?_
    clear bp
    refine qab ?_
    refine wp_seq ?_
    refine wp_seq ?_
    refine qb4 [(2,.v (.bool false)),(7,.p 0 0),(8,.v (.int .i16 v)),(9,.v (.bool (decide (v ≥ 4)))),(10,.p 1 0),(13,.v (.slice (some ⟨ab,0,none⟩) ((lst (T.at_ 1)).length) ag)),(14,.v (.int .i32 (((lst (T.at_ 1)).length:Nat):Int))),(15,.v (.int .i32 ((ac:Nat):Int))),(17,.p 3 0),(77,.v (.bool false))] bq fun _ aN=>qab ?_
    clear bq
    refine qat aN.env_ (b:=false) kz (rfl) ?_
    have bt:=aN.cast ek
    clear aN
    refine qhi (d1:=82) (d2:=83) [(2,.v (.bool false)),(7,.p 0 0),(8,.v (.int .i16 v)),(9,.v (.bool (decide (v ≥ 4)))),(10,.p 1 0),(13,.v (.slice (some ⟨ab,0,none⟩) ((lst (T.at_ 1)).length) ag)),(14,.v (.int .i32 (((lst (T.at_ 1)).length:Nat):Int))),(15,.v (.int .i32 ((ac:Nat):Int))),(17,.p 3 0),(81,.v (.bool (decide (v ≥ 4))))] [(2,.v (.bool false)),(7,.p 0 0),(8,.v (.int .i16 v)),(9,.v (.bool (decide (v ≥ 4)))),(10,.p 1 0),(13,.v (.slice (some ⟨ab,0,none⟩) ((lst (T.at_ 1)).length) ag)),(14,.v (.int .i32 (((lst (T.at_ 1)).length:Nat):Int))),(15,.v (.int .i32 ((ac:Nat):Int))),(17,.p 3 0),(18,.v (.string (bs (aa.at_ 0).S)))] bt (qft (aa.at_ 0).S e93_0 _) Tryz.call115 (qlb (aa.at_ 0).S e93_0 _) Tryz.call116 fun _ _ bu=>?_
    clear bt
    refine qab ?_
    refine qeS [⟨bv,0,[.int .i16 v,.int .i32 ak.n,.slice none 0 0,.map none],true⟩,qbs ab 3 (.agg #[.string ByteArray.empty,.slice none 0 0,.map none]) ((lst (T.at_ 1)).length) (ac + 1),⟨ab,ac * 3,[.string (bs (aa.at_ 0).S),.slice none 0 0,.map none],true⟩] 2 [(2,.v (.bool false)),(7,.p 0 0),(8,.v (.int .i16 v)),(9,.v (.bool (decide (v ≥ 4)))),(10,.p 1 0),(13,.v (.slice (some ⟨ab,0,none⟩) ((lst (T.at_ 1)).length) ag)),(14,.v (.int .i32 (((lst (T.at_ 1)).length:Nat):Int))),(15,.v (.int .i32 ((ac:Nat):Int))),(17,.p 3 0)] bu fun _ _ bw=>?_
    clear bu
    refine qab ?_
    refine wp_seq ?_
    refine wp_seq ?_
    refine qb4 [(2,.v (.bool false)),(7,.p 0 0),(8,.v (.int .i16 v)),(9,.v (.bool (decide (v ≥ 4)))),(10,.p 1 0),(13,.v (.slice (some ⟨ab,0,none⟩) ((lst (T.at_ 1)).length) ag)),(14,.v (.int .i32 (((lst (T.at_ 1)).length:Nat):Int))),(15,.v (.int .i32 ((ac:Nat):Int))),(17,.p 3 0),(19,.v (.slice none 0 0))] bw fun _ bx=>?_
    clear bw
    refine qab ?_
    refine wp_seq ?_
    refine qb4 [(2,.v (.bool false)),(7,.p 0 0),(8,.v (.int .i16 v)),(9,.v (.bool (decide (v ≥ 4)))),(10,.p 1 0),(13,.v (.slice (some ⟨ab,0,none⟩) ((lst (T.at_ 1)).length) ag)),(14,.v (.int .i32 (((lst (T.at_ 1)).length:Nat):Int))),(15,.v (.int .i32 ((ac:Nat):Int))),(17,.p 3 0),(20,.v (.slice none 0 0))] bx fun _ bz=>?_
    clear bx
    refine qab ?_
    refine wp_seq ?_
    refine qb4 [(2,.v (.bool false)),(7,.p 0 0),(8,.v (.int .i16 v)),(9,.v (.bool (decide (v ≥ 4)))),(10,.p 1 0),(13,.v (.slice (some ⟨ab,0,none⟩) ((lst (T.at_ 1)).length) ag)),(14,.v (.int .i32 (((lst (T.at_ 1)).length:Nat):Int))),(15,.v (.int .i32 ((ac:Nat):Int))),(17,.p 3 0),(20,.v (.slice none 0 0))] bz fun _ bA=>?_
    clear bz
    refine qab ?_
    refine wp_seq ?_
    have bB:=bA.cast ej
    clear bA
    have bC:=bB.cast (t:=(if (decide (v ≥ 4)) = true then (uv ((lst (aa.at_ 1)).length + 1)) else (be 4 (lst (aa.at_ 1)).length)) ++ (((lst (aa.at_ 1)).flatMap (qap v)) ++ bg)) (by rw [List.append_assoc])
    clear bB
    refine qhi (d1:=94) (d2:=95) [(2,.v (.bool false)),(7,.p 0 0),(8,.v (.int .i16 v)),(9,.v (.bool (decide (v ≥ 4)))),(10,.p 1 0),(13,.v (.slice (some ⟨ab,0,none⟩) ((lst (T.at_ 1)).length) ag)),(14,.v (.int .i32 (((lst (T.at_ 1)).length:Nat):Int))),(15,.v (.int .i32 ((ac:Nat):Int))),(17,.p 3 0),(20,.v (.slice none 0 0)),(93,.v (.bool (decide (v ≥ 4))))] [(2,.v (.bool false)),(7,.p 0 0),(8,.v (.int .i16 v)),(9,.v (.bool (decide (v ≥ 4)))),(10,.p 1 0),(13,.v (.slice (some ⟨ab,0,none⟩) ((lst (T.at_ 1)).length) ag)),(14,.v (.int .i32 (((lst (T.at_ 1)).length:Nat):Int))),(15,.v (.int .i32 ((ac:Nat):Int))),(17,.p 3 0),(20,.v (.slice none 0 0)),(21,.v (.int .i32 (((lst (aa.at_ 1)).length:Nat):Int)))] bC (qdi ((lst (aa.at_ 1)).length) e93_1 _ (flat_ge' (qbm v) _)) Tryz.call123 (qgL ((lst (aa.at_ 1)).length) e93_1 _ (flat_ge' (qbm v) _)) Tryz.call124 fun _ _ bD=>?_
    clear bC
    refine qab ?_
    refine wp_seq ?_
    refine wp_seq ?_
    refine qlL (d:=96) [(2,.v (.bool false)),(7,.p 0 0),(8,.v (.int .i16 v)),(9,.v (.bool (decide (v ≥ 4)))),(10,.p 1 0),(13,.v (.slice (some ⟨ab,0,none⟩) ((lst (T.at_ 1)).length) ag)),(14,.v (.int .i32 (((lst (T.at_ 1)).length:Nat):Int))),(15,.v (.int .i32 ((ac:Nat):Int))),(17,.p 3 0),(20,.v (.slice none 0 0)),(21,.v (.int .i32 (((lst (aa.at_ 1)).length:Nat):Int))),(97,.v (.bool false))] bD (pOk _) Tryz.call125 fun _ _ aO=>?_
    clear bD
    refine qab ?_
    refine qat aO.env_ (b:=false) kz (rfl) ?_
    refine wp_skip ?_
    refine qab ?_
    refine wp_seq ?_
    refine qjC (t:=174) (e:=179) (size:=4) (bytes:=24) (d:=100) (A0:=none) (m:=0) (cp:=0) [(2,.v (.bool false)),(7,.p 0 0),(8,.v (.int .i16 v)),(9,.v (.bool (decide (v ≥ 4)))),(10,.p 1 0),(13,.v (.slice (some ⟨ab,0,none⟩) ((lst (T.at_ 1)).length) ag)),(14,.v (.int .i32 (((lst (T.at_ 1)).length:Nat):Int))),(15,.v (.int .i32 ((ac:Nat):Int))),(17,.p 3 0),(21,.v (.int .i32 (((lst (aa.at_ 1)).length:Nat):Int))),(99,.v (.slice none 0 0))] [(2,.v (.bool false)),(7,.p 0 0),(8,.v (.int .i16 v)),(9,.v (.bool (decide (v ≥ 4)))),(10,.p 1 0),(13,.v (.slice (some ⟨ab,0,none⟩) ((lst (T.at_ 1)).length) ag)),(14,.v (.int .i32 (((lst (T.at_ 1)).length:Nat):Int))),(15,.v (.int .i32 ((ac:Nat):Int))),(17,.p 3 0),(20,.v (.slice none 0 0)),(21,.v (.int .i32 (((lst (aa.at_ 1)).length:Nat):Int)))] 1 aO fun _ bE=>?_
    clear aO
    refine qab ?_
    refine qhL (Mid:=fun a_ w_=>∃ (aj:DV) (P':qcE),(∀ w F,P' w F → ff w F ∧ (Slots w F 4 aj.A aj.c aj.l (fun i=>[.int .i32 (((aj.f i).f 0).n),.int .i32 (((aj.f i).f 1).n),.int .i32 (((aj.f i).f 2).n),.map ((aj.f i).m)]) ∧ aj.l ≤ 1000000 ∧ ∀ i,i < aj.l → qaB w F (aj.f i)) ∧ (aj.l = (lst (aa.at_ 1)).length ∧ ∀ i,i < aj.l → qaG v (aj.f i) ((lst (aa.at_ 1)).getD i .zero))) ∧ RS w (fun b o=>b = bv ∧ o < 4) F 160 aV [⟨bv,0,[.int .i16 v,.int .i32 ak.n,.slice none 0 0,.map none],true⟩,qbs ab 3 (.agg #[.string ByteArray.empty,.slice none 0 0,.map none]) ((lst (T.at_ 1)).length) (ac + 1),⟨ab,ac * 3,[.string (bs (aa.at_ 0).S),.slice none 0 0,.map none],true⟩] [(2,.v (.bool false)),(7,.p 0 0),(8,.v (.int .i16 v)),(9,.v (.bool (decide (v ≥ 4)))),(10,.p 1 0),(13,.v (.slice (some ⟨ab,0,none⟩) ((lst (T.at_ 1)).length) ag)),(14,.v (.int .i32 (((lst (T.at_ 1)).length:Nat):Int))),(15,.v (.int .i32 ((ac:Nat):Int))),(17,.p 3 0),(20,.v (.slice aj.A aj.l aj.c))] P' bg a_ w_) ?_ ?_
    ·
     refine wp_seq ?_
     refine qb4 [(2,.v (.bool false)),(7,.p 0 0),(8,.v (.int .i16 v)),(9,.v (.bool (decide (v ≥ 4)))),(10,.p 1 0),(13,.v (.slice (some ⟨ab,0,none⟩) ((lst (T.at_ 1)).length) ag)),(14,.v (.int .i32 (((lst (T.at_ 1)).length:Nat):Int))),(15,.v (.int .i32 ((ac:Nat):Int))),(17,.p 3 0),(20,.v (.slice none 0 0)),(21,.v (.int .i32 (((lst (aa.at_ 1)).length:Nat):Int))),(102,.v (.bool (decide ((((lst (aa.at_ 1)).length:Nat):Int) > 0))))] bE fun _ ar=>qab ?_
     clear bE
     refine qay ar.env_ (b:=decide ((((lst (aa.at_ 1)).length:Nat):Int) > 0)) kz (fun aG=>?_) (fun aG=>?_)
     ·
      have hn_g130:0 < (lst (aa.at_ 1)).length:=by have h_:=of_decide_eq_true aG; omega
      refine qar [0,1,2,3] kz ?_
      refine qdg [0,1] [2,3] [(2,.v (.bool false)),(7,.p 0 0),(8,.v (.int .i16 v)),(9,.v (.bool (decide (v ≥ 4)))),(10,.p 1 0),(13,.v (.slice (some ⟨ab,0,none⟩) ((lst (T.at_ 1)).length) ag)),(14,.v (.int .i32 (((lst (T.at_ 1)).length:Nat):Int))),(15,.v (.int .i32 ((ac:Nat):Int))),(17,.p 3 0),(21,.v (.int .i32 (((lst (aa.at_ 1)).length:Nat):Int))),(103,.v (.slice none 0 0)),(104,.v (.int .i32 (((lst (aa.at_ 1)).length:Nat):Int)))] ar fun _ bF=>?_
      clear ar
      refine qam (qfH (A0:=none) (d:=105) (t:=174) (tn:=21) (e:=179) (size:=4) (bytes:=24) (k:=.i32) (kn:=.i32) (q:=(((lst (aa.at_ 1)).length:Nat):Int)) (j:=(lst (aa.at_ 1)).length) (.agg #[.int .i32 0,.int .i32 0,.int .i32 0,.map none]) bF (fun ae ah _ _ hg_g130 hcap_g130 bG=>?_) rfl hn_g130 (by have:=e93_1; omega))
      clear bF
      refine qdg [3] [] [(2,.v (.bool false)),(7,.p 0 0),(8,.v (.int .i16 v)),(9,.v (.bool (decide (v ≥ 4)))),(10,.p 1 0),(13,.v (.slice (some ⟨ab,0,none⟩) ((lst (T.at_ 1)).length) ag)),(14,.v (.int .i32 (((lst (T.at_ 1)).length:Nat):Int))),(15,.v (.int .i32 ((ac:Nat):Int))),(17,.p 3 0),(20,.v (.slice (some ⟨ae,0,none⟩) ((lst (aa.at_ 1)).length) ah)),(21,.v (.int .i32 (((lst (aa.at_ 1)).length:Nat):Int)))] bG fun _ bH=>qaf ?_
      clear bG
      refine qab ?_
      refine wp_seq ?_
      refine qb4 [(2,.v (.bool false)),(7,.p 0 0),(8,.v (.int .i16 v)),(9,.v (.bool (decide (v ≥ 4)))),(10,.p 1 0),(13,.v (.slice (some ⟨ab,0,none⟩) ((lst (T.at_ 1)).length) ag)),(14,.v (.int .i32 (((lst (T.at_ 1)).length:Nat):Int))),(15,.v (.int .i32 ((ac:Nat):Int))),(17,.p 3 0),(20,.v (.slice (some ⟨ae,0,none⟩) ((lst (aa.at_ 1)).length) ah)),(21,.v (.int .i32 (((lst (aa.at_ 1)).length:Nat):Int))),(22,.v (.int .i32 0))] bH fun _ aP=>?_
      clear bH
      refine qab ?_
      refine wp_block ?_
      have aQ:=aP.mv
      have em:=(aP.cast (t:=(lst (aa.at_ 1)).flatMap (qap v) ++ bg) rfl).pk (env':=[(2,.v (.bool false)),(7,.p 0 0),(8,.v (.int .i16 v)),(9,.v (.bool (decide (v ≥ 4)))),(10,.p 1 0),(13,.v (.slice (some ⟨ab,0,none⟩) ((lst (T.at_ 1)).length) ag)),(14,.v (.int .i32 (((lst (T.at_ 1)).length:Nat):Int))),(15,.v (.int .i32 ((ac:Nat):Int))),(17,.p 3 0),(20,.v (.slice (some ⟨ae,0,none⟩) ((lst (aa.at_ 1)).length) ah)),(21,.v (.int .i32 (((lst (aa.at_ 1)).length:Nat):Int))),(22,.v (.int .i32 ((0:Nat):Int)))])
      clear aP
      refine qjy (tb:=[⟨bv,0,[.int .i16 v,.int .i32 ak.n,.slice none 0 0,.map none],true⟩,qbs ab 3 (.agg #[.string ByteArray.empty,.slice none 0 0,.map none]) ((lst (T.at_ 1)).length) (ac + 1),⟨ab,ac * 3,[.string (bs (aa.at_ 0).S),.slice none 0 0,.map none],true⟩]) (z:=.agg #[.int .i32 0,.int .i32 0,.int .i32 0,.map none]) (cl:=qbo) (ok:=qaB) (rel:=(qaG v)) (L:=lst (aa.at_ 1)) (size:=4) (qap v) bg (fun k=>[(2,.v (.bool false)),(7,.p 0 0),(8,.v (.int .i16 v)),(9,.v (.bool (decide (v ≥ 4)))),(10,.p 1 0),(13,.v (.slice (some ⟨ab,0,none⟩) ((lst (T.at_ 1)).length) ag)),(14,.v (.int .i32 (((lst (T.at_ 1)).length:Nat):Int))),(15,.v (.int .i32 ((ac:Nat):Int))),(17,.p 3 0),(20,.v (.slice (some ⟨ae,0,none⟩) ((lst (aa.at_ 1)).length) ah)),(21,.v (.int .i32 (((lst (aa.at_ 1)).length:Nat):Int))),(22,.v (.int .i32 ((k:Nat):Int)))]) em qaY (fun af ai _ _ aR eo bI=>?_) (fun _ _ bJ=>?_)
      ·
       obtain ⟨eU,bK,bL⟩:∃ P',(∀ w F,P' w F → (ff w F ∧ qfq ae 4 qbo qaB (qaG v) (lst (aa.at_ 1)) af w F)) ∧ RS w (fun b o=>b = bv ∧ o < 4) F 160 aV [⟨bv,0,[.int .i16 v,.int .i32 ak.n,.slice none 0 0,.map none],true⟩,qbs ab 3 (.agg #[.string ByteArray.empty,.slice none 0 0,.map none]) ((lst (T.at_ 1)).length) (ac + 1),⟨ab,ac * 3,[.string (bs (aa.at_ 0).S),.slice none 0 0,.map none],true⟩,qbs ae 4 (.agg #[.int .i32 0,.int .i32 0,.int .i32 0,.map none]) ((lst (aa.at_ 1)).length) af] [(2,.v (.bool false)),(7,.p 0 0),(8,.v (.int .i16 v)),(9,.v (.bool (decide (v ≥ 4)))),(10,.p 1 0),(13,.v (.slice (some ⟨ab,0,none⟩) ((lst (T.at_ 1)).length) ag)),(14,.v (.int .i32 (((lst (T.at_ 1)).length:Nat):Int))),(15,.v (.int .i32 ((ac:Nat):Int))),(17,.p 3 0),(20,.v (.slice (some ⟨ae,0,none⟩) ((lst (aa.at_ 1)).length) ah)),(21,.v (.int .i32 (((lst (aa.at_ 1)).length:Nat):Int))),(22,.v (.int .i32 ((af:Nat):Int)))] P' ((qap v) ai ++ (((lst (aa.at_ 1)).drop (af + 1)).flatMap (qap v) ++ bg)) _ _:=⟨_,fun _ _ h=>h,bI⟩
       clear bI
       obtain ⟨aS,bM⟩:∃ R,R = ((lst (aa.at_ 1)).drop (af + 1)).flatMap (qap v) ++ bg:=⟨_,rfl⟩
       have ep:=(e93_1e ai (List.mem_of_getElem? aR))
       have e149r:=(qfG (qfl e93r 1) ai (List.mem_of_getElem? aR))
       unfold qaW at ep
       obtain ⟨e149_0,e149_1,e149_2,e149_U,_⟩:=ep
       obtain ⟨eV,bN⟩:∃ R,R = (if (decide (v ≥ 4)) = true then (uv ai.U.length) ++ (qbr ai.U) else []) ++ aS:=⟨_,rfl⟩
       obtain ⟨aT,bO⟩:∃ R,R = (be 4 ((IntKind.i32.wrap (ai.at_ 2).N))) ++ eV:=⟨_,rfl⟩
       obtain ⟨eW,bP⟩:∃ R,R = (if (decide (v ≥ 2)) = true then be 4 ((IntKind.i32.wrap (ai.at_ 1).N)) else []) ++ aT:=⟨_,rfl⟩
       obtain ⟨eX,bQ⟩:∃ R,R = (be 4 ((IntKind.i32.wrap (ai.at_ 0).N))) ++ eW:=⟨_,rfl⟩
       have bR:=bL.cast (t:=eX) (by rw [bQ,bP,bO,bN,← bM]; unfold qap; simp only [List.append_assoc])
       clear bL
       refine wp_seq ?_
       refine wp_seq ?_
       refine qb4 [(2,.v (.bool false)),(7,.p 0 0),(8,.v (.int .i16 v)),(9,.v (.bool (decide (v ≥ 4)))),(10,.p 1 0),(13,.v (.slice (some ⟨ab,0,none⟩) ((lst (T.at_ 1)).length) ag)),(14,.v (.int .i32 (((lst (T.at_ 1)).length:Nat):Int))),(15,.v (.int .i32 ((ac:Nat):Int))),(17,.p 3 0),(20,.v (.slice (some ⟨ae,0,none⟩) ((lst (aa.at_ 1)).length) ah)),(21,.v (.int .i32 (((lst (aa.at_ 1)).length:Nat):Int))),(22,.v (.int .i32 ((af:Nat):Int))),(108,.v (.bool (decide (((af:Nat):Int) < (((lst (aa.at_ 1)).length:Nat):Int)))))] bR fun _ aU=>qab ?_
       clear bR
       refine qbK aU.env_ (b:=decide (((af:Nat):Int) < (((lst (aa.at_ 1)).length:Nat):Int))) kz (decide_eq_true (by omega)) ?_
       refine wp_skip ?_
       refine qab ?_
       refine wp_seq ?_
       refine wp_block ?_
       refine wp_seq ?_
       refine qjD (t:=174) (e:=179) (size:=4) (bytes:=24) (d:=113) (tb:=[⟨bv,0,[.int .i16 v,.int .i32 ak.n,.slice none 0 0,.map none],true⟩,qbs ab 3 (.agg #[.string ByteArray.empty,.slice none 0 0,.map none]) ((lst (T.at_ 1)).length) (ac + 1),⟨ab,ac * 3,[.string (bs (aa.at_ 0).S),.slice none 0 0,.map none],true⟩]) (z:=.agg #[.int .i32 0,.int .i32 0,.int .i32 0,.map none]) [(2,.v (.bool false)),(7,.p 0 0),(8,.v (.int .i16 v)),(9,.v (.bool (decide (v ≥ 4)))),(10,.p 1 0),(13,.v (.slice (some ⟨ab,0,none⟩) ((lst (T.at_ 1)).length) ag)),(14,.v (.int .i32 (((lst (T.at_ 1)).length:Nat):Int))),(15,.v (.int .i32 ((ac:Nat):Int))),(17,.p 3 0),(20,.v (.slice (some ⟨ae,0,none⟩) ((lst (aa.at_ 1)).length) ah)),(21,.v (.int .i32 (((lst (aa.at_ 1)).length:Nat):Int))),(22,.v (.int .i32 ((af:Nat):Int))),(111,.v (.slice (some ⟨ae,0,none⟩) ((lst (aa.at_ 1)).length) ah)),(112,.v (.int .i32 ((af:Nat):Int)))] [(2,.v (.bool false)),(7,.p 0 0),(8,.v (.int .i16 v)),(9,.v (.bool (decide (v ≥ 4)))),(10,.p 1 0),(13,.v (.slice (some ⟨ab,0,none⟩) ((lst (T.at_ 1)).length) ag)),(14,.v (.int .i32 (((lst (T.at_ 1)).length:Nat):Int))),(15,.v (.int .i32 ((ac:Nat):Int))),(17,.p 3 0),(20,.v (.slice (some ⟨ae,0,none⟩) ((lst (aa.at_ 1)).length) ah)),(21,.v (.int .i32 (((lst (aa.at_ 1)).length:Nat):Int))),(22,.v (.int .i32 ((af:Nat):Int))),(23,.p 5 0)] 2 aU eo rfl kz fun _ bS=>?_
       clear aU
       have bT:=bS.tbEq (tb':=[⟨bv,0,[.int .i16 v,.int .i32 ak.n,.slice none 0 0,.map none],true⟩,qbs ab 3 (.agg #[.string ByteArray.empty,.slice none 0 0,.map none]) ((lst (T.at_ 1)).length) (ac + 1),⟨ab,ac * 3,[.string (bs (aa.at_ 0).S),.slice none 0 0,.map none],true⟩,qbs ae 4 (.agg #[.int .i32 0,.int .i32 0,.int .i32 0,.map none]) ((lst (aa.at_ 1)).length) (af + 1),⟨ae,af * 4,[.int .i32 0,.int .i32 0,.int .i32 0,.map none],true⟩]) rfl
       clear bS
       refine qab ?_
       refine wp_seq ?_
       refine qar [0,1] kz ?_
       refine qdg [0] [1] [(2,.v (.bool false)),(7,.p 0 0),(8,.v (.int .i16 v)),(9,.v (.bool (decide (v ≥ 4)))),(10,.p 1 0),(13,.v (.slice (some ⟨ab,0,none⟩) ((lst (T.at_ 1)).length) ag)),(14,.v (.int .i32 (((lst (T.at_ 1)).length:Nat):Int))),(15,.v (.int .i32 ((ac:Nat):Int))),(17,.p 3 0),(20,.v (.slice (some ⟨ae,0,none⟩) ((lst (aa.at_ 1)).length) ah)),(21,.v (.int .i32 (((lst (aa.at_ 1)).length:Nat):Int))),(22,.v (.int .i32 ((af:Nat):Int))),(23,.p 5 0),(114,.p 5 0)] bT fun _ bU=>?_
       clear bT
       refine qam (qjx (d:=115) (vs:=[.pointer (some ⟨ae,af * 4,none⟩)]) bU Tryz.call145 Tryz.func145 rfl Tryz.ntmps145 (fun _ bV=>?_))
       clear bU
       have bW:=(bV.recast 0 (.v (.pointer (some ⟨ae,af * 4,none⟩))) (.p 5 0) rfl rfl (Nat.le_of_ble_eq_true (n:=6) rfl)).pk (env':=[(0,.p 5 0)])
       clear bV
       refine qeS [⟨bv,0,[.int .i16 v,.int .i32 ak.n,.slice none 0 0,.map none],true⟩,qbs ab 3 (.agg #[.string ByteArray.empty,.slice none 0 0,.map none]) ((lst (T.at_ 1)).length) (ac + 1),⟨ab,ac * 3,[.string (bs (aa.at_ 0).S),.slice none 0 0,.map none],true⟩,qbs ae 4 (.agg #[.int .i32 0,.int .i32 0,.int .i32 0,.map none]) ((lst (aa.at_ 1)).length) (af + 1),⟨ae,af * 4,[.int .i32 0,.int .i32 (-1),.int .i32 0,.map none],true⟩] 4 [] bW fun _ _ bX=>?_
       clear bW
       refine qke (v:=.tuple #[]) bX (fun _ bY=>?_) (⟨rfl,rfl,⟨rfl,rfl,⟨rfl,rfl,⟨rfl,rfl,⟨rfl,rfl,⟨rfl,rfl,trivial⟩⟩⟩⟩⟩⟩)
       clear bX
       refine qaf ?_
       have bZ:=bY.pk (env':=[(2,.v (.bool false)),(7,.p 0 0),(8,.v (.int .i16 v)),(9,.v (.bool (decide (v ≥ 4)))),(10,.p 1 0),(13,.v (.slice (some ⟨ab,0,none⟩) ((lst (T.at_ 1)).length) ag)),(14,.v (.int .i32 (((lst (T.at_ 1)).length:Nat):Int))),(15,.v (.int .i32 ((ac:Nat):Int))),(17,.p 3 0),(20,.v (.slice (some ⟨ae,0,none⟩) ((lst (aa.at_ 1)).length) ah)),(21,.v (.int .i32 (((lst (aa.at_ 1)).length:Nat):Int))),(22,.v (.int .i32 ((af:Nat):Int))),(23,.p 5 0)])
       clear bY
       refine qab ?_
       refine wp_seq ?_
       refine qb4 [(2,.v (.bool false)),(7,.p 0 0),(8,.v (.int .i16 v)),(9,.v (.bool (decide (v ≥ 4)))),(10,.p 1 0),(13,.v (.slice (some ⟨ab,0,none⟩) ((lst (T.at_ 1)).length) ag)),(14,.v (.int .i32 (((lst (T.at_ 1)).length:Nat):Int))),(15,.v (.int .i32 ((ac:Nat):Int))),(17,.p 3 0),(20,.v (.slice (some ⟨ae,0,none⟩) ((lst (aa.at_ 1)).length) ah)),(21,.v (.int .i32 (((lst (aa.at_ 1)).length:Nat):Int))),(22,.v (.int .i32 ((af:Nat):Int))),(24,.p 5 0)] bZ fun _ b8=>?_
       clear bZ
       refine qab ?_
       refine wp_seq ?_
       refine wp_seq ?_
       have cd:=b8.cast bQ
       clear b8
       refine qfm (d:=117) [(2,.v (.bool false)),(7,.p 0 0),(8,.v (.int .i16 v)),(9,.v (.bool (decide (v ≥ 4)))),(10,.p 1 0),(13,.v (.slice (some ⟨ab,0,none⟩) ((lst (T.at_ 1)).length) ag)),(14,.v (.int .i32 (((lst (T.at_ 1)).length:Nat):Int))),(15,.v (.int .i32 ((ac:Nat):Int))),(17,.p 3 0),(20,.v (.slice (some ⟨ae,0,none⟩) ((lst (aa.at_ 1)).length) ah)),(21,.v (.int .i32 (((lst (aa.at_ 1)).length:Nat):Int))),(22,.v (.int .i32 ((af:Nat):Int))),(24,.p 5 0),(25,.v (.int .i32 (IntKind.i32.wrap (ai.at_ 0).N)))] cd (qhN _ _) Tryz.call117 fun _ _ ce=>?_
       clear cd
       refine qab ?_
       refine qeS [⟨bv,0,[.int .i16 v,.int .i32 ak.n,.slice none 0 0,.map none],true⟩,qbs ab 3 (.agg #[.string ByteArray.empty,.slice none 0 0,.map none]) ((lst (T.at_ 1)).length) (ac + 1),⟨ab,ac * 3,[.string (bs (aa.at_ 0).S),.slice none 0 0,.map none],true⟩,qbs ae 4 (.agg #[.int .i32 0,.int .i32 0,.int .i32 0,.map none]) ((lst (aa.at_ 1)).length) (af + 1),⟨ae,af * 4,[.int .i32 (IntKind.i32.wrap (ai.at_ 0).N),.int .i32 (-1),.int .i32 0,.map none],true⟩] 4 [(2,.v (.bool false)),(7,.p 0 0),(8,.v (.int .i16 v)),(9,.v (.bool (decide (v ≥ 4)))),(10,.p 1 0),(13,.v (.slice (some ⟨ab,0,none⟩) ((lst (T.at_ 1)).length) ag)),(14,.v (.int .i32 (((lst (T.at_ 1)).length:Nat):Int))),(15,.v (.int .i32 ((ac:Nat):Int))),(17,.p 3 0),(20,.v (.slice (some ⟨ae,0,none⟩) ((lst (aa.at_ 1)).length) ah)),(21,.v (.int .i32 (((lst (aa.at_ 1)).length:Nat):Int))),(22,.v (.int .i32 ((af:Nat):Int))),(24,.p 5 0)] ce fun _ _ cg=>?_
       clear ce
       refine qab ?_
       refine wp_seq ?_
       have cm:=cg.cast bP
       clear cg
       refine qeB (Mid:=fun a_ w_=>∃ (au:DV) (P':qcE),(∀ w F,P' w F → eU w F ∧ (True) ∧ ((decide (v ≥ 2)) = true → au.n = IntKind.i32.wrap (ai.at_ 1).N) ∧ ((decide (v ≥ 2)) = false → au.n = -1)) ∧ RS w (fun b o=>b = bv ∧ o < 4) F 160 aV [⟨bv,0,[.int .i16 v,.int .i32 ak.n,.slice none 0 0,.map none],true⟩,qbs ab 3 (.agg #[.string ByteArray.empty,.slice none 0 0,.map none]) ((lst (T.at_ 1)).length) (ac + 1),⟨ab,ac * 3,[.string (bs (aa.at_ 0).S),.slice none 0 0,.map none],true⟩,qbs ae 4 (.agg #[.int .i32 0,.int .i32 0,.int .i32 0,.map none]) ((lst (aa.at_ 1)).length) (af + 1),⟨ae,af * 4,[.int .i32 (IntKind.i32.wrap (ai.at_ 0).N),.int .i32 au.n,.int .i32 0,.map none],true⟩] [(2,.v (.bool false)),(7,.p 0 0),(8,.v (.int .i16 v)),(9,.v (.bool (decide (v ≥ 4)))),(10,.p 1 0),(13,.v (.slice (some ⟨ab,0,none⟩) ((lst (T.at_ 1)).length) ag)),(14,.v (.int .i32 (((lst (T.at_ 1)).length:Nat):Int))),(15,.v (.int .i32 ((ac:Nat):Int))),(17,.p 3 0),(20,.v (.slice (some ⟨ae,0,none⟩) ((lst (aa.at_ 1)).length) ah)),(21,.v (.int .i32 (((lst (aa.at_ 1)).length:Nat):Int))),(22,.v (.int .i32 ((af:Nat):Int))),(24,.p 5 0)] P' aT a_ w_) ?_ ?_
       ·
        refine wp_seq ?_
        refine qb4 [(2,.v (.bool false)),(7,.p 0 0),(8,.v (.int .i16 v)),(9,.v (.bool (decide (v ≥ 4)))),(10,.p 1 0),(13,.v (.slice (some ⟨ab,0,none⟩) ((lst (T.at_ 1)).length) ag)),(14,.v (.int .i32 (((lst (T.at_ 1)).length:Nat):Int))),(15,.v (.int .i32 ((ac:Nat):Int))),(17,.p 3 0),(20,.v (.slice (some ⟨ae,0,none⟩) ((lst (aa.at_ 1)).length) ah)),(21,.v (.int .i32 (((lst (aa.at_ 1)).length:Nat):Int))),(22,.v (.int .i32 ((af:Nat):Int))),(24,.p 5 0),(123,.v (.bool (decide (v ≥ 2))))] cm fun _ av=>qab ?_
        clear cm
        refine qay av.env_ (b:=decide (v ≥ 2)) kz (fun aw=>?_) (fun aw=>?_)
        ·
         have cq:=av.cast (t:=(be 4 ((IntKind.i32.wrap (ai.at_ 1).N))) ++ aT) (by rw [if_pos aw])
         clear av
         refine wp_seq ?_
         refine qfm (d:=124) [(2,.v (.bool false)),(7,.p 0 0),(8,.v (.int .i16 v)),(9,.v (.bool (decide (v ≥ 4)))),(10,.p 1 0),(13,.v (.slice (some ⟨ab,0,none⟩) ((lst (T.at_ 1)).length) ag)),(14,.v (.int .i32 (((lst (T.at_ 1)).length:Nat):Int))),(15,.v (.int .i32 ((ac:Nat):Int))),(17,.p 3 0),(20,.v (.slice (some ⟨ae,0,none⟩) ((lst (aa.at_ 1)).length) ah)),(21,.v (.int .i32 (((lst (aa.at_ 1)).length:Nat):Int))),(22,.v (.int .i32 ((af:Nat):Int))),(24,.p 5 0),(26,.v (.int .i32 (IntKind.i32.wrap (ai.at_ 1).N)))] cq (qhN _ _) Tryz.call117 fun _ _ cr=>?_
         clear cq
         refine qab ?_
         refine qeS [⟨bv,0,[.int .i16 v,.int .i32 ak.n,.slice none 0 0,.map none],true⟩,qbs ab 3 (.agg #[.string ByteArray.empty,.slice none 0 0,.map none]) ((lst (T.at_ 1)).length) (ac + 1),⟨ab,ac * 3,[.string (bs (aa.at_ 0).S),.slice none 0 0,.map none],true⟩,qbs ae 4 (.agg #[.int .i32 0,.int .i32 0,.int .i32 0,.map none]) ((lst (aa.at_ 1)).length) (af + 1),⟨ae,af * 4,[.int .i32 (IntKind.i32.wrap (ai.at_ 0).N),.int .i32 (IntKind.i32.wrap (ai.at_ 1).N),.int .i32 0,.map none],true⟩] 4 [(2,.v (.bool false)),(7,.p 0 0),(8,.v (.int .i16 v)),(9,.v (.bool (decide (v ≥ 4)))),(10,.p 1 0),(13,.v (.slice (some ⟨ab,0,none⟩) ((lst (T.at_ 1)).length) ag)),(14,.v (.int .i32 (((lst (T.at_ 1)).length:Nat):Int))),(15,.v (.int .i32 ((ac:Nat):Int))),(17,.p 3 0),(20,.v (.slice (some ⟨ae,0,none⟩) ((lst (aa.at_ 1)).length) ah)),(21,.v (.int .i32 (((lst (aa.at_ 1)).length:Nat):Int))),(22,.v (.int .i32 ((af:Nat):Int))),(24,.p 5 0)] cr fun _ _ eu=>?_
         clear cr
         refine qab ?_
         exact ⟨dvN (IntKind.i32.wrap (ai.at_ 1).N),_,fun w F h_=>⟨h_,trivial,⟨fun _=>rfl,(fun e_=>by rw [aw] at e_; cases e_)⟩⟩,eu.pk (env':=[(2,.v (.bool false)),(7,.p 0 0),(8,.v (.int .i16 v)),(9,.v (.bool (decide (v ≥ 4)))),(10,.p 1 0),(13,.v (.slice (some ⟨ab,0,none⟩) ((lst (T.at_ 1)).length) ag)),(14,.v (.int .i32 (((lst (T.at_ 1)).length:Nat):Int))),(15,.v (.int .i32 ((ac:Nat):Int))),(17,.p 3 0),(20,.v (.slice (some ⟨ae,0,none⟩) ((lst (aa.at_ 1)).length) ah)),(21,.v (.int .i32 (((lst (aa.at_ 1)).length:Nat):Int))),(22,.v (.int .i32 ((af:Nat):Int))),(24,.p 5 0)])⟩
        have cu:=av.cast (t:=[] ++ aT) (by rw [if_neg (by rw [aw]; decide)])
        clear av
        have ev:=cu.cast (t:=aT) rfl
        clear cu
        refine wp_skip (qab ?_)
        exact ⟨dvN (-1),_,fun w F h_=>⟨h_,trivial,⟨(fun e_=>by rw [aw] at e_; cases e_),fun _=>rfl⟩⟩,ev.pk (env':=[(2,.v (.bool false)),(7,.p 0 0),(8,.v (.int .i16 v)),(9,.v (.bool (decide (v ≥ 4)))),(10,.p 1 0),(13,.v (.slice (some ⟨ab,0,none⟩) ((lst (T.at_ 1)).length) ag)),(14,.v (.int .i32 (((lst (T.at_ 1)).length:Nat):Int))),(15,.v (.int .i32 ((ac:Nat):Int))),(17,.p 3 0),(20,.v (.slice (some ⟨ae,0,none⟩) ((lst (aa.at_ 1)).length) ah)),(21,.v (.int .i32 (((lst (aa.at_ 1)).length:Nat):Int))),(22,.v (.int .i32 ((af:Nat):Int))),(24,.p 5 0)])⟩
       rintro _ _ ⟨au,eY,aH,cv⟩
       refine qab ?_
       refine wp_seq ?_
       refine wp_seq ?_
       have cw:=cv.cast bO
       clear cv
       refine qfm (d:=129) [(2,.v (.bool false)),(7,.p 0 0),(8,.v (.int .i16 v)),(9,.v (.bool (decide (v ≥ 4)))),(10,.p 1 0),(13,.v (.slice (some ⟨ab,0,none⟩) ((lst (T.at_ 1)).length) ag)),(14,.v (.int .i32 (((lst (T.at_ 1)).length:Nat):Int))),(15,.v (.int .i32 ((ac:Nat):Int))),(17,.p 3 0),(20,.v (.slice (some ⟨ae,0,none⟩) ((lst (aa.at_ 1)).length) ah)),(21,.v (.int .i32 (((lst (aa.at_ 1)).length:Nat):Int))),(22,.v (.int .i32 ((af:Nat):Int))),(24,.p 5 0),(27,.v (.int .i32 (IntKind.i32.wrap (ai.at_ 2).N)))] cw (qhN _ _) Tryz.call117 fun _ _ cz=>?_
       clear cw
       refine qab ?_
       refine qeS [⟨bv,0,[.int .i16 v,.int .i32 ak.n,.slice none 0 0,.map none],true⟩,qbs ab 3 (.agg #[.string ByteArray.empty,.slice none 0 0,.map none]) ((lst (T.at_ 1)).length) (ac + 1),⟨ab,ac * 3,[.string (bs (aa.at_ 0).S),.slice none 0 0,.map none],true⟩,qbs ae 4 (.agg #[.int .i32 0,.int .i32 0,.int .i32 0,.map none]) ((lst (aa.at_ 1)).length) (af + 1),⟨ae,af * 4,[.int .i32 (IntKind.i32.wrap (ai.at_ 0).N),.int .i32 au.n,.int .i32 (IntKind.i32.wrap (ai.at_ 2).N),.map none],true⟩] 4 [(2,.v (.bool false)),(7,.p 0 0),(8,.v (.int .i16 v)),(9,.v (.bool (decide (v ≥ 4)))),(10,.p 1 0),(13,.v (.slice (some ⟨ab,0,none⟩) ((lst (T.at_ 1)).length) ag)),(14,.v (.int .i32 (((lst (T.at_ 1)).length:Nat):Int))),(15,.v (.int .i32 ((ac:Nat):Int))),(17,.p 3 0),(20,.v (.slice (some ⟨ae,0,none⟩) ((lst (aa.at_ 1)).length) ah)),(21,.v (.int .i32 (((lst (aa.at_ 1)).length:Nat):Int))),(22,.v (.int .i32 ((af:Nat):Int))),(24,.p 5 0)] cz fun _ _ cA=>?_
       clear cz
       refine qab ?_
       have cB:=cA.cast bN
       clear cA
       refine qeB (Mid:=fun a_ w_=>∃ (aX:Option Nat) (aD:List (Int × Bs)) (P':qcE),(∀ w F,P' w F → eY w F ∧ (MapR w F aX aD ∧ aD.length ≤ 1000000 ∧ ∀ x ∈ aD,x.2.length < 4294967296) ∧ ((decide (v ≥ 4)) = true → aD = ai.U) ∧ ((decide (v ≥ 4)) = false → aD = [])) ∧ RS w (fun b o=>b = bv ∧ o < 4) F 160 aV [⟨bv,0,[.int .i16 v,.int .i32 ak.n,.slice none 0 0,.map none],true⟩,qbs ab 3 (.agg #[.string ByteArray.empty,.slice none 0 0,.map none]) ((lst (T.at_ 1)).length) (ac + 1),⟨ab,ac * 3,[.string (bs (aa.at_ 0).S),.slice none 0 0,.map none],true⟩,qbs ae 4 (.agg #[.int .i32 0,.int .i32 0,.int .i32 0,.map none]) ((lst (aa.at_ 1)).length) (af + 1),⟨ae,af * 4,[.int .i32 (IntKind.i32.wrap (ai.at_ 0).N),.int .i32 au.n,.int .i32 (IntKind.i32.wrap (ai.at_ 2).N),.map aX],true⟩] [(2,.v (.bool false)),(7,.p 0 0),(8,.v (.int .i16 v)),(9,.v (.bool (decide (v ≥ 4)))),(10,.p 1 0),(13,.v (.slice (some ⟨ab,0,none⟩) ((lst (T.at_ 1)).length) ag)),(14,.v (.int .i32 (((lst (T.at_ 1)).length:Nat):Int))),(15,.v (.int .i32 ((ac:Nat):Int))),(17,.p 3 0),(20,.v (.slice (some ⟨ae,0,none⟩) ((lst (aa.at_ 1)).length) ah)),(21,.v (.int .i32 (((lst (aa.at_ 1)).length:Nat):Int))),(22,.v (.int .i32 ((af:Nat):Int)))] P' aS a_ w_) ?_ ?_
       ·
        refine wp_seq ?_
        refine qb4 [(2,.v (.bool false)),(7,.p 0 0),(8,.v (.int .i16 v)),(9,.v (.bool (decide (v ≥ 4)))),(10,.p 1 0),(13,.v (.slice (some ⟨ab,0,none⟩) ((lst (T.at_ 1)).length) ag)),(14,.v (.int .i32 (((lst (T.at_ 1)).length:Nat):Int))),(15,.v (.int .i32 ((ac:Nat):Int))),(17,.p 3 0),(20,.v (.slice (some ⟨ae,0,none⟩) ((lst (aa.at_ 1)).length) ah)),(21,.v (.int .i32 (((lst (aa.at_ 1)).length:Nat):Int))),(22,.v (.int .i32 ((af:Nat):Int))),(24,.p 5 0),(134,.v (.bool (decide (v ≥ 4))))] cB fun _ ax=>qab ?_
        clear cB
        refine qay ax.env_ (b:=decide (v ≥ 4)) kz (fun ay=>?_) (fun ay=>?_)
        ·
         have cC:=ax.cast (t:=((uv ai.U.length) ++ (qbr ai.U)) ++ aS) (by rw [if_pos ay])
         clear ax
         refine qar [0,1,2,3,4] kz ?_
         refine qdg [0] [1,2,3,4] [(2,.v (.bool false)),(7,.p 0 0),(8,.v (.int .i16 v)),(9,.v (.bool (decide (v ≥ 4)))),(10,.p 1 0),(13,.v (.slice (some ⟨ab,0,none⟩) ((lst (T.at_ 1)).length) ag)),(14,.v (.int .i32 (((lst (T.at_ 1)).length:Nat):Int))),(15,.v (.int .i32 ((ac:Nat):Int))),(17,.p 3 0),(20,.v (.slice (some ⟨ae,0,none⟩) ((lst (aa.at_ 1)).length) ah)),(21,.v (.int .i32 (((lst (aa.at_ 1)).length:Nat):Int))),(22,.v (.int .i32 ((af:Nat):Int))),(135,.p 5 0)] cC fun _ cD=>?_
         clear cC
         refine qam (qhg (d:=136) cD (qlc ai.U e149_U (qeZ e149r) _) (fun _=>MvF.tags _ _) Tryz.call130 fun dC fr _ _ cE cG=>?_)
         clear cD
         refine qdg [2,3] [4] [(2,.v (.bool false)),(7,.p 0 0),(8,.v (.int .i16 v)),(9,.v (.bool (decide (v ≥ 4)))),(10,.p 1 0),(13,.v (.slice (some ⟨ab,0,none⟩) ((lst (T.at_ 1)).length) ag)),(14,.v (.int .i32 (((lst (T.at_ 1)).length:Nat):Int))),(15,.v (.int .i32 ((ac:Nat):Int))),(17,.p 3 0),(20,.v (.slice (some ⟨ae,0,none⟩) ((lst (aa.at_ 1)).length) ah)),(21,.v (.int .i32 (((lst (aa.at_ 1)).length:Nat):Int))),(22,.v (.int .i32 ((af:Nat):Int))),(136,.v (.agg #[.map dC])),(138,.p 5 3)] cG fun _ cH=>?_
         clear cG
         refine qam (qgb [⟨bv,0,[.int .i16 v,.int .i32 ak.n,.slice none 0 0,.map none],true⟩,qbs ab 3 (.agg #[.string ByteArray.empty,.slice none 0 0,.map none]) ((lst (T.at_ 1)).length) (ac + 1),⟨ab,ac * 3,[.string (bs (aa.at_ 0).S),.slice none 0 0,.map none],true⟩,qbs ae 4 (.agg #[.int .i32 0,.int .i32 0,.int .i32 0,.map none]) ((lst (aa.at_ 1)).length) (af + 1),⟨ae,af * 4,[.int .i32 (IntKind.i32.wrap (ai.at_ 0).N),.int .i32 au.n,.int .i32 (IntKind.i32.wrap (ai.at_ 2).N),.map dC],true⟩] 4 cH fun _ cI=>?_)
         clear cH
         refine qaf ?_
         have ew:=cI.pk (env':=[(2,.v (.bool false)),(7,.p 0 0),(8,.v (.int .i16 v)),(9,.v (.bool (decide (v ≥ 4)))),(10,.p 1 0),(13,.v (.slice (some ⟨ab,0,none⟩) ((lst (T.at_ 1)).length) ag)),(14,.v (.int .i32 (((lst (T.at_ 1)).length:Nat):Int))),(15,.v (.int .i32 ((ac:Nat):Int))),(17,.p 3 0),(20,.v (.slice (some ⟨ae,0,none⟩) ((lst (aa.at_ 1)).length) ah)),(21,.v (.int .i32 (((lst (aa.at_ 1)).length:Nat):Int))),(22,.v (.int .i32 ((af:Nat):Int)))])
         clear cI
         refine qab ?_
         exact ⟨dC,ai.U,_,fun w F h_=>⟨(cE _ _ h_).1,⟨(cE _ _ h_).2,e149_U.2.1,e149_U.2.2⟩,⟨fun _=>rfl,(fun e_=>by rw [ay] at e_; cases e_)⟩⟩,ew.pk (env':=[(2,.v (.bool false)),(7,.p 0 0),(8,.v (.int .i16 v)),(9,.v (.bool (decide (v ≥ 4)))),(10,.p 1 0),(13,.v (.slice (some ⟨ab,0,none⟩) ((lst (T.at_ 1)).length) ag)),(14,.v (.int .i32 (((lst (T.at_ 1)).length:Nat):Int))),(15,.v (.int .i32 ((ac:Nat):Int))),(17,.p 3 0),(20,.v (.slice (some ⟨ae,0,none⟩) ((lst (aa.at_ 1)).length) ah)),(21,.v (.int .i32 (((lst (aa.at_ 1)).length:Nat):Int))),(22,.v (.int .i32 ((af:Nat):Int)))])⟩
        have cJ:=ax.cast (t:=[] ++ aS) (by rw [if_neg (by rw [ay]; decide)])
        clear ax
        have ey:=cJ.cast (t:=aS) rfl
        clear cJ
        refine wp_skip (qab ?_)
        exact ⟨none,[],_,fun w F h_=>⟨h_,⟨MapR.nil _ _,Nat.zero_le _,fun _ h=>by cases h⟩,⟨(fun e_=>by rw [ay] at e_; cases e_),fun _=>rfl⟩⟩,ey.pk (env':=[(2,.v (.bool false)),(7,.p 0 0),(8,.v (.int .i16 v)),(9,.v (.bool (decide (v ≥ 4)))),(10,.p 1 0),(13,.v (.slice (some ⟨ab,0,none⟩) ((lst (T.at_ 1)).length) ag)),(14,.v (.int .i32 (((lst (T.at_ 1)).length:Nat):Int))),(15,.v (.int .i32 ((ac:Nat):Int))),(17,.p 3 0),(20,.v (.slice (some ⟨ae,0,none⟩) ((lst (aa.at_ 1)).length) ah)),(21,.v (.int .i32 (((lst (aa.at_ 1)).length:Nat):Int))),(22,.v (.int .i32 ((af:Nat):Int)))])⟩
       rintro _ _ ⟨aX,aD,ft,am,cK⟩
       refine qaC ?_
       refine qab ?_
       refine qb4 [(2,.v (.bool false)),(7,.p 0 0),(8,.v (.int .i16 v)),(9,.v (.bool (decide (v ≥ 4)))),(10,.p 1 0),(13,.v (.slice (some ⟨ab,0,none⟩) ((lst (T.at_ 1)).length) ag)),(14,.v (.int .i32 (((lst (T.at_ 1)).length:Nat):Int))),(15,.v (.int .i32 ((ac:Nat):Int))),(17,.p 3 0),(20,.v (.slice (some ⟨ae,0,none⟩) ((lst (aa.at_ 1)).length) ah)),(21,.v (.int .i32 (((lst (aa.at_ 1)).length:Nat):Int))),(22,.v (.int .i32 (IntKind.i32.wrap (((af:Nat):Int) + 1))))] cK fun _ cL=>?_
       clear cK
       refine qab ?_
       have ez:=(cL.envEq (env':=[(2,.v (.bool false)),(7,.p 0 0),(8,.v (.int .i16 v)),(9,.v (.bool (decide (v ≥ 4)))),(10,.p 1 0),(13,.v (.slice (some ⟨ab,0,none⟩) ((lst (T.at_ 1)).length) ag)),(14,.v (.int .i32 (((lst (T.at_ 1)).length:Nat):Int))),(15,.v (.int .i32 ((ac:Nat):Int))),(17,.p 3 0),(20,.v (.slice (some ⟨ae,0,none⟩) ((lst (aa.at_ 1)).length) ah)),(21,.v (.int .i32 (((lst (aa.at_ 1)).length:Nat):Int))),(22,.v (.int .i32 ((af + 1:Nat):Int)))]) (by rw [qhM (by have:=e93_1; omega)])).pk (env':=[(2,.v (.bool false)),(7,.p 0 0),(8,.v (.int .i16 v)),(9,.v (.bool (decide (v ≥ 4)))),(10,.p 1 0),(13,.v (.slice (some ⟨ab,0,none⟩) ((lst (T.at_ 1)).length) ag)),(14,.v (.int .i32 (((lst (T.at_ 1)).length:Nat):Int))),(15,.v (.int .i32 ((ac:Nat):Int))),(17,.p 3 0),(20,.v (.slice (some ⟨ae,0,none⟩) ((lst (aa.at_ 1)).length) ah)),(21,.v (.int .i32 (((lst (aa.at_ 1)).length:Nat):Int))),(22,.v (.int .i32 ((af + 1:Nat):Int)))])
       clear cL
       exact (RS.thing (tb:=[⟨bv,0,[.int .i16 v,.int .i32 ak.n,.slice none 0 0,.map none],true⟩,qbs ab 3 (.agg #[.string ByteArray.empty,.slice none 0 0,.map none]) ((lst (T.at_ 1)).length) (ac + 1),⟨ab,ac * 3,[.string (bs (aa.at_ 0).S),.slice none 0 0,.map none],true⟩]) (z:=.agg #[.int .i32 0,.int .i32 0,.int .i32 0,.map none]) (D:=(dvP aX aD [dvN (IntKind.i32.wrap (ai.at_ 0).N),au,dvN (IntKind.i32.wrap (ai.at_ 2).N)])) (ez.cast bM) hg_g130 aR qaY aQ rfl (fun w F h_=>⟨(bK _ _ (aH _ _ (am _ _ h_).1).1).1,(bK _ _ (aH _ _ (am _ _ h_).1).1).2,⟨(trivial),((aH _ _ (am _ _ h_).1).2.1),(trivial),(am _ _ h_).2.1.1,(am _ _ h_).2.1.2.1,(am _ _ h_).2.1.2.2,trivial⟩,⟨(rfl),((aH _ _ (am _ _ h_).1).2.2),(rfl),(am _ _ h_).2.2,trivial⟩⟩) kz)
      refine wp_seq ?_
      refine wp_seq ?_
      refine qb4 [(2,.v (.bool false)),(7,.p 0 0),(8,.v (.int .i16 v)),(9,.v (.bool (decide (v ≥ 4)))),(10,.p 1 0),(13,.v (.slice (some ⟨ab,0,none⟩) ((lst (T.at_ 1)).length) ag)),(14,.v (.int .i32 (((lst (T.at_ 1)).length:Nat):Int))),(15,.v (.int .i32 ((ac:Nat):Int))),(17,.p 3 0),(20,.v (.slice (some ⟨ae,0,none⟩) ((lst (aa.at_ 1)).length) ah)),(21,.v (.int .i32 (((lst (aa.at_ 1)).length:Nat):Int))),(22,.v (.int .i32 (((lst (aa.at_ 1)).length:Nat):Int))),(108,.v (.bool (decide ((((lst (aa.at_ 1)).length:Nat):Int) < (((lst (aa.at_ 1)).length:Nat):Int)))))] bJ fun _ cM=>qab ?_
      clear bJ
      refine qat cM.env_ (b:=decide ((((lst (aa.at_ 1)).length:Nat):Int) < (((lst (aa.at_ 1)).length:Nat):Int))) kz (decide_eq_false (by omega)) ?_
      refine wp_exit ?_
      refine qax ?_
      refine qax ?_
      refine qaN ?_
      refine qab ?_
      obtain ⟨eZ,eB⟩:=RS.listEnd (tb:=[⟨bv,0,[.int .i16 v,.int .i32 ak.n,.slice none 0 0,.map none],true⟩,qbs ab 3 (.agg #[.string ByteArray.empty,.slice none 0 0,.map none]) ((lst (T.at_ 1)).length) (ac + 1),⟨ab,ac * 3,[.string (bs (aa.at_ 0).S),.slice none 0 0,.map none],true⟩]) (c:=ah) (cM.pk (env':=[(2,.v (.bool false)),(7,.p 0 0),(8,.v (.int .i16 v)),(9,.v (.bool (decide (v ≥ 4)))),(10,.p 1 0),(13,.v (.slice (some ⟨ab,0,none⟩) ((lst (T.at_ 1)).length) ag)),(14,.v (.int .i32 (((lst (T.at_ 1)).length:Nat):Int))),(15,.v (.int .i32 ((ac:Nat):Int))),(17,.p 3 0),(20,.v (.slice (some ⟨ae,0,none⟩) ((lst (aa.at_ 1)).length) ah))])) hg_g130 qaY aQ hcap_g130 (by have:=e93_1; omega) hn_g130 kz
      exact ⟨dvL (some ⟨ae,0,none⟩) (lst (aa.at_ 1)).length ah eZ,_,fun w F h_=>⟨h_.1,⟨h_.2.1,Nat.le_trans e93_1 (by decide),h_.2.2.1⟩,⟨rfl,h_.2.2.2⟩⟩,eB⟩
     refine wp_skip ?_
     refine qab ?_
     refine wp_seq ?_
     refine qb4 [(2,.v (.bool false)),(7,.p 0 0),(8,.v (.int .i16 v)),(9,.v (.bool (decide (v ≥ 4)))),(10,.p 1 0),(13,.v (.slice (some ⟨ab,0,none⟩) ((lst (T.at_ 1)).length) ag)),(14,.v (.int .i32 (((lst (T.at_ 1)).length:Nat):Int))),(15,.v (.int .i32 ((ac:Nat):Int))),(17,.p 3 0),(20,.v (.slice none 0 0)),(21,.v (.int .i32 (((lst (aa.at_ 1)).length:Nat):Int))),(22,.v (.int .i32 0))] ar fun _ cN=>?_
     clear ar
     refine qab ?_
     refine wp_block ?_
     refine qhK ?_
     refine wp_seq ?_
     refine wp_seq ?_
     refine qb4 [(2,.v (.bool false)),(7,.p 0 0),(8,.v (.int .i16 v)),(9,.v (.bool (decide (v ≥ 4)))),(10,.p 1 0),(13,.v (.slice (some ⟨ab,0,none⟩) ((lst (T.at_ 1)).length) ag)),(14,.v (.int .i32 (((lst (T.at_ 1)).length:Nat):Int))),(15,.v (.int .i32 ((ac:Nat):Int))),(17,.p 3 0),(20,.v (.slice none 0 0)),(21,.v (.int .i32 (((lst (aa.at_ 1)).length:Nat):Int))),(22,.v (.int .i32 0)),(108,.v (.bool (decide (0 < (((lst (aa.at_ 1)).length:Nat):Int)))))] cN fun _ cO=>qab ?_
     clear cN
     refine qat cO.env_ (b:=decide (0 < (((lst (aa.at_ 1)).length:Nat):Int))) kz (decide_eq_false (by have h_:=of_decide_eq_false aG; omega)) ?_
     refine wp_exit ?_
     refine qax ?_
     refine qax ?_
     refine qaN ?_
     refine qab ?_
     have hz_:(lst (aa.at_ 1)).length = 0:=by have h_:=of_decide_eq_false aG; omega
     exact ⟨dvL none 0 0 (fun _=>dv0),_,fun w F h_=>⟨h_,⟨Slots.nil _ _ _ _,Nat.zero_le _,fun _ h=>absurd h (Nat.not_lt_zero _)⟩,⟨hz_.symm,fun _ h=>absurd h (Nat.not_lt_zero _)⟩⟩,(cO.cast (t:=bg) (by rw [List.eq_nil_of_length_eq_zero hz_]; rfl)).pk (env':=[(2,.v (.bool false)),(7,.p 0 0),(8,.v (.int .i16 v)),(9,.v (.bool (decide (v ≥ 4)))),(10,.p 1 0),(13,.v (.slice (some ⟨ab,0,none⟩) ((lst (T.at_ 1)).length) ag)),(14,.v (.int .i32 (((lst (T.at_ 1)).length:Nat):Int))),(15,.v (.int .i32 ((ac:Nat):Int))),(17,.p 3 0),(20,.v (.slice none 0 0))])⟩
    rintro _ _ ⟨aj,e9,aI,cP⟩
    refine wp_seq ?_
    refine qb4 [(2,.v (.bool false)),(7,.p 0 0),(8,.v (.int .i16 v)),(9,.v (.bool (decide (v ≥ 4)))),(10,.p 1 0),(13,.v (.slice (some ⟨ab,0,none⟩) ((lst (T.at_ 1)).length) ag)),(14,.v (.int .i32 (((lst (T.at_ 1)).length:Nat):Int))),(15,.v (.int .i32 ((ac:Nat):Int))),(17,.p 3 0),(19,.v (.slice aj.A aj.l aj.c))] cP fun _ cQ=>?_
    clear cP
    refine qab ?_
    refine qeS [⟨bv,0,[.int .i16 v,.int .i32 ak.n,.slice none 0 0,.map none],true⟩,qbs ab 3 (.agg #[.string ByteArray.empty,.slice none 0 0,.map none]) ((lst (T.at_ 1)).length) (ac + 1),⟨ab,ac * 3,[.string (bs (aa.at_ 0).S),.slice aj.A aj.l aj.c,.map none],true⟩] 2 [(2,.v (.bool false)),(7,.p 0 0),(8,.v (.int .i16 v)),(9,.v (.bool (decide (v ≥ 4)))),(10,.p 1 0),(13,.v (.slice (some ⟨ab,0,none⟩) ((lst (T.at_ 1)).length) ag)),(14,.v (.int .i32 (((lst (T.at_ 1)).length:Nat):Int))),(15,.v (.int .i32 ((ac:Nat):Int))),(17,.p 3 0)] cQ fun _ _ cR=>?_
    clear cQ
    refine qab ?_
    have cS:=cR.cast ei
    clear cR
    refine qeB (Mid:=fun a_ w_=>∃ (aY:Option Nat) (aE:List (Int × Bs)) (P':qcE),(∀ w F,P' w F → e9 w F ∧ (MapR w F aY aE ∧ aE.length ≤ 1000000 ∧ ∀ x ∈ aE,x.2.length < 4294967296) ∧ ((decide (v ≥ 4)) = true → aE = aa.U) ∧ ((decide (v ≥ 4)) = false → aE = [])) ∧ RS w (fun b o=>b = bv ∧ o < 4) F 160 aV [⟨bv,0,[.int .i16 v,.int .i32 ak.n,.slice none 0 0,.map none],true⟩,qbs ab 3 (.agg #[.string ByteArray.empty,.slice none 0 0,.map none]) ((lst (T.at_ 1)).length) (ac + 1),⟨ab,ac * 3,[.string (bs (aa.at_ 0).S),.slice aj.A aj.l aj.c,.map aY],true⟩] [(2,.v (.bool false)),(7,.p 0 0),(8,.v (.int .i16 v)),(9,.v (.bool (decide (v ≥ 4)))),(10,.p 1 0),(13,.v (.slice (some ⟨ab,0,none⟩) ((lst (T.at_ 1)).length) ag)),(14,.v (.int .i32 (((lst (T.at_ 1)).length:Nat):Int))),(15,.v (.int .i32 ((ac:Nat):Int)))] P' eg a_ w_) ?_ ?_
    ·
     refine wp_seq ?_
     refine qb4 [(2,.v (.bool false)),(7,.p 0 0),(8,.v (.int .i16 v)),(9,.v (.bool (decide (v ≥ 4)))),(10,.p 1 0),(13,.v (.slice (some ⟨ab,0,none⟩) ((lst (T.at_ 1)).length) ag)),(14,.v (.int .i32 (((lst (T.at_ 1)).length:Nat):Int))),(15,.v (.int .i32 ((ac:Nat):Int))),(17,.p 3 0),(144,.v (.bool (decide (v ≥ 4))))] cS fun _ az=>qab ?_
     clear cS
     refine qay az.env_ (b:=decide (v ≥ 4)) kz (fun aA=>?_) (fun aA=>?_)
     ·
      have cT:=az.cast (t:=((uv aa.U.length) ++ (qbr aa.U)) ++ eg) (by rw [if_pos aA])
      clear az
      refine qar [0,1,2,3,4] kz ?_
      refine qdg [0] [1,2,3,4] [(2,.v (.bool false)),(7,.p 0 0),(8,.v (.int .i16 v)),(9,.v (.bool (decide (v ≥ 4)))),(10,.p 1 0),(13,.v (.slice (some ⟨ab,0,none⟩) ((lst (T.at_ 1)).length) ag)),(14,.v (.int .i32 (((lst (T.at_ 1)).length:Nat):Int))),(15,.v (.int .i32 ((ac:Nat):Int))),(145,.p 3 0)] cT fun _ cU=>?_
      clear cT
      refine qam (qhg (d:=146) cU (qlc aa.U e93_U (qeZ e93r) _) (fun _=>MvF.tags _ _) Tryz.call130 fun dD fu _ _ cV cW=>?_)
      clear cU
      refine qdg [2,3] [4] [(2,.v (.bool false)),(7,.p 0 0),(8,.v (.int .i16 v)),(9,.v (.bool (decide (v ≥ 4)))),(10,.p 1 0),(13,.v (.slice (some ⟨ab,0,none⟩) ((lst (T.at_ 1)).length) ag)),(14,.v (.int .i32 (((lst (T.at_ 1)).length:Nat):Int))),(15,.v (.int .i32 ((ac:Nat):Int))),(146,.v (.agg #[.map dD])),(148,.p 3 2)] cW fun _ cX=>?_
      clear cW
      refine qam (qgb [⟨bv,0,[.int .i16 v,.int .i32 ak.n,.slice none 0 0,.map none],true⟩,qbs ab 3 (.agg #[.string ByteArray.empty,.slice none 0 0,.map none]) ((lst (T.at_ 1)).length) (ac + 1),⟨ab,ac * 3,[.string (bs (aa.at_ 0).S),.slice aj.A aj.l aj.c,.map dD],true⟩] 2 cX fun _ cY=>?_)
      clear cX
      refine qaf ?_
      have eC:=cY.pk (env':=[(2,.v (.bool false)),(7,.p 0 0),(8,.v (.int .i16 v)),(9,.v (.bool (decide (v ≥ 4)))),(10,.p 1 0),(13,.v (.slice (some ⟨ab,0,none⟩) ((lst (T.at_ 1)).length) ag)),(14,.v (.int .i32 (((lst (T.at_ 1)).length:Nat):Int))),(15,.v (.int .i32 ((ac:Nat):Int)))])
      clear cY
      refine qab ?_
      exact ⟨dD,aa.U,_,fun w F h_=>⟨(cV _ _ h_).1,⟨(cV _ _ h_).2,e93_U.2.1,e93_U.2.2⟩,⟨fun _=>rfl,(fun e_=>by rw [aA] at e_; cases e_)⟩⟩,eC.pk (env':=[(2,.v (.bool false)),(7,.p 0 0),(8,.v (.int .i16 v)),(9,.v (.bool (decide (v ≥ 4)))),(10,.p 1 0),(13,.v (.slice (some ⟨ab,0,none⟩) ((lst (T.at_ 1)).length) ag)),(14,.v (.int .i32 (((lst (T.at_ 1)).length:Nat):Int))),(15,.v (.int .i32 ((ac:Nat):Int)))])⟩
     have cZ:=az.cast (t:=[] ++ eg) (by rw [if_neg (by rw [aA]; decide)])
     clear az
     have eD:=cZ.cast (t:=eg) rfl
     clear cZ
     refine wp_skip (qab ?_)
     exact ⟨none,[],_,fun w F h_=>⟨h_,⟨MapR.nil _ _,Nat.zero_le _,fun _ h=>by cases h⟩,⟨(fun e_=>by rw [aA] at e_; cases e_),fun _=>rfl⟩⟩,eD.pk (env':=[(2,.v (.bool false)),(7,.p 0 0),(8,.v (.int .i16 v)),(9,.v (.bool (decide (v ≥ 4)))),(10,.p 1 0),(13,.v (.slice (some ⟨ab,0,none⟩) ((lst (T.at_ 1)).length) ag)),(14,.v (.int .i32 (((lst (T.at_ 1)).length:Nat):Int))),(15,.v (.int .i32 ((ac:Nat):Int)))])⟩
    rintro _ _ ⟨aY,aE,fv,ao,c5⟩
    refine qaC ?_
    refine qab ?_
    refine qb4 [(2,.v (.bool false)),(7,.p 0 0),(8,.v (.int .i16 v)),(9,.v (.bool (decide (v ≥ 4)))),(10,.p 1 0),(13,.v (.slice (some ⟨ab,0,none⟩) ((lst (T.at_ 1)).length) ag)),(14,.v (.int .i32 (((lst (T.at_ 1)).length:Nat):Int))),(15,.v (.int .i32 (IntKind.i32.wrap (((ac:Nat):Int) + 1))))] c5 fun _ da=>?_
    clear c5
    refine qab ?_
    have eE:=(da.envEq (env':=[(2,.v (.bool false)),(7,.p 0 0),(8,.v (.int .i16 v)),(9,.v (.bool (decide (v ≥ 4)))),(10,.p 1 0),(13,.v (.slice (some ⟨ab,0,none⟩) ((lst (T.at_ 1)).length) ag)),(14,.v (.int .i32 (((lst (T.at_ 1)).length:Nat):Int))),(15,.v (.int .i32 ((ac + 1:Nat):Int)))]) (by rw [qhM (by have:=e32_1; omega)])).pk (env':=[(2,.v (.bool false)),(7,.p 0 0),(8,.v (.int .i16 v)),(9,.v (.bool (decide (v ≥ 4)))),(10,.p 1 0),(13,.v (.slice (some ⟨ab,0,none⟩) ((lst (T.at_ 1)).length) ag)),(14,.v (.int .i32 (((lst (T.at_ 1)).length:Nat):Int))),(15,.v (.int .i32 ((ac + 1:Nat):Int)))])
    clear da
    exact (RS.thing (tb:=[⟨bv,0,[.int .i16 v,.int .i32 ak.n,.slice none 0 0,.map none],true⟩]) (z:=.agg #[.string ByteArray.empty,.slice none 0 0,.map none]) (D:=(dvP aY aE [dvS (bs (aa.at_ 0).S),aj])) (eE.cast eh) hg_g74 dB qbb bf rfl (fun w F h_=>⟨(ee _ _ (aI _ _ (ao _ _ h_).1).1).1,(ee _ _ (aI _ _ (ao _ _ h_).1).1).2,⟨(by show ByteArray.size (bs _) ≤ 1000000; rw [qjh]; exact Nat.le_trans e93_0 (by decide)),((aI _ _ (ao _ _ h_).1).2.1),(ao _ _ h_).2.1.1,(ao _ _ h_).2.1.2.1,(ao _ _ h_).2.1.2.2,trivial⟩,⟨(rfl),((aI _ _ (ao _ _ h_).1).2.2),(ao _ _ h_).2.2,trivial⟩⟩) kz)
   refine wp_seq ?_
   refine wp_seq ?_
   refine qb4 [(2,.v (.bool false)),(7,.p 0 0),(8,.v (.int .i16 v)),(9,.v (.bool (decide (v ≥ 4)))),(10,.p 1 0),(13,.v (.slice (some ⟨ab,0,none⟩) ((lst (T.at_ 1)).length) ag)),(14,.v (.int .i32 (((lst (T.at_ 1)).length:Nat):Int))),(15,.v (.int .i32 (((lst (T.at_ 1)).length:Nat):Int))),(68,.v (.bool (decide ((((lst (T.at_ 1)).length:Nat):Int) < (((lst (T.at_ 1)).length:Nat):Int)))))] ec fun _ db=>qab ?_
   clear ec
   refine qat db.env_ (b:=decide ((((lst (T.at_ 1)).length:Nat):Int) < (((lst (T.at_ 1)).length:Nat):Int))) kz (decide_eq_false (by omega)) ?_
   refine wp_exit ?_
   refine qax ?_
   refine qax ?_
   refine qaN ?_
   refine qab ?_
   obtain ⟨fa,eF⟩:=RS.listEnd (tb:=[⟨bv,0,[.int .i16 v,.int .i32 ak.n,.slice none 0 0,.map none],true⟩]) (c:=ag) (db.pk (env':=[(7,.p 0 0),(9,.v (.bool (decide (v ≥ 4)))),(10,.p 1 0),(13,.v (.slice (some ⟨ab,0,none⟩) ((lst (T.at_ 1)).length) ag))])) hg_g74 qbb bf hcap_g74 (by have:=e32_1; omega) hn_g74 kz
   exact ⟨dvL (some ⟨ab,0,none⟩) (lst (T.at_ 1)).length ag fa,_,fun w F h_=>⟨h_.1,⟨h_.2.1,Nat.le_trans e32_1 (by decide),h_.2.2.1⟩,⟨rfl,h_.2.2.2⟩⟩,eF⟩
  refine wp_skip ?_
  refine qab ?_
  refine wp_seq ?_
  refine qb4 [(2,.v (.bool false)),(7,.p 0 0),(8,.v (.int .i16 v)),(9,.v (.bool (decide (v ≥ 4)))),(10,.p 1 0),(13,.v (.slice none 0 0)),(14,.v (.int .i32 (((lst (T.at_ 1)).length:Nat):Int))),(15,.v (.int .i32 0))] aL fun _ dc=>?_
  clear aL
  refine qab ?_
  refine wp_block ?_
  refine qhK ?_
  refine wp_seq ?_
  refine wp_seq ?_
  refine qb4 [(2,.v (.bool false)),(7,.p 0 0),(8,.v (.int .i16 v)),(9,.v (.bool (decide (v ≥ 4)))),(10,.p 1 0),(13,.v (.slice none 0 0)),(14,.v (.int .i32 (((lst (T.at_ 1)).length:Nat):Int))),(15,.v (.int .i32 0)),(68,.v (.bool (decide (0 < (((lst (T.at_ 1)).length:Nat):Int)))))] dc fun _ de=>qab ?_
  clear dc
  refine qat de.env_ (b:=decide (0 < (((lst (T.at_ 1)).length:Nat):Int))) kz (decide_eq_false (by have h_:=of_decide_eq_false aW; omega)) ?_
  refine wp_exit ?_
  refine qax ?_
  refine qax ?_
  refine qaN ?_
  refine qab ?_
  have hz_:(lst (T.at_ 1)).length = 0:=by have h_:=of_decide_eq_false aW; omega
  exact ⟨dvL none 0 0 (fun _=>dv0),_,fun w F h_=>⟨h_,⟨Slots.nil _ _ _ _,Nat.zero_le _,fun _ h=>absurd h (Nat.not_lt_zero _)⟩,⟨hz_.symm,fun _ h=>absurd h (Nat.not_lt_zero _)⟩⟩,(de.cast (t:=bd) (by rw [List.eq_nil_of_length_eq_zero hz_]; rfl)).pk (env':=[(7,.p 0 0),(9,.v (.bool (decide (v ≥ 4)))),(10,.p 1 0),(13,.v (.slice none 0 0))])⟩
 rintro _ _ ⟨al,fw,aZ,eG⟩
 refine wp_seq ?_
 refine qb4 [(7,.p 0 0),(9,.v (.bool (decide (v ≥ 4)))),(10,.p 1 0),(12,.v (.slice al.A al.l al.c))] eG fun _ df=>?_
 clear eG
 refine qab ?_
 refine qeS [⟨bv,0,[.int .i16 v,.int .i32 ak.n,.slice al.A al.l al.c,.map none],true⟩] 0 [(7,.p 0 0),(9,.v (.bool (decide (v ≥ 4)))),(10,.p 1 0)] df fun _ _ dg=>?_
 clear df
 refine qab ?_
 refine wp_seq ?_
 have dh:=dg.cast dG
 clear dg
 refine qeB (Mid:=fun a_ w_=>∃ (ba:Option Nat) (aF:List (Int × Bs)) (P':qcE),(∀ w F,P' w F → fw w F ∧ (MapR w F ba aF ∧ aF.length ≤ 1000000 ∧ ∀ x ∈ aF,x.2.length < 4294967296) ∧ ((decide (v ≥ 4)) = true → aF = T.U) ∧ ((decide (v ≥ 4)) = false → aF = [])) ∧ RS w (fun b o=>b = bv ∧ o < 4) F 160 aV [⟨bv,0,[.int .i16 v,.int .i32 ak.n,.slice al.A al.l al.c,.map ba],true⟩] [(7,.p 0 0)] P' ([]:Bs) a_ w_) ?_ ?_
 ·
  refine wp_seq ?_
  refine qb4 [(7,.p 0 0),(10,.p 1 0),(154,.v (.bool (decide (v ≥ 4))))] dh fun _ aB=>qab ?_
  clear dh
  refine qay aB.env_ (b:=decide (v ≥ 4)) kz (fun aC=>?_) (fun aC=>?_)
  ·
   have di:=aB.cast (t:=((uv T.U.length) ++ (qbr T.U)) ++ ([]:Bs)) (by rw [if_pos aC])
   clear aB
   refine qar [0,1,2,3,4] kz ?_
   refine qdg [0] [1,2,3,4] [(7,.p 0 0),(155,.p 1 0)] di fun _ dj=>?_
   clear di
   refine qam (qhg (d:=156) dj (qlc T.U e32_U (qeZ e32r) _) (fun _=>MvF.tags _ _) Tryz.call130 fun dE fx _ _ dl dp=>?_)
   clear dj
   refine qdg [2,3] [4] [(7,.p 0 0),(156,.v (.agg #[.map dE])),(158,.p 1 3)] dp fun _ dq=>?_
   clear dp
   refine qam (qgb [⟨bv,0,[.int .i16 v,.int .i32 ak.n,.slice al.A al.l al.c,.map dE],true⟩] 0 dq fun _ dr=>?_)
   clear dq
   refine qaf ?_
   have eH:=dr.pk (env':=[(7,.p 0 0)])
   clear dr
   refine qab ?_
   exact ⟨dE,T.U,_,fun w F h_=>⟨(dl _ _ h_).1,⟨(dl _ _ h_).2,e32_U.2.1,e32_U.2.2⟩,⟨fun _=>rfl,(fun e_=>by rw [aC] at e_; cases e_)⟩⟩,eH.pk (env':=[(7,.p 0 0)])⟩
  have dt:=aB.cast (t:=[] ++ ([]:Bs)) (by rw [if_neg (by rw [aC]; decide)])
  clear aB
  have eI:=dt.cast (t:=([]:Bs)) rfl
  clear dt
  refine wp_skip (qab ?_)
  exact ⟨none,[],_,fun w F h_=>⟨h_,⟨MapR.nil _ _,Nat.zero_le _,fun _ h=>by cases h⟩,⟨(fun e_=>by rw [aC] at e_; cases e_),fun _=>rfl⟩⟩,eI.pk (env':=[(7,.p 0 0)])⟩
 rintro _ _ ⟨ba,aF,fy,ap,du⟩
 refine qab ?_
 refine wp_seq ?_
 refine qar [0,1] kz (qam (qhh (d:=159) du qjz Tryz.call126 fun _ dv=>?_))
 clear du
 refine qdg [1] [] [(6,.v (.nilIface))] dv fun _ dw=>qaf ?_
 clear dv
 refine qab ?_
 refine wp_ret ?_
 obtain ⟨A_,m_,c_,hW_,hr_,hE_,hP_⟩:=dw.open_
 refine qaE hE_ hW_.cells (v:=.nilIface) kz ?_
 have h_:=dw.mv.mono qe8 hP_
 refine ⟨(dvP ba aF [ak,al]),rfl,Str.of hW_ 1 rfl,?_,?_,hW_.step⟩
 ·unfold qa1
  exact ⟨((dU _ _ (aZ _ _ (ap _ _ h_).1).1).2.1),((aZ _ _ (ap _ _ h_).1).2.1),(ap _ _ h_).2.1.1,(ap _ _ h_).2.1.2.1,(ap _ _ h_).2.1.2.2,trivial⟩
 unfold qbi
 exact ⟨((dU _ _ (aZ _ _ (ap _ _ h_).1).1).2.2),((aZ _ _ (ap _ _ h_).1).2.2),(ap _ _ h_).2.2,trivial⟩
theorem qaJ:qgJ qa1:=by
 intro w w' F F' M d hs hM hF h
 unfold qa1 at h ⊢
 obtain ⟨g0,⟨g1,g1l,g1e⟩,t1,t2,t3,_⟩:=h
 exact ⟨g0,⟨g1.move hs hM hF,g1l,fun i hi=>qbb _ hs hM hF (g1e i hi)⟩,t1.move hs hM hF,t2,t3,trivial⟩
theorem qbY (v:Int) (D:DV) (T:Tree) (h:qaG v D T):(be 4 ((D.f 0).n)) ++ ((if (decide (v ≥ 2)) = true then be 4 ((D.f 1).n) else []) ++ ((be 4 ((D.f 2).n)) ++ (if (decide (v ≥ 4)) = true then (uv D.u.length) ++ (qbr D.u) else []))) = qap v T:=by
 unfold qaG at h
 obtain ⟨r0_,r1_,r2_,rU_,_⟩:=h
 unfold qap
 exact qfs (by rw [r0_]) (qfs (if_c (fun hc_=>by rw [(r1_.1 hc_)])) (qfs (by rw [r2_]) ((if_c (fun hc_=>by rw [(rU_.1 hc_)])))))
theorem qco (v:Int) (D:DV) (T:Tree) (h:qaQ v D T):(if (decide (v ≥ 4)) = true then (uv ((D.f 0).s.size + 1) ++ sb (D.f 0).s) else (be 2 (D.f 0).s.size ++ sb (D.f 0).s)) ++ (((if (decide (v ≥ 4)) = true then (uv ((D.f 1).l + 1)) else (be 4 (D.f 1).l)) ++ ((List.range (D.f 1).l).flatMap fun aa=>(be 4 ((((D.f 1).f aa).f 0).n)) ++ ((if (decide (v ≥ 2)) = true then be 4 ((((D.f 1).f aa).f 1).n) else []) ++ ((be 4 ((((D.f 1).f aa).f 2).n)) ++ (if (decide (v ≥ 4)) = true then (uv ((D.f 1).f aa).u.length) ++ (qbr ((D.f 1).f aa).u) else []))))) ++ (if (decide (v ≥ 4)) = true then (uv D.u.length) ++ (qbr D.u) else [])) = qau v T:=by
 unfold qaQ at h
 obtain ⟨r0_,r1_,rU_,_⟩:=h
 unfold qau
 exact qfs (by simp only [r0_,qlT,qjh]) (qfs (qfs (by simp only [r1_.1]) (qhG r1_.1 (fun i hi=>qbY v _ _ (r1_.2 i hi)))) ((if_c (fun hc_=>by rw [(rU_.1 hc_)]))))
theorem qcL (v:Int) (D:DV) (T:Tree) (h:qbi v D T):qaa v D = qag v T:=by
 unfold qbi at h
 obtain ⟨r0_,r1_,rU_,_⟩:=h
 rw [qb0]
 unfold qaa qbw
 exact qfs (if_c (fun hc_=>by rw [(r0_.1 hc_)])) (qfs (qfs (by simp only [r1_.1]) (qhG r1_.1 (fun i hi=>qco v _ _ (r1_.2 i hi)))) (qfs (if_c (fun hc_=>by rw [(rU_.1 hc_)])) (rfl)))
section
variable {U:List Fld → Tree → Prop} {k x1 x2 x3 x4 x5 x6 n:Int} {sub:List Fld} {s:Bs} {b:Bool} {l:List Tree} {u:List (Int × Bs)}
end
section
variable {T:List Fld → Tree → Tree → Prop} {v k x1 x2 x3 x4 x5 x6 tn n:Int} {sub:List Fld} {ts s:Bs} {tb b:Bool} {tl l:List Tree} {tu u:List (Int × Bs)}
end
theorem qeC {P:Program} {ops:Array Oper} {Q:Exit → Act → World → Prop} {a:Act} {w:World} {T:World → Prop} {c i j fuel:Nat} {listed:Array Bool} (hr:Region.ready .any ops listed = [i,j]) (h:wpOp P ops Q i (fun a' w'=>(i ≠ c → T w') ∧ qbR P ops Q T c fuel (listed.setIfInBounds i true) a' w') a w)
  (h':wpOp P ops Q j (fun a' w'=>(j ≠ c → T w') ∧ qbR P ops Q T c fuel (listed.setIfInBounds j true) a' w') a w):qbR P ops Q T c (fuel + 1) listed a w:=by
 refine ⟨fun h0=>(by rw [hr] at h0; cases h0),fun q hq=>?_⟩
 rw [hr] at hq
 simp only [List.mem_cons,List.not_mem_nil,or_false] at hq
 rcases hq with rfl | rfl
 ·exact h
 exact h'
section
variable {w:World} {F:Nat → Nat → Prop}
end
section
variable {gu tu:List (Int × Bs)} {l:List Fld} {flex:Bool} {i:Nat} {k k':Int} {s s':Bs}
end
end Go.Proofs.YtogokkkdfcgncaaGreatDoor.ME
namespace Go.Proofs.YtogokkkdfcgncaaGreatDoor.ME
open Go
open Go.RowKit
set_option linter.unusedVariables false
set_option linter.unusedSimpArgs false
set_option maxRecDepth 20000
set_option maxHeartbeats 4000000 in
theorem qcM (has:Bool) (txt:ByteArray) (num v:Int) (T:Tree) {A2:Option Addr} {c2:Nat} {w:World} {F:Nat → Nat → Prop} (hs_:Octs w F A2 c2 (qag (IntKind.i16.wrap v) T)) (hc:qaS T) (hkey:T.ranged) (htx:txt.size ≤ 32767) (hroom:txt.size + (qag (IntKind.i16.wrap v) T).length + 64 ≤ 1099511627776) :
  Calls Tryz.prog 34 #[.agg #[.bool has,.string txt],.int .i32 num,.int .i64 v,.slice A2 (qag (IntKind.i16.wrap v) T).length c2] w (fun e w'=>∃ A c,e = .returned (.tuple #[.slice A (qa7 23 (IntKind.i16.wrap v) num has (sb txt) (decide ((IntKind.i16.wrap v) ≥ 4)) (qag (IntKind.i16.wrap v) T)).length c,.bool true]) ∧ w'.ownsRow w.heap.size 5 1 (.slice A (qa7 23 (IntKind.i16.wrap v) num has (sb txt) (decide ((IntKind.i16.wrap v) ≥ 4)) (qag (IntKind.i16.wrap v) T)).length c) (qa7 23 (IntKind.i16.wrap v) num has (sb txt) (decide ((IntKind.i16.wrap v) ≥ 4)) (qag (IntKind.i16.wrap v) T)).length (bc (qa7 23 (IntKind.i16.wrap v) num has (sb txt) (decide ((IntKind.i16.wrap v) ≥ 4)) (qag (IntKind.i16.wrap v) T))) ∧ Step w w' Nil):=by
 refine enter (n:=26) Tryz.func34 rfl Tryz.ntmps34 kz fun a hE=>?_
 have hW:=WOk.start w Nil
 have hsm2:=Slots.small hs_
 refine qae [0,1,2] kz ?_
 refine qam (qbh hW hE (d:=4) (cs:=[.bool has,.string txt]) kz fun b1 a2 w3 hb4 hz5 hF6 hW7 hE8=>?_)
 refine qaj [1,2] [] [(1,.v (.int .i32 num)),(2,.v (.int .i64 v)),(3,.v (.slice A2 ((qag (IntKind.i16.wrap v) T).length) c2)),(4,.p 0 0)] hW7 hE8 fun a9 ls=>?_
 refine qaf (qab ?_)
 refine qae [0,1] kz ?_
 refine qam (qa6 ls (f:=67) (vs:=[]) (d:=11) (n':=3) kz Tryz.call67 Tryz.func67 rfl Tryz.ntmps67 kz fun rU lu=>?_)
 refine qas [] hW7 lu fun rV lv=>?_
 refine qae [0] kz ?_
 refine qam (qbe hW7 lv (d:=1) (cs:=[.int .i16 0,.int .i32 0,.slice none 0 0,.map none]) kz fun ac rW rX mF mG mH dY lw=>?_)
 refine qaf (qab ?_)
 refine qae [0] kz ?_
 refine qam (qa6 lw (f:=102) (vs:=[.pointer (some ⟨ac,0,none⟩)]) (d:=2) (n':=5) kz Tryz.call102 Tryz.func102 rfl Tryz.ntmps102 kz fun rY lx=>?_)
 have ly:=lx.recast 0 (.v (.pointer (some ⟨ac,0,none⟩))) (.p 1 0) rfl rfl (Nat.le_of_ble_eq_true (n:=2) rfl)
 refine qar [0,1,2,3] kz ?_
 refine qaj [0,1,2] [3] [(4,.p 1 1)] dY ly fun rZ lz=>?_
 refine qam (qaP dY lz (oi:=1) (cs:=[.int .i16 0,.int .i32 (-2),.slice none 0 0,.map none]) kz fun r0 mI bF lA=>?_)
 refine qaf ?_
 refine qce lA bF.cells (v:=.tuple #[]) kz ?_
 refine ⟨_,rfl,fun r2 lB=>?_⟩
 have lC:=(EnvOk.places (tb':=[⟨b1,0,[.bool has,.string txt],true⟩,⟨ac,0,[.int .i16 0,.int .i32 (-2),.slice none 0 0,.map none],true⟩]) lB (show Pl [⟨b1,0,[.bool has,.string txt],true⟩,⟨ac,0,[.int .i16 0,.int .i32 0,.slice none 0 0,.map none],true⟩] [⟨b1,0,[.bool has,.string txt],true⟩,⟨ac,0,[.int .i16 0,.int .i32 (-2),.slice none 0 0,.map none],true⟩] from ⟨rfl,rfl,⟨rfl,rfl,trivial⟩⟩)).pk (env':=[(2,.v (.tuple #[])),(1,.p 1 0)])
 refine qaf (qab ?_)
 refine qas [(0,.p 1 0)] bF lC fun r3 lD=>?_
 refine wp_ret ?_
 refine qaE lD bF.cells (v:=.pointer (some ⟨ac,0,none⟩)) kz ?_
 refine ⟨_,rfl,fun r4 lE=>?_⟩
 have lF:=(EnvOk.places (tb':=[⟨b1,0,[.bool has,.string txt],true⟩,⟨ac,0,[.int .i16 0,.int .i32 (-2),.slice none 0 0,.map none],true⟩]) lE (show Pl [⟨b1,0,[.bool has,.string txt],true⟩] [⟨b1,0,[.bool has,.string txt],true⟩,⟨ac,0,[.int .i16 0,.int .i32 (-2),.slice none 0 0,.map none],true⟩] from ⟨rfl,rfl,trivial⟩)).pk (env':=[(11,.v (.pointer (some ⟨ac,0,none⟩))),(1,.v (.int .i32 num)),(2,.v (.int .i64 v)),(3,.v (.slice A2 ((qag (IntKind.i16.wrap v) T).length) c2)),(4,.p 0 0)])
 have lG:=lF.recast 11 (.v (.pointer (some ⟨ac,0,none⟩))) (.p 1 0) rfl rfl (Nat.le_of_ble_eq_true (n:=2) rfl)
 have lH:=lG.pick (ks:=[1,2,3,4,11]) (env':=[(1,.v (.int .i32 num)),(2,.v (.int .i64 v)),(3,.v (.slice A2 ((qag (IntKind.i16.wrap v) T).length) c2)),(4,.p 0 0),(11,.p 1 0)]) kz
 refine qaj [1] [] [(1,.v (.int .i32 num)),(2,.v (.int .i64 v)),(3,.v (.slice A2 ((qag (IntKind.i16.wrap v) T).length) c2)),(4,.p 0 0),(10,.p 1 0)] bF lH fun r5 lI=>?_
 refine qaf (qab ?_)
 refine qae [0,1,2,3] kz ?_
 refine qaj [0,1,2] [3] [(1,.v (.int .i32 num)),(3,.v (.slice A2 ((qag (IntKind.i16.wrap v) T).length) c2)),(4,.p 0 0),(10,.p 1 0),(12,.p 1 0),(14,.v (.int .i16 (IntKind.i16.wrap v)))] bF lI fun r6 lJ=>?_
 refine qam (qa6 lJ (f:=70) (vs:=[.pointer (some ⟨ac,0,none⟩),.int .i16 (IntKind.i16.wrap v)]) (d:=15) (n':=8) kz Tryz.call70 Tryz.func70 rfl Tryz.ntmps70 kz fun r7 lK=>?_)
 have lL:=lK.recast 0 (.v (.pointer (some ⟨ac,0,none⟩))) (.p 1 0) rfl rfl (Nat.le_of_ble_eq_true (n:=2) rfl)
 refine qar [0,1,2,3,4] kz ?_
 refine qaj [0,1,2,3] [4] [(5,.v (.int .i16 (IntKind.i16.wrap v))),(7,.p 1 0)] bF lL fun r8 lM=>?_
 refine qam (qaP bF lM (oi:=1) (cs:=[.int .i16 (IntKind.i16.wrap v),.int .i32 (-2),.slice none 0 0,.map none]) kz fun r9 mJ cH lN=>?_)
 refine qaf ?_
 refine qce lN cH.cells (v:=.tuple #[]) kz ?_
 refine ⟨_,rfl,fun sa lO=>?_⟩
 have lP:=(EnvOk.places (tb':=[⟨b1,0,[.bool has,.string txt],true⟩,⟨ac,0,[.int .i16 (IntKind.i16.wrap v),.int .i32 (-2),.slice none 0 0,.map none],true⟩]) lO (show Pl [⟨b1,0,[.bool has,.string txt],true⟩,⟨ac,0,[.int .i16 0,.int .i32 (-2),.slice none 0 0,.map none],true⟩] [⟨b1,0,[.bool has,.string txt],true⟩,⟨ac,0,[.int .i16 (IntKind.i16.wrap v),.int .i32 (-2),.slice none 0 0,.map none],true⟩] from ⟨rfl,rfl,⟨rfl,rfl,trivial⟩⟩)).pk (env':=[(15,.v (.tuple #[])),(1,.v (.int .i32 num)),(3,.v (.slice A2 ((qag (IntKind.i16.wrap v) T).length) c2)),(4,.p 0 0),(10,.p 1 0),(12,.p 1 0),(14,.v (.int .i16 (IntKind.i16.wrap v)))])
 refine qaf (qab ?_)
 refine wp_seq ?_
 refine qae [0,1,2,3,4] kz ?_
 refine qaj [0,1] [2,3,4] [(1,.v (.int .i32 num)),(4,.p 0 0),(10,.p 1 0),(16,.p 1 0),(17,.v (.slice A2 ((qag (IntKind.i16.wrap v) T).length) c2))] cH lP fun sc lQ=>?_
 have cz:=cH.addNil 5 1
 have mK:=cH.frNil 5 1
 refine qam (qaK cz lQ (k:=0) (d:=18) (t:=24) (e:=5) (size:=1) (bytes:=1) (A:=none) (As:=A2) (m0:=0) (c:=0) (m:=((qag (IntKind.i16.wrap v) T).length)) (cs:=c2) (xs:=[]) (news:=bc (qag (IntKind.i16.wrap v) T)) kz kz rfl (hs_.move cz.step nilM cz.imm).src (hs_.move cz.step nilM cz.imm).cap (by first | omega | (simp only [List.length_append,List.length_cons,List.length_nil,be_length,qbN]; omega) | (simp; omega)) fun cv cw sd se mL lR lS=>?_)
 have lT:(⟨cv,cw,5,1,0 + (qag (IntKind.i16.wrap v) T).length,[] ++ bc (qag (IntKind.i16.wrap v) T)⟩:Rw) = brow cv cw 5 (qag (IntKind.i16.wrap v) T):=by rw [List.nil_append,Nat.zero_add]
 obtain ⟨cI,mM⟩:=lR.rowEq 0 [brow cv cw 5 (qag (IntKind.i16.wrap v) T)] lT
 have lU:=EnvOk.pick lS (ks:=[1,4,10,16,17,18]) (env':=[(1,.v (.int .i32 num)),(4,.p 0 0),(10,.p 1 0),(16,.p 1 0),(17,.v (.slice A2 ((qag (IntKind.i16.wrap v) T).length) c2)),(18,.v (.slice cv (0 + (qag (IntKind.i16.wrap v) T).length) cw))]) kz
 have lV:=lU.cast (env':=[(1,.v (.int .i32 num)),(4,.p 0 0),(10,.p 1 0),(16,.p 1 0),(17,.v (.slice A2 ((qag (IntKind.i16.wrap v) T).length) c2)),(18,.v (.slice cv ((qag (IntKind.i16.wrap v) T).length) cw))]) (by simp only [List.length_append,List.length_cons,List.length_nil,Nat.zero_add])
 refine qam (qa6 lV (f:=71) (vs:=[.pointer (some ⟨ac,0,none⟩),.slice cv ((qag (IntKind.i16.wrap v) T).length) cw]) (d:=19) (n':=8) kz Tryz.call71 Tryz.func71 rfl Tryz.ntmps71 kz fun sf lW=>?_)
 have lX:=lW.recast 0 (.v (.pointer (some ⟨ac,0,none⟩))) (.p 1 0) rfl rfl (Nat.le_of_ble_eq_true (n:=2) rfl)
 refine qas [(0,.p 1 0),(1,.v (.slice cv ((qag (IntKind.i16.wrap v) T).length) cw))] cI lX fun sg lY=>?_
 refine qae [0,1,2,3] kz ?_
 refine qaj [0,1] [2,3] [(5,.p 1 0),(6,.v (.slice cv ((qag (IntKind.i16.wrap v) T).length) cw))] cI lY fun sh lZ=>?_
 have l0:=cI.giveUp (G:=F) 0 [] (show _ = some (brow cv cw 5 (qag (IntKind.i16.wrap v) T)) from rfl) (by omega)
 obtain ⟨dZ,mN⟩:=cI.cutR 0 []
 refine qam (qal lZ (f:=104) (vs:=[.pointer (some ⟨ac,0,none⟩),.slice cv ((qag (IntKind.i16.wrap v) T).length) cw,.bool false]) (d:=7) kz Tryz.call104 (qcK (IntKind.i16.wrap v) T (Str.of dZ 1 rfl) l0 (qlV 1 rfl) hc hkey) ?_)
 rintro e_ si ⟨aa,rfl,l3,l5,ba,d5⟩
 replace ba:=qcL _ _ _ ba
 obtain ⟨cA,mO,l6⟩:=dZ.wrote 1 [⟨b1,0,[.bool has,.string txt],true⟩,⟨ac,0,[.int .i16 (IntKind.i16.wrap v),.int .i32 ((aa.f 0).n),.slice ((aa.f 1).A) ((aa.f 1).l) ((aa.f 1).c),.map aa.m],true⟩] rfl d5 l3
 have cJ:=qaJ _ (Step.refl _ Nil) nilM l6 l5
 refine ⟨_,rfl,fun sj l7=>?_⟩
 have l9:=(EnvOk.places (tb':=[⟨b1,0,[.bool has,.string txt],true⟩,⟨ac,0,[.int .i16 (IntKind.i16.wrap v),.int .i32 ((aa.f 0).n),.slice ((aa.f 1).A) ((aa.f 1).l) ((aa.f 1).c),.map aa.m],true⟩]) l7 (show Pl [⟨b1,0,[.bool has,.string txt],true⟩,⟨ac,0,[.int .i16 (IntKind.i16.wrap v),.int .i32 (-2),.slice none 0 0,.map none],true⟩] [⟨b1,0,[.bool has,.string txt],true⟩,⟨ac,0,[.int .i16 (IntKind.i16.wrap v),.int .i32 ((aa.f 0).n),.slice ((aa.f 1).A) ((aa.f 1).l) ((aa.f 1).c),.map aa.m],true⟩] from ⟨rfl,rfl,⟨rfl,rfl,trivial⟩⟩)).pk (env':=[(7,.v (.nilIface)),(5,.p 1 0),(6,.v (.slice cv ((qag (IntKind.i16.wrap v) T).length) cw))])
 have hv88l:=congrArg List.length ba
 refine qaj [3] [] [(4,.v (.nilIface))] cA l9 fun sk ma=>?_
 refine qaf (qab ?_)
 refine wp_ret ?_
 refine qaE ma cA.cells (v:=.nilIface) kz ?_
 refine ⟨_,rfl,fun sl d6=>?_⟩
 have d7:=(EnvOk.places (tb':=[⟨b1,0,[.bool has,.string txt],true⟩,⟨ac,0,[.int .i16 (IntKind.i16.wrap v),.int .i32 ((aa.f 0).n),.slice ((aa.f 1).A) ((aa.f 1).l) ((aa.f 1).c),.map aa.m],true⟩]) d6 (show Pl [⟨b1,0,[.bool has,.string txt],true⟩,⟨ac,0,[.int .i16 (IntKind.i16.wrap v),.int .i32 (-2),.slice none 0 0,.map none],true⟩] [⟨b1,0,[.bool has,.string txt],true⟩,⟨ac,0,[.int .i16 (IntKind.i16.wrap v),.int .i32 ((aa.f 0).n),.slice ((aa.f 1).A) ((aa.f 1).l) ((aa.f 1).c),.map aa.m],true⟩] from ⟨rfl,rfl,⟨rfl,rfl,trivial⟩⟩)).pk (env':=[(19,.v (.nilIface)),(1,.v (.int .i32 num)),(4,.p 0 0),(10,.p 1 0),(16,.p 1 0),(17,.v (.slice A2 ((qag (IntKind.i16.wrap v) T).length) c2)),(18,.v (.slice cv ((qag (IntKind.i16.wrap v) T).length) cw))])
 refine qaj [4] [] [(1,.v (.int .i32 num)),(4,.p 0 0),(10,.p 1 0),(20,.v (.bool false))] cA d7 fun mQ cK=>?_
 refine qaf (qab ?_)
 refine qat cK (b:=false) kz rfl ?_
 refine wp_skip ?_
 refine qab ?_
 refine qae [0,1,2,3,4,5,6] kz ?_
 refine qaj [0,1,2,3] [4,5,6] [(21,.v (.agg #[.bool has,.string txt])),(23,.v (.iface 67 (.pointer (some ⟨ac,0,none⟩)))),(24,.v (.int .i32 num))] cA cK fun mR d8=>?_
 refine qam (qa6 d8 (f:=45) (vs:=[.agg #[.bool has,.string txt],.iface 67 (.pointer (some ⟨ac,0,none⟩)),.int .i32 num]) (d:=25) (n':=20) kz Tryz.call45 Tryz.func45 rfl Tryz.ntmps45 kz fun mS d9=>?_)
 refine qae [0,1] kz ?_
 refine qam (qbh cA d9 (d:=3) (cs:=[.bool has,.string txt]) kz fun af mT mU mc md aP cB ea=>?_)
 refine qaj [1] [] [(1,.v (.iface 67 (.pointer (some ⟨ac,0,none⟩)))),(2,.v (.int .i32 num)),(3,.p 2 0)] cB ea fun mV eb=>?_
 refine qaf (qab ?_)
 refine qae [0,1] kz ?_
 refine qam (qa6 eb (f:=89) (vs:=[.slice none 0 0]) (d:=8) (n':=18) kz Tryz.call89 Tryz.func89 rfl Tryz.ntmps89 kz fun mW ec=>?_)
 refine qas [(0,.v (.slice none 0 0))] cB ec fun mX ee=>?_
 refine qae [0,1] kz ?_
 refine qam (qbe cB ee (d:=6) (cs:=[.pointer none]) kz fun ae mY mZ me mf aQ av ef=>?_)
 refine qaj [1] [] [(0,.v (.slice none 0 0)),(3,.p 3 0)] av ef fun m4 eg=>?_
 refine qaf (qab ?_)
 refine wp_seq ?_
 refine qas [(3,.p 3 0),(7,.v (.slice none 0 0)),(8,.v (.int .i64 0)),(9,.v (.int .i64 0))] av eg fun m5 eh=>?_
 refine wp_block ?_
 refine wp_loop_rounds 1 ?_
 refine qgc ?_
 refine qas [(3,.p 3 0),(7,.v (.slice none 0 0)),(8,.v (.int .i64 0)),(9,.v (.int .i64 0)),(10,.v (.bool false))] av eh fun m6 cL=>?_
 refine wp_seq ?_
 refine qat cL (b:=false) kz rfl ?_
 refine wp_exit ?_
 refine qax ?_
 refine qax ?_
 refine qaN ?_
 refine qab ?_
 refine qas [(2,.p 3 0)] av cL fun m7 ei=>?_
 refine wp_ret ?_
 refine qaE ei av.cells (v:=.pointer (some ⟨ae,0,none⟩)) kz ?_
 refine ⟨_,rfl,fun m8 ej=>?_⟩
 have ek:=(EnvOk.places (tb':=[⟨b1,0,[.bool has,.string txt],true⟩,⟨ac,0,[.int .i16 (IntKind.i16.wrap v),.int .i32 ((aa.f 0).n),.slice ((aa.f 1).A) ((aa.f 1).l) ((aa.f 1).c),.map aa.m],true⟩,⟨af,0,[.bool has,.string txt],true⟩,⟨ae,0,[.pointer none],true⟩]) ej (show Pl [⟨b1,0,[.bool has,.string txt],true⟩,⟨ac,0,[.int .i16 (IntKind.i16.wrap v),.int .i32 ((aa.f 0).n),.slice ((aa.f 1).A) ((aa.f 1).l) ((aa.f 1).c),.map aa.m],true⟩,⟨af,0,[.bool has,.string txt],true⟩] [⟨b1,0,[.bool has,.string txt],true⟩,⟨ac,0,[.int .i16 (IntKind.i16.wrap v),.int .i32 ((aa.f 0).n),.slice ((aa.f 1).A) ((aa.f 1).l) ((aa.f 1).c),.map aa.m],true⟩,⟨af,0,[.bool has,.string txt],true⟩,⟨ae,0,[.pointer none],true⟩] from ⟨rfl,rfl,⟨rfl,rfl,⟨rfl,rfl,trivial⟩⟩⟩)).pk (env':=[(8,.v (.pointer (some ⟨ae,0,none⟩))),(1,.v (.iface 67 (.pointer (some ⟨ac,0,none⟩)))),(2,.v (.int .i32 num)),(3,.p 2 0)])
 have em:=ek.recast 8 (.v (.pointer (some ⟨ae,0,none⟩))) (.p 3 0) rfl rfl (Nat.le_of_ble_eq_true (n:=4) rfl)
 have eo:=em.pick (ks:=[1,2,3,8]) (env':=[(1,.v (.iface 67 (.pointer (some ⟨ac,0,none⟩)))),(2,.v (.int .i32 num)),(3,.p 2 0),(8,.p 3 0)]) kz
 refine qaj [1] [] [(1,.v (.iface 67 (.pointer (some ⟨ac,0,none⟩)))),(2,.v (.int .i32 num)),(3,.p 2 0),(7,.p 3 0)] av eo fun m9 ep=>?_
 refine qaf (qab ?_)
 refine wp_seq ?_
 refine qas [(1,.v (.iface 67 (.pointer (some ⟨ac,0,none⟩)))),(2,.v (.int .i32 num)),(3,.p 2 0),(7,.p 3 0),(10,.v (.bool has))] av ep fun nf cC=>?_
 refine qay cC (b:=has) kz (fun aJ=>?_) (fun aJ=>?_)
 ·
  refine qar [0,1,2,3,4,5] kz ?_
  refine qaj [0,1] [2,3,4,5] [(1,.v (.iface 67 (.pointer (some ⟨ac,0,none⟩)))),(2,.v (.int .i32 num)),(12,.v (.string txt))] av cC fun ng eu=>?_
  refine qam (qa6 eu (f:=90) (vs:=[.string txt]) (d:=13) (n':=6) kz Tryz.call90 Tryz.func90 rfl Tryz.ntmps90 kz fun nh ev=>?_)
  refine qae [0,1] kz ?_
  refine qam (qbh av ev (d:=1) (cs:=[.string txt]) kz fun ab ni nj mg mh bG bH ew=>?_)
  refine qaj [1] [] [(1,.p 4 0)] bH ew fun nk ey=>?_
  refine qaf (qab ?_)
  refine qae [0,1,2,3] kz ?_
  refine qam (qfY ey (v:=.func (.func 131) #[] #[.pointer (some ⟨ab,0,none⟩)]) (d:=3) kz fun nl ez=>?_)
  refine qaj [1,2,3] [] [(2,.v (.iface 147 (.agg #[.func (.func 131) #[] #[.pointer (some ⟨ab,0,none⟩)]])))] bH ez fun np eB=>?_
  refine qaf (qab ?_)
  refine wp_ret ?_
  refine qaE eB bH.cells (v:=.iface 147 (.agg #[.func (.func 131) #[] #[.pointer (some ⟨ab,0,none⟩)]])) kz ?_
  refine ⟨_,rfl,fun nr eC=>?_⟩
  have eD:=(EnvOk.places (tb':=[⟨b1,0,[.bool has,.string txt],true⟩,⟨ac,0,[.int .i16 (IntKind.i16.wrap v),.int .i32 ((aa.f 0).n),.slice ((aa.f 1).A) ((aa.f 1).l) ((aa.f 1).c),.map aa.m],true⟩,⟨af,0,[.bool has,.string txt],true⟩,⟨ae,0,[.pointer none],true⟩,⟨ab,0,[.string txt],true⟩]) eC (show Pl [⟨b1,0,[.bool has,.string txt],true⟩,⟨ac,0,[.int .i16 (IntKind.i16.wrap v),.int .i32 ((aa.f 0).n),.slice ((aa.f 1).A) ((aa.f 1).l) ((aa.f 1).c),.map aa.m],true⟩,⟨af,0,[.bool has,.string txt],true⟩,⟨ae,0,[.pointer none],true⟩] [⟨b1,0,[.bool has,.string txt],true⟩,⟨ac,0,[.int .i16 (IntKind.i16.wrap v),.int .i32 ((aa.f 0).n),.slice ((aa.f 1).A) ((aa.f 1).l) ((aa.f 1).c),.map aa.m],true⟩,⟨af,0,[.bool has,.string txt],true⟩,⟨ae,0,[.pointer none],true⟩,⟨ab,0,[.string txt],true⟩] from ⟨rfl,rfl,⟨rfl,rfl,⟨rfl,rfl,⟨rfl,rfl,trivial⟩⟩⟩⟩)).pk (env':=[(13,.v (.iface 147 (.agg #[.func (.func 131) #[] #[.pointer (some ⟨ab,0,none⟩)]]))),(1,.v (.iface 67 (.pointer (some ⟨ac,0,none⟩)))),(2,.v (.int .i32 num)),(12,.v (.string txt))])
  refine qam (qdG bH eD (e:=96) (size:=1) (len:=1) (cs:=[.iface 147 (.agg #[.func (.func 131) #[] #[.pointer (some ⟨ab,0,none⟩)]])]) (d:=14) kz kz fun au ns nt mi mj bI cM eE=>?_)
  refine qam (qa6 eE (f:=89) (vs:=[.slice (some ⟨au,0,none⟩) 1 1]) (d:=15) (n':=18) kz Tryz.call89 Tryz.func89 rfl Tryz.ntmps89 kz fun nu eF=>?_)
  refine qas [(0,.v (.slice (some ⟨au,0,none⟩) 1 1))] cM eF fun nv eG=>?_
  refine qae [0,1] kz ?_
  refine qam (qbe cM eG (d:=6) (cs:=[.pointer none]) kz fun ag nw nx ml mn bJ bd eH=>?_)
  refine qaj [1] [] [(0,.v (.slice (some ⟨au,0,none⟩) 1 1)),(3,.p 5 0)] bd eH fun ny eI=>?_
  refine qaf (qab ?_)
  refine wp_seq ?_
  refine qas [(3,.p 5 0),(7,.v (.slice (some ⟨au,0,none⟩) 1 1)),(8,.v (.int .i64 1)),(9,.v (.int .i64 0))] bd eI fun nz eJ=>?_
  refine wp_block ?_
  refine wp_loop_rounds 2 ?_
  refine qgc ?_
  refine qas [(3,.p 5 0),(7,.v (.slice (some ⟨au,0,none⟩) 1 1)),(8,.v (.int .i64 1)),(9,.v (.int .i64 0)),(10,.v (.bool true))] bd eJ fun nA cN=>?_
  refine wp_seq ?_
  refine qbK cN (b:=true) kz rfl ?_
  refine wp_skip ?_
  refine qab ?_
  refine wp_seq ?_
  refine wp_block ?_
  refine qae [0,1,2] kz ?_
  have dS:=qgl (o:=0 * 1) (cs:=[.iface 147 (.agg #[.func (.func 131) #[] #[.pointer (some ⟨ab,0,none⟩)]])]) (bd.own 0 _ rfl) rfl (fun j_ v_ h_=>by simpa using h_)
  refine qam (qaw cN (t:=142) (A:=(some ⟨au,0,none⟩)) (m:=1) (q:=0) (d:=11) kz (e:=96) (size:=1) (bytes:=16) kz (b:=au) (o:=0) (j:=0) rfl (rfl) (by omega) fun nB eK=>?_)
  refine qam (qaF eK (t:=96) (b:=au) (o:=0 + 0 * 1) (d:=12) kz (cs:=[.iface 147 (.agg #[.func (.func 131) #[] #[.pointer (some ⟨ab,0,none⟩)]])]) (v:=.iface 147 (.agg #[.func (.func 131) #[] #[.pointer (some ⟨ab,0,none⟩)]])) kz dS fun nC eL=>?_)
  refine qaj [2] [] [(3,.p 5 0),(5,.v (.iface 147 (.agg #[.func (.func 131) #[] #[.pointer (some ⟨ab,0,none⟩)]]))),(7,.v (.slice (some ⟨au,0,none⟩) 1 1)),(8,.v (.int .i64 1)),(9,.v (.int .i64 0))] bd eL fun nD eM=>?_
  refine qaf (qab ?_)
  refine qar [0,1,2] kz ?_
  refine qaj [0,1] [2] [(3,.p 5 0),(7,.v (.slice (some ⟨au,0,none⟩) 1 1)),(8,.v (.int .i64 1)),(9,.v (.int .i64 0)),(13,.v (.iface 147 (.agg #[.func (.func 131) #[] #[.pointer (some ⟨ab,0,none⟩)]]))),(14,.p 5 0)] bd eM fun nE eN=>?_
  refine qam (qb9 eN (t := 147) (v := (.agg #[.func (.func 131) #[] #[.pointer (some ⟨ab, 0, none⟩)]])) (v' := (.agg #[.func (.func 131) #[] #[.pointer (some ⟨ab, 0, none⟩)]])) (name := "pub-mailsack/pub/kmsg.apply") (f := 254) (vs := [.pointer (some ⟨ag, 0, none⟩)]) (d := 15) (n' := 8) kz (fun _ => by kernel_rfl) Tryz.call254 Tryz.func254 rfl Tryz.ntmps254 kz fun nF eO => ?_)
  have eP:=eO.recast 1 (.v (.pointer (some ⟨ag,0,none⟩))) (.p 5 0) rfl rfl (Nat.le_of_ble_eq_true (n:=6) rfl)
  refine qae [0] kz ?_
  refine qam (qbh bd eP (d:=2) (cs:=[.func (.func 131) #[] #[.pointer (some ⟨ab,0,none⟩)]]) kz fun ah nG nH mo mp bK cD eQ=>?_)
  refine qaf (qab ?_)
  refine qar [0,1,2,3] kz ?_
  refine qaj [0,1,2] [3] [(5,.v (.func (.func 131) #[] #[.pointer (some ⟨ab,0,none⟩)])),(6,.p 5 0)] cD eQ fun nI eR=>?_
  refine qam (qa6 eR (f:=131) (vs:=[.pointer (some ⟨ag,0,none⟩),.pointer (some ⟨ab,0,none⟩)]) (d:=7) (n':=6) kz Tryz.call131 Tryz.func131 rfl Tryz.ntmps131 kz fun nJ eS=>?_)
  have eT:=eS.recast 0 (.v (.pointer (some ⟨ag,0,none⟩))) (.p 5 0) rfl rfl (Nat.le_of_ble_eq_true (n:=6) rfl)
  have eU:=eT.recast 1 (.v (.pointer (some ⟨ab,0,none⟩))) (.p 4 0) rfl rfl (Nat.le_of_ble_eq_true (n:=5) rfl)
  refine qar [0,1,2,3] kz ?_
  refine qaj [0,1,2] [3] [(1,.p 4 0),(5,.p 5 0)] cD eU fun nK eV=>?_
  refine qam (qaP cD eV (oi:=5) (cs:=[.pointer (some ⟨ab,0,none⟩)]) kz fun nL bL aA eW=>?_)
  refine qaf ?_
  refine qce eW aA.cells (v:=.tuple #[]) kz ?_
  refine ⟨_,rfl,fun nM eX=>?_⟩
  have eY:=(EnvOk.places (tb':=[⟨b1,0,[.bool has,.string txt],true⟩,⟨ac,0,[.int .i16 (IntKind.i16.wrap v),.int .i32 ((aa.f 0).n),.slice ((aa.f 1).A) ((aa.f 1).l) ((aa.f 1).c),.map aa.m],true⟩,⟨af,0,[.bool has,.string txt],true⟩,⟨ae,0,[.pointer none],true⟩,⟨ab,0,[.string txt],true⟩,⟨ag,0,[.pointer (some ⟨ab,0,none⟩)],true⟩,⟨ah,0,[.func (.func 131) #[] #[.pointer (some ⟨ab,0,none⟩)]],true⟩]) eX (show Pl [⟨b1,0,[.bool has,.string txt],true⟩,⟨ac,0,[.int .i16 (IntKind.i16.wrap v),.int .i32 ((aa.f 0).n),.slice ((aa.f 1).A) ((aa.f 1).l) ((aa.f 1).c),.map aa.m],true⟩,⟨af,0,[.bool has,.string txt],true⟩,⟨ae,0,[.pointer none],true⟩,⟨ab,0,[.string txt],true⟩,⟨ag,0,[.pointer none],true⟩,⟨ah,0,[.func (.func 131) #[] #[.pointer (some ⟨ab,0,none⟩)]],true⟩] [⟨b1,0,[.bool has,.string txt],true⟩,⟨ac,0,[.int .i16 (IntKind.i16.wrap v),.int .i32 ((aa.f 0).n),.slice ((aa.f 1).A) ((aa.f 1).l) ((aa.f 1).c),.map aa.m],true⟩,⟨af,0,[.bool has,.string txt],true⟩,⟨ae,0,[.pointer none],true⟩,⟨ab,0,[.string txt],true⟩,⟨ag,0,[.pointer (some ⟨ab,0,none⟩)],true⟩,⟨ah,0,[.func (.func 131) #[] #[.pointer (some ⟨ab,0,none⟩)]],true⟩] from ⟨rfl,rfl,⟨rfl,rfl,⟨rfl,rfl,⟨rfl,rfl,⟨rfl,rfl,⟨rfl,rfl,⟨rfl,rfl,trivial⟩⟩⟩⟩⟩⟩⟩)).pk (env':=[(7,.v (.tuple #[])),(5,.v (.func (.func 131) #[] #[.pointer (some ⟨ab,0,none⟩)])),(6,.p 5 0)])
  refine qaf ?_
  refine qce eY aA.cells (v:=.tuple #[]) kz ?_
  refine ⟨_,rfl,fun nN eZ=>?_⟩
  have e9:=(EnvOk.places (tb':=[⟨b1,0,[.bool has,.string txt],true⟩,⟨ac,0,[.int .i16 (IntKind.i16.wrap v),.int .i32 ((aa.f 0).n),.slice ((aa.f 1).A) ((aa.f 1).l) ((aa.f 1).c),.map aa.m],true⟩,⟨af,0,[.bool has,.string txt],true⟩,⟨ae,0,[.pointer none],true⟩,⟨ab,0,[.string txt],true⟩,⟨ag,0,[.pointer (some ⟨ab,0,none⟩)],true⟩,⟨ah,0,[.func (.func 131) #[] #[.pointer (some ⟨ab,0,none⟩)]],true⟩]) eZ (show Pl [⟨b1,0,[.bool has,.string txt],true⟩,⟨ac,0,[.int .i16 (IntKind.i16.wrap v),.int .i32 ((aa.f 0).n),.slice ((aa.f 1).A) ((aa.f 1).l) ((aa.f 1).c),.map aa.m],true⟩,⟨af,0,[.bool has,.string txt],true⟩,⟨ae,0,[.pointer none],true⟩,⟨ab,0,[.string txt],true⟩,⟨ag,0,[.pointer none],true⟩] [⟨b1,0,[.bool has,.string txt],true⟩,⟨ac,0,[.int .i16 (IntKind.i16.wrap v),.int .i32 ((aa.f 0).n),.slice ((aa.f 1).A) ((aa.f 1).l) ((aa.f 1).c),.map aa.m],true⟩,⟨af,0,[.bool has,.string txt],true⟩,⟨ae,0,[.pointer none],true⟩,⟨ab,0,[.string txt],true⟩,⟨ag,0,[.pointer (some ⟨ab,0,none⟩)],true⟩,⟨ah,0,[.func (.func 131) #[] #[.pointer (some ⟨ab,0,none⟩)]],true⟩] from ⟨rfl,rfl,⟨rfl,rfl,⟨rfl,rfl,⟨rfl,rfl,⟨rfl,rfl,⟨rfl,rfl,trivial⟩⟩⟩⟩⟩⟩)).pk (env':=[(15,.v (.tuple #[])),(3,.p 5 0),(7,.v (.slice (some ⟨au,0,none⟩) 1 1)),(8,.v (.int .i64 1)),(9,.v (.int .i64 0)),(13,.v (.iface 147 (.agg #[.func (.func 131) #[] #[.pointer (some ⟨ab,0,none⟩)]]))),(14,.p 5 0)])
  refine qaf ?_
  refine qaC ?_
  refine qab ?_
  refine qar [0,1] kz ?_
  refine qaj [0,1] [] [(3,.p 5 0),(7,.v (.slice (some ⟨au,0,none⟩) 1 1)),(8,.v (.int .i64 1)),(9,.v (.int .i64 1))] aA e9 fun nO fa=>?_
  refine qaf (qab ?_)
  refine qgc ?_
  refine qas [(3,.p 5 0),(7,.v (.slice (some ⟨au,0,none⟩) 1 1)),(8,.v (.int .i64 1)),(9,.v (.int .i64 1)),(10,.v (.bool false))] aA fa fun nP cO=>?_
  refine wp_seq ?_
  refine qat cO (b:=false) kz rfl ?_
  refine wp_exit ?_
  refine qax ?_
  refine qax ?_
  refine qaN ?_
  refine qab ?_
  refine qas [(2,.p 5 0)] aA cO fun nQ fb=>?_
  refine wp_ret ?_
  refine qaE fb aA.cells (v:=.pointer (some ⟨ag,0,none⟩)) kz ?_
  refine ⟨_,rfl,fun nR fe=>?_⟩
  have ff:=(EnvOk.places (tb':=[⟨b1,0,[.bool has,.string txt],true⟩,⟨ac,0,[.int .i16 (IntKind.i16.wrap v),.int .i32 ((aa.f 0).n),.slice ((aa.f 1).A) ((aa.f 1).l) ((aa.f 1).c),.map aa.m],true⟩,⟨af,0,[.bool has,.string txt],true⟩,⟨ae,0,[.pointer none],true⟩,⟨ab,0,[.string txt],true⟩,⟨ag,0,[.pointer (some ⟨ab,0,none⟩)],true⟩,⟨ah,0,[.func (.func 131) #[] #[.pointer (some ⟨ab,0,none⟩)]],true⟩]) fe (show Pl [⟨b1,0,[.bool has,.string txt],true⟩,⟨ac,0,[.int .i16 (IntKind.i16.wrap v),.int .i32 ((aa.f 0).n),.slice ((aa.f 1).A) ((aa.f 1).l) ((aa.f 1).c),.map aa.m],true⟩,⟨af,0,[.bool has,.string txt],true⟩,⟨ae,0,[.pointer none],true⟩,⟨ab,0,[.string txt],true⟩] [⟨b1,0,[.bool has,.string txt],true⟩,⟨ac,0,[.int .i16 (IntKind.i16.wrap v),.int .i32 ((aa.f 0).n),.slice ((aa.f 1).A) ((aa.f 1).l) ((aa.f 1).c),.map aa.m],true⟩,⟨af,0,[.bool has,.string txt],true⟩,⟨ae,0,[.pointer none],true⟩,⟨ab,0,[.string txt],true⟩,⟨ag,0,[.pointer (some ⟨ab,0,none⟩)],true⟩,⟨ah,0,[.func (.func 131) #[] #[.pointer (some ⟨ab,0,none⟩)]],true⟩] from ⟨rfl,rfl,⟨rfl,rfl,⟨rfl,rfl,⟨rfl,rfl,⟨rfl,rfl,trivial⟩⟩⟩⟩⟩)).pk (env':=[(15,.v (.pointer (some ⟨ag,0,none⟩))),(1,.v (.iface 67 (.pointer (some ⟨ac,0,none⟩)))),(2,.v (.int .i32 num)),(12,.v (.string txt)),(13,.v (.iface 147 (.agg #[.func (.func 131) #[] #[.pointer (some ⟨ab,0,none⟩)]]))),(14,.v (.slice (some ⟨au,0,none⟩) 1 1))])
  have fg:=ff.recast 15 (.v (.pointer (some ⟨ag,0,none⟩))) (.p 5 0) rfl rfl (Nat.le_of_ble_eq_true (n:=6) rfl)
  have fh:=fg.pick (ks:=[1,2,12,13,14,15]) (env':=[(1,.v (.iface 67 (.pointer (some ⟨ac,0,none⟩)))),(2,.v (.int .i32 num)),(12,.v (.string txt)),(13,.v (.iface 147 (.agg #[.func (.func 131) #[] #[.pointer (some ⟨ab,0,none⟩)]]))),(14,.v (.slice (some ⟨au,0,none⟩) 1 1)),(15,.p 5 0)]) kz
  refine qaj [5] [] [(1,.v (.iface 67 (.pointer (some ⟨ac,0,none⟩)))),(2,.v (.int .i32 num)),(7,.p 5 0)] aA fh fun nS fi=>?_
  refine qaf (qab ?_)
  refine qae [0,1,2,3,4] kz ?_
  refine qaj [0,1,2] [3,4] [(16,.p 5 0),(17,.v (.iface 67 (.pointer (some ⟨ac,0,none⟩)))),(18,.v (.int .i32 num))] aA fi fun nT fj=>?_
  refine qam (qa6 fj (f:=91) (vs:=[.pointer (some ⟨ag,0,none⟩),.slice none 0 0,.iface 67 (.pointer (some ⟨ac,0,none⟩)),.int .i32 num]) (d:=19) (n':=60) kz Tryz.call91 Tryz.func91 rfl Tryz.ntmps91 kz fun nU fk=>?_)
  have fl:=fk.recast 0 (.v (.pointer (some ⟨ag,0,none⟩))) (.p 5 0) rfl rfl (Nat.le_of_ble_eq_true (n:=6) rfl)
  refine qas [(0,.p 5 0),(1,.v (.slice none 0 0)),(2,.v (.iface 67 (.pointer (some ⟨ac,0,none⟩)))),(3,.v (.int .i32 num))] aA fl fun nV fm=>?_
  refine qae [0,1,2,3] kz ?_
  refine qaj [0] [1,2,3] [(0,.p 5 0),(2,.v (.iface 67 (.pointer (some ⟨ac,0,none⟩)))),(3,.v (.int .i32 num)),(12,.v (.slice none 0 0))] aA fm fun nW fo=>?_
  have fq:=aA.addNil 5 1
  have bM:=aA.frNil 5 1
  refine qbq fq fo (k:=1) (e:=5) (size:=1) (len:=4) (cs:=[.int .u8 0,.int .u8 0,.int .u8 0,.int .u8 0]) (d1:=13) (d:=14) kz (t:=24) (bytes:=1) kz (fun _=>by kernel_rfl) rfl kz (by first | omega | (simp only [List.length_append,List.length_cons,List.length_nil,be_length,qbN]; omega) | (simp; omega)) fun aD aE nX nY bN fr ⟨_,ft⟩=>?_
  have fu:(⟨aD,aE,5,1,([]:Bs).length + 4,bc ([]:Bs) ++ [.int .u8 0,.int .u8 0,.int .u8 0,.int .u8 0]⟩:Rw) = brow aD aE 5 (([]:Bs) ++ [by8 0,by8 0,by8 0,by8 0]):=qa4 (by simp only [bc,List.map,qbH]; try rfl) rfl
  obtain ⟨aw,bO⟩:=fr.rowEq 1 [⟨some ⟨au,0,none⟩,1,96,1,1,[.iface 147 (.agg #[.func (.func 131) #[] #[.pointer (some ⟨ab,0,none⟩)]])]⟩,brow aD aE 5 (([]:Bs) ++ [by8 0,by8 0,by8 0,by8 0])] fu
  have fv:=EnvOk.pick ft (ks:=[0,2,3,12,14]) (env':=[(0,.p 5 0),(2,.v (.iface 67 (.pointer (some ⟨ac,0,none⟩)))),(3,.v (.int .i32 num)),(12,.v (.slice none 0 0)),(14,.v (.slice aD (([]:Bs).length + 4) aE))]) kz
  have fw:=fv.cast (env':=[(0,.p 5 0),(2,.v (.iface 67 (.pointer (some ⟨ac,0,none⟩)))),(3,.v (.int .i32 num)),(12,.v (.slice none 0 0)),(14,.v (.slice aD ((([]:Bs) ++ [by8 0,by8 0,by8 0,by8 0]).length) aE))]) (by simp only [List.length_append,List.length_cons,List.length_nil,Nat.zero_add])
  refine qaj [3] [] [(0,.p 5 0),(1,.v (.slice aD ((([]:Bs) ++ [by8 0,by8 0,by8 0,by8 0]).length) aE)),(2,.v (.iface 67 (.pointer (some ⟨ac,0,none⟩)))),(3,.v (.int .i32 num))] aw fw fun nZ fx=>?_
  refine qaf (qab ?_)
  refine qae [0,1,2] kz ?_
  refine qaj [0] [1,2] [(0,.p 5 0),(1,.v (.slice aD ((([]:Bs) ++ [by8 0,by8 0,by8 0,by8 0]).length) aE)),(2,.v (.iface 67 (.pointer (some ⟨ac,0,none⟩)))),(3,.v (.int .i32 num)),(15,.v (.iface 67 (.pointer (some ⟨ac,0,none⟩))))] aw fx fun n0 fy=>?_
  refine qam (qb9 fy (t := 67) (v := (.pointer (some ⟨ac, 0, none⟩))) (v' := (.pointer (some ⟨ac, 0, none⟩))) (name := "Key") (f := 248) (vs := []) (d := 16) (n' := 3) kz (fun _ => by kernel_rfl) Tryz.call248 Tryz.func248 rfl Tryz.ntmps248 kz fun n4 fz => ?_)
  have fA:=fz.recast 0 (.v (.pointer (some ⟨ac,0,none⟩))) (.p 1 0) rfl rfl (Nat.le_of_ble_eq_true (n:=2) rfl)
  refine qas [] aw fA fun n5 fB=>?_
  refine qas [(2,.v (.int .i16 23))] aw fB fun n8 fC=>?_
  refine wp_ret ?_
  refine qaE fC aw.cells (v:=.int .i16 23) kz ?_
  refine ⟨_,rfl,fun oa fD=>?_⟩
  have fE:=(EnvOk.places (tb':=[⟨b1,0,[.bool has,.string txt],true⟩,⟨ac,0,[.int .i16 (IntKind.i16.wrap v),.int .i32 ((aa.f 0).n),.slice ((aa.f 1).A) ((aa.f 1).l) ((aa.f 1).c),.map aa.m],true⟩,⟨af,0,[.bool has,.string txt],true⟩,⟨ae,0,[.pointer none],true⟩,⟨ab,0,[.string txt],true⟩,⟨ag,0,[.pointer (some ⟨ab,0,none⟩)],true⟩,⟨ah,0,[.func (.func 131) #[] #[.pointer (some ⟨ab,0,none⟩)]],true⟩]) fD (show Pl [⟨b1,0,[.bool has,.string txt],true⟩,⟨ac,0,[.int .i16 (IntKind.i16.wrap v),.int .i32 ((aa.f 0).n),.slice ((aa.f 1).A) ((aa.f 1).l) ((aa.f 1).c),.map aa.m],true⟩,⟨af,0,[.bool has,.string txt],true⟩,⟨ae,0,[.pointer none],true⟩,⟨ab,0,[.string txt],true⟩,⟨ag,0,[.pointer (some ⟨ab,0,none⟩)],true⟩,⟨ah,0,[.func (.func 131) #[] #[.pointer (some ⟨ab,0,none⟩)]],true⟩] [⟨b1,0,[.bool has,.string txt],true⟩,⟨ac,0,[.int .i16 (IntKind.i16.wrap v),.int .i32 ((aa.f 0).n),.slice ((aa.f 1).A) ((aa.f 1).l) ((aa.f 1).c),.map aa.m],true⟩,⟨af,0,[.bool has,.string txt],true⟩,⟨ae,0,[.pointer none],true⟩,⟨ab,0,[.string txt],true⟩,⟨ag,0,[.pointer (some ⟨ab,0,none⟩)],true⟩,⟨ah,0,[.func (.func 131) #[] #[.pointer (some ⟨ab,0,none⟩)]],true⟩] from ⟨rfl,rfl,⟨rfl,rfl,⟨rfl,rfl,⟨rfl,rfl,⟨rfl,rfl,⟨rfl,rfl,⟨rfl,rfl,trivial⟩⟩⟩⟩⟩⟩⟩)).pk (env':=[(16,.v (.int .i16 23)),(0,.p 5 0),(1,.v (.slice aD ((([]:Bs) ++ [by8 0,by8 0,by8 0,by8 0]).length) aE)),(2,.v (.iface 67 (.pointer (some ⟨ac,0,none⟩)))),(3,.v (.int .i32 num)),(15,.v (.iface 67 (.pointer (some ⟨ac,0,none⟩))))])
  refine qaj [2] [] [(0,.p 5 0),(1,.v (.slice aD ((([]:Bs) ++ [by8 0,by8 0,by8 0,by8 0]).length) aE)),(2,.v (.iface 67 (.pointer (some ⟨ac,0,none⟩)))),(3,.v (.int .i32 num)),(9,.v (.int .i16 23))] aw fE fun od fF=>?_
  refine qaf (qab ?_)
  refine qae [0,1,2] kz ?_
  refine qaj [0] [1,2] [(0,.p 5 0),(1,.v (.slice aD ((([]:Bs) ++ [by8 0,by8 0,by8 0,by8 0]).length) aE)),(2,.v (.iface 67 (.pointer (some ⟨ac,0,none⟩)))),(3,.v (.int .i32 num)),(9,.v (.int .i16 23)),(17,.v (.iface 67 (.pointer (some ⟨ac,0,none⟩))))] aw fF fun oe fG=>?_
  refine qam (qb9 fG (t := 67) (v := (.pointer (some ⟨ac, 0, none⟩))) (v' := (.pointer (some ⟨ac, 0, none⟩))) (name := "GetVersion") (f := 246) (vs := []) (d := 18) (n' := 7) kz (fun _ => by kernel_rfl) Tryz.call246 Tryz.func246 rfl Tryz.ntmps246 kz fun og fH => ?_)
  have fI:=fH.recast 0 (.v (.pointer (some ⟨ac,0,none⟩))) (.p 1 0) rfl rfl (Nat.le_of_ble_eq_true (n:=2) rfl)
  refine qas [(0,.p 1 0)] aw fI fun oh fJ=>?_
  refine qas [(2,.v (.int .i16 (IntKind.i16.wrap v)))] aw fJ fun ol fK=>?_
  refine wp_ret ?_
  refine qaE fK aw.cells (v:=.int .i16 (IntKind.i16.wrap v)) kz ?_
  refine ⟨_,rfl,fun om fL=>?_⟩
  have fM:=(EnvOk.places (tb':=[⟨b1,0,[.bool has,.string txt],true⟩,⟨ac,0,[.int .i16 (IntKind.i16.wrap v),.int .i32 ((aa.f 0).n),.slice ((aa.f 1).A) ((aa.f 1).l) ((aa.f 1).c),.map aa.m],true⟩,⟨af,0,[.bool has,.string txt],true⟩,⟨ae,0,[.pointer none],true⟩,⟨ab,0,[.string txt],true⟩,⟨ag,0,[.pointer (some ⟨ab,0,none⟩)],true⟩,⟨ah,0,[.func (.func 131) #[] #[.pointer (some ⟨ab,0,none⟩)]],true⟩]) fL (show Pl [⟨b1,0,[.bool has,.string txt],true⟩,⟨ac,0,[.int .i16 (IntKind.i16.wrap v),.int .i32 ((aa.f 0).n),.slice ((aa.f 1).A) ((aa.f 1).l) ((aa.f 1).c),.map aa.m],true⟩,⟨af,0,[.bool has,.string txt],true⟩,⟨ae,0,[.pointer none],true⟩,⟨ab,0,[.string txt],true⟩,⟨ag,0,[.pointer (some ⟨ab,0,none⟩)],true⟩,⟨ah,0,[.func (.func 131) #[] #[.pointer (some ⟨ab,0,none⟩)]],true⟩] [⟨b1,0,[.bool has,.string txt],true⟩,⟨ac,0,[.int .i16 (IntKind.i16.wrap v),.int .i32 ((aa.f 0).n),.slice ((aa.f 1).A) ((aa.f 1).l) ((aa.f 1).c),.map aa.m],true⟩,⟨af,0,[.bool has,.string txt],true⟩,⟨ae,0,[.pointer none],true⟩,⟨ab,0,[.string txt],true⟩,⟨ag,0,[.pointer (some ⟨ab,0,none⟩)],true⟩,⟨ah,0,[.func (.func 131) #[] #[.pointer (some ⟨ab,0,none⟩)]],true⟩] from ⟨rfl,rfl,⟨rfl,rfl,⟨rfl,rfl,⟨rfl,rfl,⟨rfl,rfl,⟨rfl,rfl,⟨rfl,rfl,trivial⟩⟩⟩⟩⟩⟩⟩)).pk (env':=[(18,.v (.int .i16 (IntKind.i16.wrap v))),(0,.p 5 0),(1,.v (.slice aD ((([]:Bs) ++ [by8 0,by8 0,by8 0,by8 0]).length) aE)),(2,.v (.iface 67 (.pointer (some ⟨ac,0,none⟩)))),(3,.v (.int .i32 num)),(9,.v (.int .i16 23)),(17,.v (.iface 67 (.pointer (some ⟨ac,0,none⟩))))])
  refine qaj [2] [] [(0,.p 5 0),(1,.v (.slice aD ((([]:Bs) ++ [by8 0,by8 0,by8 0,by8 0]).length) aE)),(2,.v (.iface 67 (.pointer (some ⟨ac,0,none⟩)))),(3,.v (.int .i32 num)),(9,.v (.int .i16 23)),(10,.v (.int .i16 (IntKind.i16.wrap v)))] aw fM fun oq fN=>?_
  refine qaf (qab ?_)
  refine qae [0,1,2,3] kz ?_
  refine qaj [0,1] [2,3] [(0,.p 5 0),(2,.v (.iface 67 (.pointer (some ⟨ac,0,none⟩)))),(3,.v (.int .i32 num)),(9,.v (.int .i16 23)),(10,.v (.int .i16 (IntKind.i16.wrap v))),(19,.v (.slice aD ((([]:Bs) ++ [by8 0,by8 0,by8 0,by8 0]).length) aE)),(20,.v (.int .i16 23))] aw fN fun ot fO=>?_
  refine qam (qal fO (f:=132) (vs:=[.slice aD ((([]:Bs) ++ [by8 0,by8 0,by8 0,by8 0]).length) aE,.int .i16 23]) (d:=21) kz Tryz.call132 (qcn aD aE (([]:Bs) ++ [by8 0,by8 0,by8 0,by8 0]) 23 _ (aw.own 1 _ rfl) (by first | omega | (simp only [List.length_append,List.length_cons,List.length_nil,be_length,qbN]; omega) | (simp; omega))) ?_)
  rintro e_ ou ⟨bw,bx,rfl,fP,cP,cQ⟩
  refine ⟨_,rfl,fun ov fQ=>?_⟩
  have bP:WOk _ _ _ _ [⟨some ⟨au,0,none⟩,1,96,1,1,[.iface 147 (.agg #[.func (.func 131) #[] #[.pointer (some ⟨ab,0,none⟩)]])]⟩,brow bw bx 5 (([]:Bs) ++ [by8 0,by8 0,by8 0,by8 0] ++ be 2 23)]:=aw.grow (k:=1) rfl cP fP cQ
  have bQ:Fr _ [⟨b1,0,[.bool has,.string txt],true⟩,⟨ac,0,[.int .i16 (IntKind.i16.wrap v),.int .i32 ((aa.f 0).n),.slice ((aa.f 1).A) ((aa.f 1).l) ((aa.f 1).c),.map aa.m],true⟩,⟨af,0,[.bool has,.string txt],true⟩,⟨ae,0,[.pointer none],true⟩,⟨ab,0,[.string txt],true⟩,⟨ag,0,[.pointer (some ⟨ab,0,none⟩)],true⟩,⟨ah,0,[.func (.func 131) #[] #[.pointer (some ⟨ab,0,none⟩)]],true⟩] [⟨some ⟨au,0,none⟩,1,96,1,1,[.iface 147 (.agg #[.func (.func 131) #[] #[.pointer (some ⟨ab,0,none⟩)]])]⟩,brow aD aE 5 (([]:Bs) ++ [by8 0,by8 0,by8 0,by8 0])] _ [⟨b1,0,[.bool has,.string txt],true⟩,⟨ac,0,[.int .i16 (IntKind.i16.wrap v),.int .i32 ((aa.f 0).n),.slice ((aa.f 1).A) ((aa.f 1).l) ((aa.f 1).c),.map aa.m],true⟩,⟨af,0,[.bool has,.string txt],true⟩,⟨ae,0,[.pointer none],true⟩,⟨ab,0,[.string txt],true⟩,⟨ag,0,[.pointer (some ⟨ab,0,none⟩)],true⟩,⟨ah,0,[.func (.func 131) #[] #[.pointer (some ⟨ab,0,none⟩)]],true⟩] [⟨some ⟨au,0,none⟩,1,96,1,1,[.iface 147 (.agg #[.func (.func 131) #[] #[.pointer (some ⟨ab,0,none⟩)]])]⟩,brow bw bx 5 (([]:Bs) ++ [by8 0,by8 0,by8 0,by8 0] ++ be 2 23)]:=Fr.grow _ (k:=1) (r':=(brow bw bx 5 (([]:Bs) ++ [by8 0,by8 0,by8 0,by8 0] ++ be 2 23))) rfl cP cQ
  refine qaj [3] [] [(0,.p 5 0),(1,.v (.slice bw ((([]:Bs) ++ [by8 0,by8 0,by8 0,by8 0] ++ be 2 23).length) bx)),(2,.v (.iface 67 (.pointer (some ⟨ac,0,none⟩)))),(3,.v (.int .i32 num)),(9,.v (.int .i16 23)),(10,.v (.int .i16 (IntKind.i16.wrap v)))] bP fQ fun ow fR=>?_
  refine qaf (qab ?_)
  refine qae [0,1,2,3] kz ?_
  refine qaj [0,1] [2,3] [(0,.p 5 0),(2,.v (.iface 67 (.pointer (some ⟨ac,0,none⟩)))),(3,.v (.int .i32 num)),(9,.v (.int .i16 23)),(10,.v (.int .i16 (IntKind.i16.wrap v))),(22,.v (.slice bw ((([]:Bs) ++ [by8 0,by8 0,by8 0,by8 0] ++ be 2 23).length) bx)),(23,.v (.int .i16 (IntKind.i16.wrap v)))] bP fR fun ox fS=>?_
  refine qam (qal fS (f:=132) (vs:=[.slice bw ((([]:Bs) ++ [by8 0,by8 0,by8 0,by8 0] ++ be 2 23).length) bx,.int .i16 (IntKind.i16.wrap v)]) (d:=24) kz Tryz.call132 (qcn bw bx (([]:Bs) ++ [by8 0,by8 0,by8 0,by8 0] ++ be 2 23) (IntKind.i16.wrap v) _ (bP.own 1 _ rfl) (by first | omega | (simp only [List.length_append,List.length_cons,List.length_nil,be_length,qbN]; omega) | (simp; omega))) ?_)
  rintro e_ oy ⟨bz,bA,rfl,fT,cR,cS⟩
  refine ⟨_,rfl,fun oz fU=>?_⟩
  have bR:WOk _ _ _ _ [⟨some ⟨au,0,none⟩,1,96,1,1,[.iface 147 (.agg #[.func (.func 131) #[] #[.pointer (some ⟨ab,0,none⟩)]])]⟩,brow bz bA 5 (([]:Bs) ++ [by8 0,by8 0,by8 0,by8 0] ++ be 2 23 ++ be 2 (IntKind.i16.wrap v))]:=bP.grow (k:=1) rfl cR fT cS
  have bS:Fr _ [⟨b1,0,[.bool has,.string txt],true⟩,⟨ac,0,[.int .i16 (IntKind.i16.wrap v),.int .i32 ((aa.f 0).n),.slice ((aa.f 1).A) ((aa.f 1).l) ((aa.f 1).c),.map aa.m],true⟩,⟨af,0,[.bool has,.string txt],true⟩,⟨ae,0,[.pointer none],true⟩,⟨ab,0,[.string txt],true⟩,⟨ag,0,[.pointer (some ⟨ab,0,none⟩)],true⟩,⟨ah,0,[.func (.func 131) #[] #[.pointer (some ⟨ab,0,none⟩)]],true⟩] [⟨some ⟨au,0,none⟩,1,96,1,1,[.iface 147 (.agg #[.func (.func 131) #[] #[.pointer (some ⟨ab,0,none⟩)]])]⟩,brow bw bx 5 (([]:Bs) ++ [by8 0,by8 0,by8 0,by8 0] ++ be 2 23)] _ [⟨b1,0,[.bool has,.string txt],true⟩,⟨ac,0,[.int .i16 (IntKind.i16.wrap v),.int .i32 ((aa.f 0).n),.slice ((aa.f 1).A) ((aa.f 1).l) ((aa.f 1).c),.map aa.m],true⟩,⟨af,0,[.bool has,.string txt],true⟩,⟨ae,0,[.pointer none],true⟩,⟨ab,0,[.string txt],true⟩,⟨ag,0,[.pointer (some ⟨ab,0,none⟩)],true⟩,⟨ah,0,[.func (.func 131) #[] #[.pointer (some ⟨ab,0,none⟩)]],true⟩] [⟨some ⟨au,0,none⟩,1,96,1,1,[.iface 147 (.agg #[.func (.func 131) #[] #[.pointer (some ⟨ab,0,none⟩)]])]⟩,brow bz bA 5 (([]:Bs) ++ [by8 0,by8 0,by8 0,by8 0] ++ be 2 23 ++ be 2 (IntKind.i16.wrap v))]:=Fr.grow _ (k:=1) (r':=(brow bz bA 5 (([]:Bs) ++ [by8 0,by8 0,by8 0,by8 0] ++ be 2 23 ++ be 2 (IntKind.i16.wrap v)))) rfl cR cS
  refine qaj [3] [] [(0,.p 5 0),(1,.v (.slice bz ((([]:Bs) ++ [by8 0,by8 0,by8 0,by8 0] ++ be 2 23 ++ be 2 (IntKind.i16.wrap v)).length) bA)),(2,.v (.iface 67 (.pointer (some ⟨ac,0,none⟩)))),(3,.v (.int .i32 num)),(9,.v (.int .i16 23)),(10,.v (.int .i16 (IntKind.i16.wrap v)))] bR fU fun oA fV=>?_
  refine qaf (qab ?_)
  refine qae [0,1,2,3] kz ?_
  refine qaj [0,1] [2,3] [(0,.p 5 0),(2,.v (.iface 67 (.pointer (some ⟨ac,0,none⟩)))),(9,.v (.int .i16 23)),(10,.v (.int .i16 (IntKind.i16.wrap v))),(25,.v (.slice bz ((([]:Bs) ++ [by8 0,by8 0,by8 0,by8 0] ++ be 2 23 ++ be 2 (IntKind.i16.wrap v)).length) bA)),(26,.v (.int .i32 num))] bR fV fun oB fW=>?_
  refine qam (qal fW (f:=133) (vs:=[.slice bz ((([]:Bs) ++ [by8 0,by8 0,by8 0,by8 0] ++ be 2 23 ++ be 2 (IntKind.i16.wrap v)).length) bA,.int .i32 num]) (d:=27) kz Tryz.call133 (qb6 bz bA (([]:Bs) ++ [by8 0,by8 0,by8 0,by8 0] ++ be 2 23 ++ be 2 (IntKind.i16.wrap v)) num _ (bR.own 1 _ rfl) (by first | omega | (simp only [List.length_append,List.length_cons,List.length_nil,be_length,qbN]; omega) | (simp; omega))) ?_)
  rintro e_ oC ⟨aK,aL,rfl,fX,cT,cU⟩
  refine ⟨_,rfl,fun oD fY=>?_⟩
  have aM:WOk _ _ _ _ [⟨some ⟨au,0,none⟩,1,96,1,1,[.iface 147 (.agg #[.func (.func 131) #[] #[.pointer (some ⟨ab,0,none⟩)]])]⟩,brow aK aL 5 (([]:Bs) ++ [by8 0,by8 0,by8 0,by8 0] ++ be 2 23 ++ be 2 (IntKind.i16.wrap v) ++ be 4 num)]:=bR.grow (k:=1) rfl cT fX cU
  have bT:Fr _ [⟨b1,0,[.bool has,.string txt],true⟩,⟨ac,0,[.int .i16 (IntKind.i16.wrap v),.int .i32 ((aa.f 0).n),.slice ((aa.f 1).A) ((aa.f 1).l) ((aa.f 1).c),.map aa.m],true⟩,⟨af,0,[.bool has,.string txt],true⟩,⟨ae,0,[.pointer none],true⟩,⟨ab,0,[.string txt],true⟩,⟨ag,0,[.pointer (some ⟨ab,0,none⟩)],true⟩,⟨ah,0,[.func (.func 131) #[] #[.pointer (some ⟨ab,0,none⟩)]],true⟩] [⟨some ⟨au,0,none⟩,1,96,1,1,[.iface 147 (.agg #[.func (.func 131) #[] #[.pointer (some ⟨ab,0,none⟩)]])]⟩,brow bz bA 5 (([]:Bs) ++ [by8 0,by8 0,by8 0,by8 0] ++ be 2 23 ++ be 2 (IntKind.i16.wrap v))] _ [⟨b1,0,[.bool has,.string txt],true⟩,⟨ac,0,[.int .i16 (IntKind.i16.wrap v),.int .i32 ((aa.f 0).n),.slice ((aa.f 1).A) ((aa.f 1).l) ((aa.f 1).c),.map aa.m],true⟩,⟨af,0,[.bool has,.string txt],true⟩,⟨ae,0,[.pointer none],true⟩,⟨ab,0,[.string txt],true⟩,⟨ag,0,[.pointer (some ⟨ab,0,none⟩)],true⟩,⟨ah,0,[.func (.func 131) #[] #[.pointer (some ⟨ab,0,none⟩)]],true⟩] [⟨some ⟨au,0,none⟩,1,96,1,1,[.iface 147 (.agg #[.func (.func 131) #[] #[.pointer (some ⟨ab,0,none⟩)]])]⟩,brow aK aL 5 (([]:Bs) ++ [by8 0,by8 0,by8 0,by8 0] ++ be 2 23 ++ be 2 (IntKind.i16.wrap v) ++ be 4 num)]:=Fr.grow _ (k:=1) (r':=(brow aK aL 5 (([]:Bs) ++ [by8 0,by8 0,by8 0,by8 0] ++ be 2 23 ++ be 2 (IntKind.i16.wrap v) ++ be 4 num))) rfl cT cU
  refine qaj [3] [] [(0,.p 5 0),(1,.v (.slice aK ((([]:Bs) ++ [by8 0,by8 0,by8 0,by8 0] ++ be 2 23 ++ be 2 (IntKind.i16.wrap v) ++ be 4 num).length) aL)),(2,.v (.iface 67 (.pointer (some ⟨ac,0,none⟩)))),(9,.v (.int .i16 23)),(10,.v (.int .i16 (IntKind.i16.wrap v)))] aM fY fun oE fZ=>?_
  refine qaf (qab ?_)
  refine wp_seq ?_
  refine qas [(0,.p 5 0),(1,.v (.slice aK ((([]:Bs) ++ [by8 0,by8 0,by8 0,by8 0] ++ be 2 23 ++ be 2 (IntKind.i16.wrap v) ++ be 4 num).length) aL)),(2,.v (.iface 67 (.pointer (some ⟨ac,0,none⟩)))),(33,.v (.bool false))] aM fZ fun oF cV=>?_
  refine qat cV (b:=false) kz rfl ?_
  refine wp_skip ?_
  refine qab ?_
  refine qae [0,1,2,3,4,5,6] kz ?_
  refine qaj [0,1,2,3,4] [5,6] [(2,.v (.iface 67 (.pointer (some ⟨ac,0,none⟩)))),(35,.v (.slice aK ((([]:Bs) ++ [by8 0,by8 0,by8 0,by8 0] ++ be 2 23 ++ be 2 (IntKind.i16.wrap v) ++ be 4 num).length) aL)),(39,.v (.pointer (some ⟨ab,0,none⟩)))] aM cV fun oG f5=>?_
  refine qam (qa6 f5 (f:=134) (vs:=[.slice aK ((([]:Bs) ++ [by8 0,by8 0,by8 0,by8 0] ++ be 2 23 ++ be 2 (IntKind.i16.wrap v) ++ be 4 num).length) aL,.pointer (some ⟨ab,0,none⟩)]) (d:=40) (n':=14) kz Tryz.call134 Tryz.func134 rfl Tryz.ntmps134 kz fun oH f7=>?_)
  refine qas [(0,.v (.slice aK ((([]:Bs) ++ [by8 0,by8 0,by8 0,by8 0] ++ be 2 23 ++ be 2 (IntKind.i16.wrap v) ++ be 4 num).length) aL)),(1,.v (.pointer (some ⟨ab,0,none⟩)))] aM f7 fun oI f9=>?_
  refine wp_seq ?_
  refine qas [(0,.v (.slice aK ((([]:Bs) ++ [by8 0,by8 0,by8 0,by8 0] ++ be 2 23 ++ be 2 (IntKind.i16.wrap v) ++ be 4 num).length) aL)),(1,.v (.pointer (some ⟨ab,0,none⟩))),(6,.v (.bool false))] aM f9 fun oJ cW=>?_
  refine qat cW (b:=false) kz rfl ?_
  refine wp_skip ?_
  refine qab ?_
  refine qae [0,1,2,3,4,5] kz ?_
  refine qaj [0,1,2] [3,4,5] [(9,.v (.slice aK ((([]:Bs) ++ [by8 0,by8 0,by8 0,by8 0] ++ be 2 23 ++ be 2 (IntKind.i16.wrap v) ++ be 4 num).length) aL)),(11,.v (.pointer (some ⟨ab,0,none⟩)))] aM cW fun oK ga=>?_
  have dT:=(Str.of aM 4 rfl).atF.at_
  refine qam (qaF ga (t:=9) (b:=ab) (o:=0) (d:=12) kz (cs:=[.string txt]) (v:=.string txt) kz dT fun oL gb=>?_)
  refine qam (qal gb (f:=156) (vs:=[.slice aK ((([]:Bs) ++ [by8 0,by8 0,by8 0,by8 0] ++ be 2 23 ++ be 2 (IntKind.i16.wrap v) ++ be 4 num).length) aL,.string txt]) (d:=13) kz Tryz.call156 (qet txt aK aL (([]:Bs) ++ [by8 0,by8 0,by8 0,by8 0] ++ be 2 23 ++ be 2 (IntKind.i16.wrap v) ++ be 4 num) _ (aM.own 1 _ rfl) (by first | omega | (simp only [List.length_append,List.length_cons,List.length_nil,be_length,qbN]; omega) | (simp; omega))) ?_)
  rintro e_ oM ⟨aF,aG,rfl,gc,cX,cY⟩
  refine ⟨_,rfl,fun oN gd=>?_⟩
  have ax:WOk _ _ _ _ [⟨some ⟨au,0,none⟩,1,96,1,1,[.iface 147 (.agg #[.func (.func 131) #[] #[.pointer (some ⟨ab,0,none⟩)]])]⟩,brow aF aG 5 ((([]:Bs) ++ [by8 0,by8 0,by8 0,by8 0] ++ be 2 23 ++ be 2 (IntKind.i16.wrap v) ++ be 4 num) ++ (be 2 txt.size ++ sb txt))]:=aM.grow (k:=1) rfl cX gc cY
  have bU:=Fr.grow [⟨b1,0,[.bool has,.string txt],true⟩,⟨ac,0,[.int .i16 (IntKind.i16.wrap v),.int .i32 ((aa.f 0).n),.slice ((aa.f 1).A) ((aa.f 1).l) ((aa.f 1).c),.map aa.m],true⟩,⟨af,0,[.bool has,.string txt],true⟩,⟨ae,0,[.pointer none],true⟩,⟨ab,0,[.string txt],true⟩,⟨ag,0,[.pointer (some ⟨ab,0,none⟩)],true⟩,⟨ah,0,[.func (.func 131) #[] #[.pointer (some ⟨ab,0,none⟩)]],true⟩] (k:=1) (rs:=[⟨some ⟨au,0,none⟩,1,96,1,1,[.iface 147 (.agg #[.func (.func 131) #[] #[.pointer (some ⟨ab,0,none⟩)]])]⟩,brow aK aL 5 (([]:Bs) ++ [by8 0,by8 0,by8 0,by8 0] ++ be 2 23 ++ be 2 (IntKind.i16.wrap v) ++ be 4 num)]) (r':=(brow aF aG 5 ((([]:Bs) ++ [by8 0,by8 0,by8 0,by8 0] ++ be 2 23 ++ be 2 (IntKind.i16.wrap v) ++ be 4 num) ++ (be 2 txt.size ++ sb txt)))) rfl cX cY
  refine qaj [5] [] [(4,.v (.slice aF (((([]:Bs) ++ [by8 0,by8 0,by8 0,by8 0] ++ be 2 23 ++ be 2 (IntKind.i16.wrap v) ++ be 4 num) ++ (be 2 txt.size ++ sb txt)).length) aG))] ax gd fun oO ge=>?_
  refine qaf (qab ?_)
  refine wp_ret ?_
  refine qaE ge ax.cells (v:=.slice aF (((([]:Bs) ++ [by8 0,by8 0,by8 0,by8 0] ++ be 2 23 ++ be 2 (IntKind.i16.wrap v) ++ be 4 num) ++ (be 2 txt.size ++ sb txt)).length) aG) kz ?_
  refine ⟨_,rfl,fun oP gg=>?_⟩
  have gh:=(EnvOk.places (tb':=[⟨b1,0,[.bool has,.string txt],true⟩,⟨ac,0,[.int .i16 (IntKind.i16.wrap v),.int .i32 ((aa.f 0).n),.slice ((aa.f 1).A) ((aa.f 1).l) ((aa.f 1).c),.map aa.m],true⟩,⟨af,0,[.bool has,.string txt],true⟩,⟨ae,0,[.pointer none],true⟩,⟨ab,0,[.string txt],true⟩,⟨ag,0,[.pointer (some ⟨ab,0,none⟩)],true⟩,⟨ah,0,[.func (.func 131) #[] #[.pointer (some ⟨ab,0,none⟩)]],true⟩]) gg (show Pl [⟨b1,0,[.bool has,.string txt],true⟩,⟨ac,0,[.int .i16 (IntKind.i16.wrap v),.int .i32 ((aa.f 0).n),.slice ((aa.f 1).A) ((aa.f 1).l) ((aa.f 1).c),.map aa.m],true⟩,⟨af,0,[.bool has,.string txt],true⟩,⟨ae,0,[.pointer none],true⟩,⟨ab,0,[.string txt],true⟩,⟨ag,0,[.pointer (some ⟨ab,0,none⟩)],true⟩,⟨ah,0,[.func (.func 131) #[] #[.pointer (some ⟨ab,0,none⟩)]],true⟩] [⟨b1,0,[.bool has,.string txt],true⟩,⟨ac,0,[.int .i16 (IntKind.i16.wrap v),.int .i32 ((aa.f 0).n),.slice ((aa.f 1).A) ((aa.f 1).l) ((aa.f 1).c),.map aa.m],true⟩,⟨af,0,[.bool has,.string txt],true⟩,⟨ae,0,[.pointer none],true⟩,⟨ab,0,[.string txt],true⟩,⟨ag,0,[.pointer (some ⟨ab,0,none⟩)],true⟩,⟨ah,0,[.func (.func 131) #[] #[.pointer (some ⟨ab,0,none⟩)]],true⟩] from ⟨rfl,rfl,⟨rfl,rfl,⟨rfl,rfl,⟨rfl,rfl,⟨rfl,rfl,⟨rfl,rfl,⟨rfl,rfl,trivial⟩⟩⟩⟩⟩⟩⟩)).pk (env':=[(40,.v (.slice aF (((([]:Bs) ++ [by8 0,by8 0,by8 0,by8 0] ++ be 2 23 ++ be 2 (IntKind.i16.wrap v) ++ be 4 num) ++ (be 2 txt.size ++ sb txt)).length) aG)),(2,.v (.iface 67 (.pointer (some ⟨ac,0,none⟩)))),(35,.v (.slice aK ((([]:Bs) ++ [by8 0,by8 0,by8 0,by8 0] ++ be 2 23 ++ be 2 (IntKind.i16.wrap v) ++ be 4 num).length) aL)),(39,.v (.pointer (some ⟨ab,0,none⟩)))])
  refine qaj [6] [] [(1,.v (.slice aF (((([]:Bs) ++ [by8 0,by8 0,by8 0,by8 0] ++ be 2 23 ++ be 2 (IntKind.i16.wrap v) ++ be 4 num) ++ (be 2 txt.size ++ sb txt)).length) aG)),(2,.v (.iface 67 (.pointer (some ⟨ac,0,none⟩))))] ax gh fun oQ gi=>?_
  refine qaf (qab ?_)
  refine wp_seq ?_
  refine qae [0,1] kz ?_
  refine qaj [0] [1] [(1,.v (.slice aF (((([]:Bs) ++ [by8 0,by8 0,by8 0,by8 0] ++ be 2 23 ++ be 2 (IntKind.i16.wrap v) ++ be 4 num) ++ (be 2 txt.size ++ sb txt)).length) aG)),(2,.v (.iface 67 (.pointer (some ⟨ac,0,none⟩)))),(41,.v (.iface 67 (.pointer (some ⟨ac,0,none⟩))))] ax gi fun oR gj=>?_
  refine qam (qb9 gj (t := 67) (v := (.pointer (some ⟨ac, 0, none⟩))) (v' := (.pointer (some ⟨ac, 0, none⟩))) (name := "IsFlexible") (f := 247) (vs := []) (d := 42) (n' := 8) kz (fun _ => by kernel_rfl) Tryz.call247 Tryz.func247 rfl Tryz.ntmps247 kz fun oS gk => ?_)
  have gl:=gk.recast 0 (.v (.pointer (some ⟨ac,0,none⟩))) (.p 1 0) rfl rfl (Nat.le_of_ble_eq_true (n:=2) rfl)
  refine qas [(0,.p 1 0)] ax gl fun oT gm=>?_
  refine qas [(2,.v (.bool (decide ((IntKind.i16.wrap v) ≥ 4))))] ax gm fun oU gn=>?_
  refine wp_ret ?_
  refine qaE gn ax.cells (v:=.bool (decide ((IntKind.i16.wrap v) ≥ 4))) kz ?_
  refine ⟨_,rfl,fun oV gp=>?_⟩
  have cE:=(EnvOk.places (tb':=[⟨b1,0,[.bool has,.string txt],true⟩,⟨ac,0,[.int .i16 (IntKind.i16.wrap v),.int .i32 ((aa.f 0).n),.slice ((aa.f 1).A) ((aa.f 1).l) ((aa.f 1).c),.map aa.m],true⟩,⟨af,0,[.bool has,.string txt],true⟩,⟨ae,0,[.pointer none],true⟩,⟨ab,0,[.string txt],true⟩,⟨ag,0,[.pointer (some ⟨ab,0,none⟩)],true⟩,⟨ah,0,[.func (.func 131) #[] #[.pointer (some ⟨ab,0,none⟩)]],true⟩]) gp (show Pl [⟨b1,0,[.bool has,.string txt],true⟩,⟨ac,0,[.int .i16 (IntKind.i16.wrap v),.int .i32 ((aa.f 0).n),.slice ((aa.f 1).A) ((aa.f 1).l) ((aa.f 1).c),.map aa.m],true⟩,⟨af,0,[.bool has,.string txt],true⟩,⟨ae,0,[.pointer none],true⟩,⟨ab,0,[.string txt],true⟩,⟨ag,0,[.pointer (some ⟨ab,0,none⟩)],true⟩,⟨ah,0,[.func (.func 131) #[] #[.pointer (some ⟨ab,0,none⟩)]],true⟩] [⟨b1,0,[.bool has,.string txt],true⟩,⟨ac,0,[.int .i16 (IntKind.i16.wrap v),.int .i32 ((aa.f 0).n),.slice ((aa.f 1).A) ((aa.f 1).l) ((aa.f 1).c),.map aa.m],true⟩,⟨af,0,[.bool has,.string txt],true⟩,⟨ae,0,[.pointer none],true⟩,⟨ab,0,[.string txt],true⟩,⟨ag,0,[.pointer (some ⟨ab,0,none⟩)],true⟩,⟨ah,0,[.func (.func 131) #[] #[.pointer (some ⟨ab,0,none⟩)]],true⟩] from ⟨rfl,rfl,⟨rfl,rfl,⟨rfl,rfl,⟨rfl,rfl,⟨rfl,rfl,⟨rfl,rfl,⟨rfl,rfl,trivial⟩⟩⟩⟩⟩⟩⟩)).pk (env':=[(42,.v (.bool (decide ((IntKind.i16.wrap v) ≥ 4)))),(1,.v (.slice aF (((([]:Bs) ++ [by8 0,by8 0,by8 0,by8 0] ++ be 2 23 ++ be 2 (IntKind.i16.wrap v) ++ be 4 num) ++ (be 2 txt.size ++ sb txt)).length) aG)),(2,.v (.iface 67 (.pointer (some ⟨ac,0,none⟩)))),(41,.v (.iface 67 (.pointer (some ⟨ac,0,none⟩))))])
  refine qaf (qab ?_)
  refine qay cE (b:=decide ((IntKind.i16.wrap v) ≥ 4)) kz (fun bf=>?_) (fun bf=>?_)
  ·
   have mq:=of_decide_eq_true bf
   refine qas [(1,.v (.slice aF (((([]:Bs) ++ [by8 0,by8 0,by8 0,by8 0] ++ be 2 23 ++ be 2 (IntKind.i16.wrap v) ++ be 4 num) ++ (be 2 txt.size ++ sb txt)).length) aG)),(2,.v (.iface 67 (.pointer (some ⟨ac,0,none⟩)))),(11,.v (.int .u8 0))] ax cE fun oW gq=>?_
   refine qae [0,1,2,3,4] kz ?_
   refine qaj [0,1] [2,3,4] [(2,.v (.iface 67 (.pointer (some ⟨ac,0,none⟩)))),(11,.v (.int .u8 0)),(43,.v (.slice aF (((([]:Bs) ++ [by8 0,by8 0,by8 0,by8 0] ++ be 2 23 ++ be 2 (IntKind.i16.wrap v) ++ be 4 num) ++ (be 2 txt.size ++ sb txt)).length) aG)),(44,.v (.int .u8 0))] ax gq fun oX gt=>?_
   refine qbq ax gt (k:=1) (e:=5) (size:=1) (len:=1) (cs:=[.int .u8 0]) (d1:=45) (d:=46) kz (t:=24) (bytes:=1) kz (fun _=>by kernel_rfl) rfl kz (by first | omega | (simp only [List.length_append,List.length_cons,List.length_nil,be_length,qbN]; omega) | (simp; omega)) fun bg bh oY oZ cZ gv ⟨_,gw⟩=>?_
   have gx:(⟨bg,bh,5,1,((([]:Bs) ++ [by8 0,by8 0,by8 0,by8 0] ++ be 2 23 ++ be 2 (IntKind.i16.wrap v) ++ be 4 num) ++ (be 2 txt.size ++ sb txt)).length + 1,bc ((([]:Bs) ++ [by8 0,by8 0,by8 0,by8 0] ++ be 2 23 ++ be 2 (IntKind.i16.wrap v) ++ be 4 num) ++ (be 2 txt.size ++ sb txt)) ++ [.int .u8 0]⟩:Rw) = brow bg bh 5 ((([]:Bs) ++ [by8 0,by8 0,by8 0,by8 0] ++ be 2 23 ++ be 2 (IntKind.i16.wrap v) ++ be 4 num) ++ (be 2 txt.size ++ sb txt) ++ [by8 0]):=qa4 (by simp only [bc,List.map,qbH]; try rfl) rfl
   obtain ⟨bt,c5⟩:=gv.rowEq 1 [⟨some ⟨au,0,none⟩,1,96,1,1,[.iface 147 (.agg #[.func (.func 131) #[] #[.pointer (some ⟨ab,0,none⟩)]])]⟩,brow bg bh 5 ((([]:Bs) ++ [by8 0,by8 0,by8 0,by8 0] ++ be 2 23 ++ be 2 (IntKind.i16.wrap v) ++ be 4 num) ++ (be 2 txt.size ++ sb txt) ++ [by8 0])] gx
   have gy:=EnvOk.pick gw (ks:=[2,11,43,44,46]) (env':=[(2,.v (.iface 67 (.pointer (some ⟨ac,0,none⟩)))),(11,.v (.int .u8 0)),(43,.v (.slice aF (((([]:Bs) ++ [by8 0,by8 0,by8 0,by8 0] ++ be 2 23 ++ be 2 (IntKind.i16.wrap v) ++ be 4 num) ++ (be 2 txt.size ++ sb txt)).length) aG)),(44,.v (.int .u8 0)),(46,.v (.slice bg (((([]:Bs) ++ [by8 0,by8 0,by8 0,by8 0] ++ be 2 23 ++ be 2 (IntKind.i16.wrap v) ++ be 4 num) ++ (be 2 txt.size ++ sb txt)).length + 1) bh))]) kz
   have gz:=gy.cast (env':=[(2,.v (.iface 67 (.pointer (some ⟨ac,0,none⟩)))),(11,.v (.int .u8 0)),(43,.v (.slice aF (((([]:Bs) ++ [by8 0,by8 0,by8 0,by8 0] ++ be 2 23 ++ be 2 (IntKind.i16.wrap v) ++ be 4 num) ++ (be 2 txt.size ++ sb txt)).length) aG)),(44,.v (.int .u8 0)),(46,.v (.slice bg (((([]:Bs) ++ [by8 0,by8 0,by8 0,by8 0] ++ be 2 23 ++ be 2 (IntKind.i16.wrap v) ++ be 4 num) ++ (be 2 txt.size ++ sb txt) ++ [by8 0]).length) bh))]) (by simp only [List.length_append,List.length_cons,List.length_nil,Nat.zero_add])
   refine qaj [4] [] [(1,.v (.slice bg (((([]:Bs) ++ [by8 0,by8 0,by8 0,by8 0] ++ be 2 23 ++ be 2 (IntKind.i16.wrap v) ++ be 4 num) ++ (be 2 txt.size ++ sb txt) ++ [by8 0]).length) bh)),(2,.v (.iface 67 (.pointer (some ⟨ac,0,none⟩)))),(11,.v (.int .u8 0))] bt gz fun o5 gA=>?_
   refine qaf (qab ?_)
   refine qas [(1,.v (.slice bg (((([]:Bs) ++ [by8 0,by8 0,by8 0,by8 0] ++ be 2 23 ++ be 2 (IntKind.i16.wrap v) ++ be 4 num) ++ (be 2 txt.size ++ sb txt) ++ [by8 0]).length) bh)),(2,.v (.iface 67 (.pointer (some ⟨ac,0,none⟩)))),(48,.v (.bool false))] bt gA fun o6 da=>?_
   refine qat da (b:=false) kz rfl ?_
   refine wp_skip ?_
   refine qab ?_
   refine qae [0,1,2,3] kz ?_
   refine qaj [0,1] [2,3] [(49,.v (.iface 67 (.pointer (some ⟨ac,0,none⟩)))),(50,.v (.slice bg (((([]:Bs) ++ [by8 0,by8 0,by8 0,by8 0] ++ be 2 23 ++ be 2 (IntKind.i16.wrap v) ++ be 4 num) ++ (be 2 txt.size ++ sb txt) ++ [by8 0]).length) bh))] bt da fun o7 gB=>?_
   have gC:=(qaJ _ (((((((((((((((aP.trans aQ).trans bG).trans bI).trans bJ).trans bK).trans bL).trans bM).trans bN).trans bO).trans bQ).trans bS).trans bT).trans bU).trans cZ).trans c5).step immM (((((((((((((((aP.trans aQ).trans bG).trans bI).trans bJ).trans bK).trans bL).trans bM).trans bN).trans bO).trans bQ).trans bS).trans bT).trans bU).trans cZ).trans c5).to' cJ)
   have dU:=bt.strImm (G:=F) 1 rfl
   have hk_:=qaJ _ (Step.refl _ Nil) nilM (fun b o h_ _=>qf9 h_) gC
   refine qam (qcX gB (t := 67) (v := (.pointer (some ⟨ac, 0, none⟩))) (v' := (.pointer (some ⟨ac, 0, none⟩))) (name := "AppendTo") (f := 245) (vs := [.slice bg (((([] : Bs) ++ [by8 0, by8 0, by8 0, by8 0] ++ be 2 23 ++ be 2 (IntKind.i16.wrap v) ++ be 4 num) ++ (be 2 txt.size ++ sb txt) ++ [by8 0]).length) bh]) (d := 51) kz (fun _ => by kernel_rfl) Tryz.call245 (qbl (IntKind.i16.wrap v) aa ac 0 bg bh ((([] : Bs) ++ [by8 0, by8 0, by8 0, by8 0] ++ be 2 23 ++ be 2 (IntKind.i16.wrap v) ++ be 4 num) ++ (be 2 txt.size ++ sb txt) ++ [by8 0]) _ _ dU hk_ (qf7 1 rfl) (bt.own 1 _ rfl) (by first | omega | (simp only [List.length_append, List.length_cons, List.length_nil, be_length, qbN]; omega) | (simp; omega))) ?_)
   rintro e_ o9 ⟨ai,aj,rfl,gD,db,dc⟩
   refine ⟨_,rfl,fun pa gE=>?_⟩
   have de:WOk _ _ _ _ [⟨some ⟨au,0,none⟩,1,96,1,1,[.iface 147 (.agg #[.func (.func 131) #[] #[.pointer (some ⟨ab,0,none⟩)]])]⟩,brow ai aj 5 (((([]:Bs) ++ [by8 0,by8 0,by8 0,by8 0] ++ be 2 23 ++ be 2 (IntKind.i16.wrap v) ++ be 4 num) ++ (be 2 txt.size ++ sb txt) ++ [by8 0]) ++ qaa (IntKind.i16.wrap v) aa)]:=bt.grow (k:=1) rfl db gD dc
   have mr:=Fr.grow [⟨b1,0,[.bool has,.string txt],true⟩,⟨ac,0,[.int .i16 (IntKind.i16.wrap v),.int .i32 ((aa.f 0).n),.slice ((aa.f 1).A) ((aa.f 1).l) ((aa.f 1).c),.map aa.m],true⟩,⟨af,0,[.bool has,.string txt],true⟩,⟨ae,0,[.pointer none],true⟩,⟨ab,0,[.string txt],true⟩,⟨ag,0,[.pointer (some ⟨ab,0,none⟩)],true⟩,⟨ah,0,[.func (.func 131) #[] #[.pointer (some ⟨ab,0,none⟩)]],true⟩] (k:=1) (rs:=[⟨some ⟨au,0,none⟩,1,96,1,1,[.iface 147 (.agg #[.func (.func 131) #[] #[.pointer (some ⟨ab,0,none⟩)]])]⟩,brow bg bh 5 ((([]:Bs) ++ [by8 0,by8 0,by8 0,by8 0] ++ be 2 23 ++ be 2 (IntKind.i16.wrap v) ++ be 4 num) ++ (be 2 txt.size ++ sb txt) ++ [by8 0])]) (r':=(brow ai aj 5 (((([]:Bs) ++ [by8 0,by8 0,by8 0,by8 0] ++ be 2 23 ++ be 2 (IntKind.i16.wrap v) ++ be 4 num) ++ (be 2 txt.size ++ sb txt) ++ [by8 0]) ++ qaa (IntKind.i16.wrap v) aa))) rfl db dc
   refine qaj [3] [] [(1,.v (.slice ai ((((([]:Bs) ++ [by8 0,by8 0,by8 0,by8 0] ++ be 2 23 ++ be 2 (IntKind.i16.wrap v) ++ be 4 num) ++ (be 2 txt.size ++ sb txt) ++ [by8 0]) ++ qaa (IntKind.i16.wrap v) aa).length) aj))] de gE fun pb gF=>?_
   refine qaf (qab ?_)
   refine qbk 7 kz de fun pc mt bV bi=>?_
   refine qa5 [0,2] [(1,.v (.slice ai ((((([]:Bs) ++ [by8 0,by8 0,by8 0,by8 0] ++ be 2 23 ++ be 2 (IntKind.i16.wrap v) ++ be 4 num) ++ (be 2 txt.size ++ sb txt) ++ [by8 0]) ++ qaa (IntKind.i16.wrap v) aa).length) aj)),(52,.v (.slice ai ((((([]:Bs) ++ [by8 0,by8 0,by8 0,by8 0] ++ be 2 23 ++ be 2 (IntKind.i16.wrap v) ++ be 4 num) ++ (be 2 txt.size ++ sb txt) ++ [by8 0]) ++ qaa (IntKind.i16.wrap v) aa).length) aj)),(54,.v (.slice ai ((((([]:Bs) ++ [by8 0,by8 0,by8 0,by8 0] ++ be 2 23 ++ be 2 (IntKind.i16.wrap v) ++ be 4 num) ++ (be 2 txt.size ++ sb txt) ++ [by8 0]) ++ qaa (IntKind.i16.wrap v) aa).length) aj))] 5 (qac qai) (fun _ h=>h.cells) bi gF fun pd df=>?_
   refine qeC (i:=1) (j:=3) kz ?_ ?_
   ·
    refine (qbx df (t:=24) (A:=ai) (m:=(((([]:Bs) ++ [by8 0,by8 0,by8 0,by8 0] ++ be 2 23 ++ be 2 (IntKind.i16.wrap v) ++ be 4 num) ++ (be 2 txt.size ++ sb txt) ++ [by8 0]) ++ qaa (IntKind.i16.wrap v) aa).length) (cp:=aj) (q:=0) (d:=53) (j:=0) kz (e:=5) (size:=1) (bytes:=1) kz (rfl) (by omega) fun pe gG=>?_)
    refine ⟨fun _=>bi,?_⟩
    refine qaO (i:=3) kz (qby gG (t:=24) (A:=ai) (m:=((((([]:Bs) ++ [by8 0,by8 0,by8 0,by8 0] ++ be 2 23 ++ be 2 (IntKind.i16.wrap v) ++ be 4 num) ++ (be 2 txt.size ++ sb txt) ++ [by8 0]) ++ qaa (IntKind.i16.wrap v) aa).length)) (cp:=aj) (q:=4) (d:=55) (j:=4) kz (e:=5) (bytes:=1) kz (rfl) (by first | omega | (simp only [List.length_append,List.length_cons,List.length_nil]; omega)) fun pf gH=>?_)
    refine ⟨fun _=>bi,?_⟩
    refine qa5 [4,5] [(1,.v (.slice ai ((((([]:Bs) ++ [by8 0,by8 0,by8 0,by8 0] ++ be 2 23 ++ be 2 (IntKind.i16.wrap v) ++ be 4 num) ++ (be 2 txt.size ++ sb txt) ++ [by8 0]) ++ qaa (IntKind.i16.wrap v) aa).length) aj)),(53,.v (.slice ai 0 aj)),(57,.v (.int .i32 (IntKind.i32.wrap ((((((([]:Bs) ++ [by8 0,by8 0,by8 0,by8 0] ++ be 2 23 ++ be 2 (IntKind.i16.wrap v) ++ be 4 num) ++ (be 2 txt.size ++ sb txt) ++ [by8 0]) ++ qaa (IntKind.i16.wrap v) aa).length) - 4:Nat):Int))))] 1 (qac qai) (fun _ h=>h.cells) bi gH fun pg gI=>?_
    refine qaO (i:=6) kz (qal gI (f:=133) (vs:=[.slice ai 0 aj,.int .i32 (IntKind.i32.wrap ((((((([]:Bs) ++ [by8 0,by8 0,by8 0,by8 0] ++ be 2 23 ++ be 2 (IntKind.i16.wrap v) ++ be 4 num) ++ (be 2 txt.size ++ sb txt) ++ [by8 0]) ++ qaa (IntKind.i16.wrap v) aa).length) - 4:Nat):Int))]) (d:=58) kz Tryz.call133 (qbB (IntKind.i32.wrap ((((((([]:Bs) ++ [by8 0,by8 0,by8 0,by8 0] ++ be 2 23 ++ be 2 (IntKind.i16.wrap v) ++ be 4 num) ++ (be 2 txt.size ++ sb txt) ++ [by8 0]) ++ qaa (IntKind.i16.wrap v) aa).length) - 4:Nat):Int)) ai aj (((([]:Bs) ++ [by8 0,by8 0,by8 0,by8 0] ++ be 2 23 ++ be 2 (IntKind.i16.wrap v) ++ be 4 num) ++ (be 2 txt.size ++ sb txt) ++ [by8 0]) ++ qaa (IntKind.i16.wrap v) aa) _ (bV.own 1 _ rfl) (by simp only [List.length_append,List.length_cons,List.length_nil]; omega)) ?_)
    rintro e_ ph ⟨rfl,gJ,dg⟩
    refine ⟨_,rfl,fun pi gK=>?_⟩
    have aR:WOk _ _ _ _ [⟨some ⟨au,0,none⟩,1,96,1,1,[.iface 147 (.agg #[.func (.func 131) #[] #[.pointer (some ⟨ab,0,none⟩)]])]⟩,⟨ai,aj,5,1,(((([]:Bs) ++ [by8 0,by8 0,by8 0,by8 0] ++ be 2 23 ++ be 2 (IntKind.i16.wrap v) ++ be 4 num) ++ (be 2 txt.size ++ sb txt) ++ [by8 0]) ++ qaa (IntKind.i16.wrap v) aa).length,bc (be 4 (IntKind.i32.wrap ((((((([]:Bs) ++ [by8 0,by8 0,by8 0,by8 0] ++ be 2 23 ++ be 2 (IntKind.i16.wrap v) ++ be 4 num) ++ (be 2 txt.size ++ sb txt) ++ [by8 0]) ++ qaa (IntKind.i16.wrap v) aa).length) - 4:Nat):Int)) ++ (((([]:Bs) ++ [by8 0,by8 0,by8 0,by8 0] ++ be 2 23 ++ be 2 (IntKind.i16.wrap v) ++ be 4 num) ++ (be 2 txt.size ++ sb txt) ++ [by8 0]) ++ qaa (IntKind.i16.wrap v) aa).drop 4)⟩]:=bV.grow (k:=1) (r':=⟨ai,aj,5,1,(((([]:Bs) ++ [by8 0,by8 0,by8 0,by8 0] ++ be 2 23 ++ be 2 (IntKind.i16.wrap v) ++ be 4 num) ++ (be 2 txt.size ++ sb txt) ++ [by8 0]) ++ qaa (IntKind.i16.wrap v) aa).length,bc (be 4 (IntKind.i32.wrap ((((((([]:Bs) ++ [by8 0,by8 0,by8 0,by8 0] ++ be 2 23 ++ be 2 (IntKind.i16.wrap v) ++ be 4 num) ++ (be 2 txt.size ++ sb txt) ++ [by8 0]) ++ qaa (IntKind.i16.wrap v) aa).length) - 4:Nat):Int)) ++ (((([]:Bs) ++ [by8 0,by8 0,by8 0,by8 0] ++ be 2 23 ++ be 2 (IntKind.i16.wrap v) ++ be 4 num) ++ (be 2 txt.size ++ sb txt) ++ [by8 0]) ++ qaa (IntKind.i16.wrap v) aa).drop 4)⟩) rfl dg gJ (fun g' hg'=>.inl hg')
    have gL:=Fr.grow [⟨b1,0,[.bool has,.string txt],true⟩,⟨ac,0,[.int .i16 (IntKind.i16.wrap v),.int .i32 ((aa.f 0).n),.slice ((aa.f 1).A) ((aa.f 1).l) ((aa.f 1).c),.map aa.m],true⟩,⟨af,0,[.bool has,.string txt],true⟩,⟨ae,0,[.pointer none],true⟩,⟨ab,0,[.string txt],true⟩,⟨ag,0,[.pointer (some ⟨ab,0,none⟩)],true⟩,⟨ah,0,[.func (.func 131) #[] #[.pointer (some ⟨ab,0,none⟩)]],true⟩] (k:=1) (rs:=[⟨some ⟨au,0,none⟩,1,96,1,1,[.iface 147 (.agg #[.func (.func 131) #[] #[.pointer (some ⟨ab,0,none⟩)]])]⟩,brow ai aj 5 (((([]:Bs) ++ [by8 0,by8 0,by8 0,by8 0] ++ be 2 23 ++ be 2 (IntKind.i16.wrap v) ++ be 4 num) ++ (be 2 txt.size ++ sb txt) ++ [by8 0]) ++ qaa (IntKind.i16.wrap v) aa)]) (r':=⟨ai,aj,5,1,(((([]:Bs) ++ [by8 0,by8 0,by8 0,by8 0] ++ be 2 23 ++ be 2 (IntKind.i16.wrap v) ++ be 4 num) ++ (be 2 txt.size ++ sb txt) ++ [by8 0]) ++ qaa (IntKind.i16.wrap v) aa).length,bc (be 4 (IntKind.i32.wrap ((((((([]:Bs) ++ [by8 0,by8 0,by8 0,by8 0] ++ be 2 23 ++ be 2 (IntKind.i16.wrap v) ++ be 4 num) ++ (be 2 txt.size ++ sb txt) ++ [by8 0]) ++ qaa (IntKind.i16.wrap v) aa).length) - 4:Nat):Int)) ++ (((([]:Bs) ++ [by8 0,by8 0,by8 0,by8 0] ++ be 2 23 ++ be 2 (IntKind.i16.wrap v) ++ be 4 num) ++ (be 2 txt.size ++ sb txt) ++ [by8 0]) ++ qaa (IntKind.i16.wrap v) aa).drop 4)⟩) rfl dg (fun g' hg'=>.inl hg')
    have gM:=TT.ofW gL aR
    refine ⟨fun _=>gM,?_⟩
    refine qaZ kz ?_ _
    refine qab ?_
    refine qas [(8,.v (.slice ai ((((([]:Bs) ++ [by8 0,by8 0,by8 0,by8 0] ++ be 2 23 ++ be 2 (IntKind.i16.wrap v) ++ be 4 num) ++ (be 2 txt.size ++ sb txt) ++ [by8 0]) ++ qaa (IntKind.i16.wrap v) aa).length) aj))] aR gK fun pj gN=>?_
    refine wp_ret ?_
    refine qaE gN aR.cells (v:=.slice ai ((((([]:Bs) ++ [by8 0,by8 0,by8 0,by8 0] ++ be 2 23 ++ be 2 (IntKind.i16.wrap v) ++ be 4 num) ++ (be 2 txt.size ++ sb txt) ++ [by8 0]) ++ qaa (IntKind.i16.wrap v) aa).length) aj) kz ?_
    refine ⟨_,rfl,fun pl gO=>?_⟩
    have gP:=(EnvOk.places (tb':=[⟨b1,0,[.bool has,.string txt],true⟩,⟨ac,0,[.int .i16 (IntKind.i16.wrap v),.int .i32 ((aa.f 0).n),.slice ((aa.f 1).A) ((aa.f 1).l) ((aa.f 1).c),.map aa.m],true⟩,⟨af,0,[.bool has,.string txt],true⟩,⟨ae,0,[.pointer none],true⟩,⟨ab,0,[.string txt],true⟩,⟨ag,0,[.pointer (some ⟨ab,0,none⟩)],true⟩,⟨ah,0,[.func (.func 131) #[] #[.pointer (some ⟨ab,0,none⟩)]],true⟩]) gO (show Pl [⟨b1,0,[.bool has,.string txt],true⟩,⟨ac,0,[.int .i16 (IntKind.i16.wrap v),.int .i32 ((aa.f 0).n),.slice ((aa.f 1).A) ((aa.f 1).l) ((aa.f 1).c),.map aa.m],true⟩,⟨af,0,[.bool has,.string txt],true⟩,⟨ae,0,[.pointer none],true⟩,⟨ab,0,[.string txt],true⟩,⟨ag,0,[.pointer (some ⟨ab,0,none⟩)],true⟩,⟨ah,0,[.func (.func 131) #[] #[.pointer (some ⟨ab,0,none⟩)]],true⟩] [⟨b1,0,[.bool has,.string txt],true⟩,⟨ac,0,[.int .i16 (IntKind.i16.wrap v),.int .i32 ((aa.f 0).n),.slice ((aa.f 1).A) ((aa.f 1).l) ((aa.f 1).c),.map aa.m],true⟩,⟨af,0,[.bool has,.string txt],true⟩,⟨ae,0,[.pointer none],true⟩,⟨ab,0,[.string txt],true⟩,⟨ag,0,[.pointer (some ⟨ab,0,none⟩)],true⟩,⟨ah,0,[.func (.func 131) #[] #[.pointer (some ⟨ab,0,none⟩)]],true⟩] from ⟨rfl,rfl,⟨rfl,rfl,⟨rfl,rfl,⟨rfl,rfl,⟨rfl,rfl,⟨rfl,rfl,⟨rfl,rfl,trivial⟩⟩⟩⟩⟩⟩⟩)).pk (env':=[(19,.v (.slice ai ((((([]:Bs) ++ [by8 0,by8 0,by8 0,by8 0] ++ be 2 23 ++ be 2 (IntKind.i16.wrap v) ++ be 4 num) ++ (be 2 txt.size ++ sb txt) ++ [by8 0]) ++ qaa (IntKind.i16.wrap v) aa).length) aj)),(16,.p 5 0),(17,.v (.iface 67 (.pointer (some ⟨ac,0,none⟩)))),(18,.v (.int .i32 num))])
    refine qaj [4] [] [(6,.v (.slice ai ((((([]:Bs) ++ [by8 0,by8 0,by8 0,by8 0] ++ be 2 23 ++ be 2 (IntKind.i16.wrap v) ++ be 4 num) ++ (be 2 txt.size ++ sb txt) ++ [by8 0]) ++ qaa (IntKind.i16.wrap v) aa).length) aj))] aR gP fun pm gQ=>?_
    refine qaf (qab ?_)
    refine wp_ret ?_
    refine qaE gQ aR.cells (v:=.slice ai ((((([]:Bs) ++ [by8 0,by8 0,by8 0,by8 0] ++ be 2 23 ++ be 2 (IntKind.i16.wrap v) ++ be 4 num) ++ (be 2 txt.size ++ sb txt) ++ [by8 0]) ++ qaa (IntKind.i16.wrap v) aa).length) aj) kz ?_
    refine ⟨_,rfl,fun pn gR=>?_⟩
    have gS:=(EnvOk.places (tb':=[⟨b1,0,[.bool has,.string txt],true⟩,⟨ac,0,[.int .i16 (IntKind.i16.wrap v),.int .i32 ((aa.f 0).n),.slice ((aa.f 1).A) ((aa.f 1).l) ((aa.f 1).c),.map aa.m],true⟩,⟨af,0,[.bool has,.string txt],true⟩,⟨ae,0,[.pointer none],true⟩,⟨ab,0,[.string txt],true⟩,⟨ag,0,[.pointer (some ⟨ab,0,none⟩)],true⟩,⟨ah,0,[.func (.func 131) #[] #[.pointer (some ⟨ab,0,none⟩)]],true⟩]) gR (show Pl [⟨b1,0,[.bool has,.string txt],true⟩,⟨ac,0,[.int .i16 (IntKind.i16.wrap v),.int .i32 ((aa.f 0).n),.slice ((aa.f 1).A) ((aa.f 1).l) ((aa.f 1).c),.map aa.m],true⟩] [⟨b1,0,[.bool has,.string txt],true⟩,⟨ac,0,[.int .i16 (IntKind.i16.wrap v),.int .i32 ((aa.f 0).n),.slice ((aa.f 1).A) ((aa.f 1).l) ((aa.f 1).c),.map aa.m],true⟩,⟨af,0,[.bool has,.string txt],true⟩,⟨ae,0,[.pointer none],true⟩,⟨ab,0,[.string txt],true⟩,⟨ag,0,[.pointer (some ⟨ab,0,none⟩)],true⟩,⟨ah,0,[.func (.func 131) #[] #[.pointer (some ⟨ab,0,none⟩)]],true⟩] from ⟨rfl,rfl,⟨rfl,rfl,trivial⟩⟩)).pk (env':=[(25,.v (.slice ai ((((([]:Bs) ++ [by8 0,by8 0,by8 0,by8 0] ++ be 2 23 ++ be 2 (IntKind.i16.wrap v) ++ be 4 num) ++ (be 2 txt.size ++ sb txt) ++ [by8 0]) ++ qaa (IntKind.i16.wrap v) aa).length) aj)),(21,.v (.agg #[.bool has,.string txt])),(23,.v (.iface 67 (.pointer (some ⟨ac,0,none⟩)))),(24,.v (.int .i32 num))])
    refine qaj [5,6] [] [(8,.v (.slice ai ((((([]:Bs) ++ [by8 0,by8 0,by8 0,by8 0] ++ be 2 23 ++ be 2 (IntKind.i16.wrap v) ++ be 4 num) ++ (be 2 txt.size ++ sb txt) ++ [by8 0]) ++ qaa (IntKind.i16.wrap v) aa).length) aj)),(9,.v (.bool true))] aR gS fun po gT=>?_
    refine qaf (qab ?_)
    refine wp_ret ?_
    refine qaE gT aR.cells (v:=.tuple #[.slice ai ((((([]:Bs) ++ [by8 0,by8 0,by8 0,by8 0] ++ be 2 23 ++ be 2 (IntKind.i16.wrap v) ++ be 4 num) ++ (be 2 txt.size ++ sb txt) ++ [by8 0]) ++ qaa (IntKind.i16.wrap v) aa).length) aj,.bool true]) kz ?_
    have gU:be 4 (IntKind.i32.wrap ((((((([]:Bs) ++ [by8 0,by8 0,by8 0,by8 0] ++ be 2 23 ++ be 2 (IntKind.i16.wrap v) ++ be 4 num) ++ (be 2 txt.size ++ sb txt) ++ [by8 0]) ++ qaa (IntKind.i16.wrap v) aa).length) - 4:Nat):Int)) ++ (((([]:Bs) ++ [by8 0,by8 0,by8 0,by8 0] ++ be 2 23 ++ be 2 (IntKind.i16.wrap v) ++ be 4 num) ++ (be 2 txt.size ++ sb txt) ++ [by8 0]) ++ qaa (IntKind.i16.wrap v) aa).drop 4 = (qa7 23 (IntKind.i16.wrap v) num has (sb txt) (decide ((IntKind.i16.wrap v) ≥ 4)) (qaa (IntKind.i16.wrap v) aa)):=qcF (R:=outB 23 (IntKind.i16.wrap v) num has (sb txt) (decide ((IntKind.i16.wrap v) ≥ 4)) (qaa (IntKind.i16.wrap v) aa)) (by simp [outB,qdX,qbN,aJ,bf])
    exact qcG aR (k:=1) rfl (gU.trans (by rw [ba])) (by simp only [List.length_append,List.length_cons,List.length_nil]; omega)
   refine (qby df (t:=24) (A:=ai) (m:=((((([]:Bs) ++ [by8 0,by8 0,by8 0,by8 0] ++ be 2 23 ++ be 2 (IntKind.i16.wrap v) ++ be 4 num) ++ (be 2 txt.size ++ sb txt) ++ [by8 0]) ++ qaa (IntKind.i16.wrap v) aa).length)) (cp:=aj) (q:=4) (d:=55) (j:=4) kz (e:=5) (bytes:=1) kz (rfl) (by first | omega | (simp only [List.length_append,List.length_cons,List.length_nil]; omega)) fun pp gV=>?_)
   refine ⟨fun _=>bi,?_⟩
   refine qa5 [4,5] [(1,.v (.slice ai ((((([]:Bs) ++ [by8 0,by8 0,by8 0,by8 0] ++ be 2 23 ++ be 2 (IntKind.i16.wrap v) ++ be 4 num) ++ (be 2 txt.size ++ sb txt) ++ [by8 0]) ++ qaa (IntKind.i16.wrap v) aa).length) aj)),(52,.v (.slice ai ((((([]:Bs) ++ [by8 0,by8 0,by8 0,by8 0] ++ be 2 23 ++ be 2 (IntKind.i16.wrap v) ++ be 4 num) ++ (be 2 txt.size ++ sb txt) ++ [by8 0]) ++ qaa (IntKind.i16.wrap v) aa).length) aj)),(57,.v (.int .i32 (IntKind.i32.wrap ((((((([]:Bs) ++ [by8 0,by8 0,by8 0,by8 0] ++ be 2 23 ++ be 2 (IntKind.i16.wrap v) ++ be 4 num) ++ (be 2 txt.size ++ sb txt) ++ [by8 0]) ++ qaa (IntKind.i16.wrap v) aa).length) - 4:Nat):Int))))] 2 (qac qai) (fun _ h=>h.cells) bi gV fun pq gW=>?_
   refine qaO (i:=1) kz (qbx gW (t:=24) (A:=ai) (m:=(((([]:Bs) ++ [by8 0,by8 0,by8 0,by8 0] ++ be 2 23 ++ be 2 (IntKind.i16.wrap v) ++ be 4 num) ++ (be 2 txt.size ++ sb txt) ++ [by8 0]) ++ qaa (IntKind.i16.wrap v) aa).length) (cp:=aj) (q:=0) (d:=53) (j:=0) kz (e:=5) (size:=1) (bytes:=1) kz (rfl) (by omega) fun pr gX=>?_)
   refine ⟨fun _=>bi,?_⟩
   refine qaO (i:=6) kz (qal gX (f:=133) (vs:=[.slice ai 0 aj,.int .i32 (IntKind.i32.wrap ((((((([]:Bs) ++ [by8 0,by8 0,by8 0,by8 0] ++ be 2 23 ++ be 2 (IntKind.i16.wrap v) ++ be 4 num) ++ (be 2 txt.size ++ sb txt) ++ [by8 0]) ++ qaa (IntKind.i16.wrap v) aa).length) - 4:Nat):Int))]) (d:=58) kz Tryz.call133 (qbB (IntKind.i32.wrap ((((((([]:Bs) ++ [by8 0,by8 0,by8 0,by8 0] ++ be 2 23 ++ be 2 (IntKind.i16.wrap v) ++ be 4 num) ++ (be 2 txt.size ++ sb txt) ++ [by8 0]) ++ qaa (IntKind.i16.wrap v) aa).length) - 4:Nat):Int)) ai aj (((([]:Bs) ++ [by8 0,by8 0,by8 0,by8 0] ++ be 2 23 ++ be 2 (IntKind.i16.wrap v) ++ be 4 num) ++ (be 2 txt.size ++ sb txt) ++ [by8 0]) ++ qaa (IntKind.i16.wrap v) aa) _ (bV.own 1 _ rfl) (by simp only [List.length_append,List.length_cons,List.length_nil]; omega)) ?_)
   rintro e_ pt ⟨rfl,gY,dh⟩
   refine ⟨_,rfl,fun pu gZ=>?_⟩
   have aS:WOk _ _ _ _ [⟨some ⟨au,0,none⟩,1,96,1,1,[.iface 147 (.agg #[.func (.func 131) #[] #[.pointer (some ⟨ab,0,none⟩)]])]⟩,⟨ai,aj,5,1,(((([]:Bs) ++ [by8 0,by8 0,by8 0,by8 0] ++ be 2 23 ++ be 2 (IntKind.i16.wrap v) ++ be 4 num) ++ (be 2 txt.size ++ sb txt) ++ [by8 0]) ++ qaa (IntKind.i16.wrap v) aa).length,bc (be 4 (IntKind.i32.wrap ((((((([]:Bs) ++ [by8 0,by8 0,by8 0,by8 0] ++ be 2 23 ++ be 2 (IntKind.i16.wrap v) ++ be 4 num) ++ (be 2 txt.size ++ sb txt) ++ [by8 0]) ++ qaa (IntKind.i16.wrap v) aa).length) - 4:Nat):Int)) ++ (((([]:Bs) ++ [by8 0,by8 0,by8 0,by8 0] ++ be 2 23 ++ be 2 (IntKind.i16.wrap v) ++ be 4 num) ++ (be 2 txt.size ++ sb txt) ++ [by8 0]) ++ qaa (IntKind.i16.wrap v) aa).drop 4)⟩]:=bV.grow (k:=1) (r':=⟨ai,aj,5,1,(((([]:Bs) ++ [by8 0,by8 0,by8 0,by8 0] ++ be 2 23 ++ be 2 (IntKind.i16.wrap v) ++ be 4 num) ++ (be 2 txt.size ++ sb txt) ++ [by8 0]) ++ qaa (IntKind.i16.wrap v) aa).length,bc (be 4 (IntKind.i32.wrap ((((((([]:Bs) ++ [by8 0,by8 0,by8 0,by8 0] ++ be 2 23 ++ be 2 (IntKind.i16.wrap v) ++ be 4 num) ++ (be 2 txt.size ++ sb txt) ++ [by8 0]) ++ qaa (IntKind.i16.wrap v) aa).length) - 4:Nat):Int)) ++ (((([]:Bs) ++ [by8 0,by8 0,by8 0,by8 0] ++ be 2 23 ++ be 2 (IntKind.i16.wrap v) ++ be 4 num) ++ (be 2 txt.size ++ sb txt) ++ [by8 0]) ++ qaa (IntKind.i16.wrap v) aa).drop 4)⟩) rfl dh gY (fun g' hg'=>.inl hg')
   have g6:=Fr.grow [⟨b1,0,[.bool has,.string txt],true⟩,⟨ac,0,[.int .i16 (IntKind.i16.wrap v),.int .i32 ((aa.f 0).n),.slice ((aa.f 1).A) ((aa.f 1).l) ((aa.f 1).c),.map aa.m],true⟩,⟨af,0,[.bool has,.string txt],true⟩,⟨ae,0,[.pointer none],true⟩,⟨ab,0,[.string txt],true⟩,⟨ag,0,[.pointer (some ⟨ab,0,none⟩)],true⟩,⟨ah,0,[.func (.func 131) #[] #[.pointer (some ⟨ab,0,none⟩)]],true⟩] (k:=1) (rs:=[⟨some ⟨au,0,none⟩,1,96,1,1,[.iface 147 (.agg #[.func (.func 131) #[] #[.pointer (some ⟨ab,0,none⟩)]])]⟩,brow ai aj 5 (((([]:Bs) ++ [by8 0,by8 0,by8 0,by8 0] ++ be 2 23 ++ be 2 (IntKind.i16.wrap v) ++ be 4 num) ++ (be 2 txt.size ++ sb txt) ++ [by8 0]) ++ qaa (IntKind.i16.wrap v) aa)]) (r':=⟨ai,aj,5,1,(((([]:Bs) ++ [by8 0,by8 0,by8 0,by8 0] ++ be 2 23 ++ be 2 (IntKind.i16.wrap v) ++ be 4 num) ++ (be 2 txt.size ++ sb txt) ++ [by8 0]) ++ qaa (IntKind.i16.wrap v) aa).length,bc (be 4 (IntKind.i32.wrap ((((((([]:Bs) ++ [by8 0,by8 0,by8 0,by8 0] ++ be 2 23 ++ be 2 (IntKind.i16.wrap v) ++ be 4 num) ++ (be 2 txt.size ++ sb txt) ++ [by8 0]) ++ qaa (IntKind.i16.wrap v) aa).length) - 4:Nat):Int)) ++ (((([]:Bs) ++ [by8 0,by8 0,by8 0,by8 0] ++ be 2 23 ++ be 2 (IntKind.i16.wrap v) ++ be 4 num) ++ (be 2 txt.size ++ sb txt) ++ [by8 0]) ++ qaa (IntKind.i16.wrap v) aa).drop 4)⟩) rfl dh (fun g' hg'=>.inl hg')
   have g7:=TT.ofW g6 aS
   refine ⟨fun _=>g7,?_⟩
   refine qaZ kz ?_ _
   refine qab ?_
   refine qas [(8,.v (.slice ai ((((([]:Bs) ++ [by8 0,by8 0,by8 0,by8 0] ++ be 2 23 ++ be 2 (IntKind.i16.wrap v) ++ be 4 num) ++ (be 2 txt.size ++ sb txt) ++ [by8 0]) ++ qaa (IntKind.i16.wrap v) aa).length) aj))] aS gZ fun pv g8=>?_
   refine wp_ret ?_
   refine qaE g8 aS.cells (v:=.slice ai ((((([]:Bs) ++ [by8 0,by8 0,by8 0,by8 0] ++ be 2 23 ++ be 2 (IntKind.i16.wrap v) ++ be 4 num) ++ (be 2 txt.size ++ sb txt) ++ [by8 0]) ++ qaa (IntKind.i16.wrap v) aa).length) aj) kz ?_
   refine ⟨_,rfl,fun pw g9=>?_⟩
   have hC:=(EnvOk.places (tb':=[⟨b1,0,[.bool has,.string txt],true⟩,⟨ac,0,[.int .i16 (IntKind.i16.wrap v),.int .i32 ((aa.f 0).n),.slice ((aa.f 1).A) ((aa.f 1).l) ((aa.f 1).c),.map aa.m],true⟩,⟨af,0,[.bool has,.string txt],true⟩,⟨ae,0,[.pointer none],true⟩,⟨ab,0,[.string txt],true⟩,⟨ag,0,[.pointer (some ⟨ab,0,none⟩)],true⟩,⟨ah,0,[.func (.func 131) #[] #[.pointer (some ⟨ab,0,none⟩)]],true⟩]) g9 (show Pl [⟨b1,0,[.bool has,.string txt],true⟩,⟨ac,0,[.int .i16 (IntKind.i16.wrap v),.int .i32 ((aa.f 0).n),.slice ((aa.f 1).A) ((aa.f 1).l) ((aa.f 1).c),.map aa.m],true⟩,⟨af,0,[.bool has,.string txt],true⟩,⟨ae,0,[.pointer none],true⟩,⟨ab,0,[.string txt],true⟩,⟨ag,0,[.pointer (some ⟨ab,0,none⟩)],true⟩,⟨ah,0,[.func (.func 131) #[] #[.pointer (some ⟨ab,0,none⟩)]],true⟩] [⟨b1,0,[.bool has,.string txt],true⟩,⟨ac,0,[.int .i16 (IntKind.i16.wrap v),.int .i32 ((aa.f 0).n),.slice ((aa.f 1).A) ((aa.f 1).l) ((aa.f 1).c),.map aa.m],true⟩,⟨af,0,[.bool has,.string txt],true⟩,⟨ae,0,[.pointer none],true⟩,⟨ab,0,[.string txt],true⟩,⟨ag,0,[.pointer (some ⟨ab,0,none⟩)],true⟩,⟨ah,0,[.func (.func 131) #[] #[.pointer (some ⟨ab,0,none⟩)]],true⟩] from ⟨rfl,rfl,⟨rfl,rfl,⟨rfl,rfl,⟨rfl,rfl,⟨rfl,rfl,⟨rfl,rfl,⟨rfl,rfl,trivial⟩⟩⟩⟩⟩⟩⟩)).pk (env':=[(19,.v (.slice ai ((((([]:Bs) ++ [by8 0,by8 0,by8 0,by8 0] ++ be 2 23 ++ be 2 (IntKind.i16.wrap v) ++ be 4 num) ++ (be 2 txt.size ++ sb txt) ++ [by8 0]) ++ qaa (IntKind.i16.wrap v) aa).length) aj)),(16,.p 5 0),(17,.v (.iface 67 (.pointer (some ⟨ac,0,none⟩)))),(18,.v (.int .i32 num))])
   refine qaj [4] [] [(6,.v (.slice ai ((((([]:Bs) ++ [by8 0,by8 0,by8 0,by8 0] ++ be 2 23 ++ be 2 (IntKind.i16.wrap v) ++ be 4 num) ++ (be 2 txt.size ++ sb txt) ++ [by8 0]) ++ qaa (IntKind.i16.wrap v) aa).length) aj))] aS hC fun px hJ=>?_
   refine qaf (qab ?_)
   refine wp_ret ?_
   refine qaE hJ aS.cells (v:=.slice ai ((((([]:Bs) ++ [by8 0,by8 0,by8 0,by8 0] ++ be 2 23 ++ be 2 (IntKind.i16.wrap v) ++ be 4 num) ++ (be 2 txt.size ++ sb txt) ++ [by8 0]) ++ qaa (IntKind.i16.wrap v) aa).length) aj) kz ?_
   refine ⟨_,rfl,fun pz hK=>?_⟩
   have hZ:=(EnvOk.places (tb':=[⟨b1,0,[.bool has,.string txt],true⟩,⟨ac,0,[.int .i16 (IntKind.i16.wrap v),.int .i32 ((aa.f 0).n),.slice ((aa.f 1).A) ((aa.f 1).l) ((aa.f 1).c),.map aa.m],true⟩,⟨af,0,[.bool has,.string txt],true⟩,⟨ae,0,[.pointer none],true⟩,⟨ab,0,[.string txt],true⟩,⟨ag,0,[.pointer (some ⟨ab,0,none⟩)],true⟩,⟨ah,0,[.func (.func 131) #[] #[.pointer (some ⟨ab,0,none⟩)]],true⟩]) hK (show Pl [⟨b1,0,[.bool has,.string txt],true⟩,⟨ac,0,[.int .i16 (IntKind.i16.wrap v),.int .i32 ((aa.f 0).n),.slice ((aa.f 1).A) ((aa.f 1).l) ((aa.f 1).c),.map aa.m],true⟩] [⟨b1,0,[.bool has,.string txt],true⟩,⟨ac,0,[.int .i16 (IntKind.i16.wrap v),.int .i32 ((aa.f 0).n),.slice ((aa.f 1).A) ((aa.f 1).l) ((aa.f 1).c),.map aa.m],true⟩,⟨af,0,[.bool has,.string txt],true⟩,⟨ae,0,[.pointer none],true⟩,⟨ab,0,[.string txt],true⟩,⟨ag,0,[.pointer (some ⟨ab,0,none⟩)],true⟩,⟨ah,0,[.func (.func 131) #[] #[.pointer (some ⟨ab,0,none⟩)]],true⟩] from ⟨rfl,rfl,⟨rfl,rfl,trivial⟩⟩)).pk (env':=[(25,.v (.slice ai ((((([]:Bs) ++ [by8 0,by8 0,by8 0,by8 0] ++ be 2 23 ++ be 2 (IntKind.i16.wrap v) ++ be 4 num) ++ (be 2 txt.size ++ sb txt) ++ [by8 0]) ++ qaa (IntKind.i16.wrap v) aa).length) aj)),(21,.v (.agg #[.bool has,.string txt])),(23,.v (.iface 67 (.pointer (some ⟨ac,0,none⟩)))),(24,.v (.int .i32 num))])
   refine qaj [5,6] [] [(8,.v (.slice ai ((((([]:Bs) ++ [by8 0,by8 0,by8 0,by8 0] ++ be 2 23 ++ be 2 (IntKind.i16.wrap v) ++ be 4 num) ++ (be 2 txt.size ++ sb txt) ++ [by8 0]) ++ qaa (IntKind.i16.wrap v) aa).length) aj)),(9,.v (.bool true))] aS hZ fun pA ia=>?_
   refine qaf (qab ?_)
   refine wp_ret ?_
   refine qaE ia aS.cells (v:=.tuple #[.slice ai ((((([]:Bs) ++ [by8 0,by8 0,by8 0,by8 0] ++ be 2 23 ++ be 2 (IntKind.i16.wrap v) ++ be 4 num) ++ (be 2 txt.size ++ sb txt) ++ [by8 0]) ++ qaa (IntKind.i16.wrap v) aa).length) aj,.bool true]) kz ?_
   have ib:be 4 (IntKind.i32.wrap ((((((([]:Bs) ++ [by8 0,by8 0,by8 0,by8 0] ++ be 2 23 ++ be 2 (IntKind.i16.wrap v) ++ be 4 num) ++ (be 2 txt.size ++ sb txt) ++ [by8 0]) ++ qaa (IntKind.i16.wrap v) aa).length) - 4:Nat):Int)) ++ (((([]:Bs) ++ [by8 0,by8 0,by8 0,by8 0] ++ be 2 23 ++ be 2 (IntKind.i16.wrap v) ++ be 4 num) ++ (be 2 txt.size ++ sb txt) ++ [by8 0]) ++ qaa (IntKind.i16.wrap v) aa).drop 4 = (qa7 23 (IntKind.i16.wrap v) num has (sb txt) (decide ((IntKind.i16.wrap v) ≥ 4)) (qaa (IntKind.i16.wrap v) aa)):=qcF (R:=outB 23 (IntKind.i16.wrap v) num has (sb txt) (decide ((IntKind.i16.wrap v) ≥ 4)) (qaa (IntKind.i16.wrap v) aa)) (by simp [outB,qdX,qbN,aJ,bf])
   exact qcG aS (k:=1) rfl (ib.trans (by rw [ba])) (by simp only [List.length_append,List.length_cons,List.length_nil]; omega)
  have mu:=of_decide_eq_false bf
  refine wp_skip ?_
  refine qab ?_
  refine qae [0,1,2,3] kz ?_
  refine qaj [0,1] [2,3] [(49,.v (.iface 67 (.pointer (some ⟨ac,0,none⟩)))),(50,.v (.slice aF (((([]:Bs) ++ [by8 0,by8 0,by8 0,by8 0] ++ be 2 23 ++ be 2 (IntKind.i16.wrap v) ++ be 4 num) ++ (be 2 txt.size ++ sb txt)).length) aG))] ax cE fun pB ic=>?_
  have ig:=(qaJ _ (((((((((((((aP.trans aQ).trans bG).trans bI).trans bJ).trans bK).trans bL).trans bM).trans bN).trans bO).trans bQ).trans bS).trans bT).trans bU).step immM (((((((((((((aP.trans aQ).trans bG).trans bI).trans bJ).trans bK).trans bL).trans bM).trans bN).trans bO).trans bQ).trans bS).trans bT).trans bU).to' cJ)
  have dV:=ax.strImm (G:=F) 1 rfl
  have hk_:=qaJ _ (Step.refl _ Nil) nilM (fun b o h_ _=>qf9 h_) ig
  refine qam (qcX ic (t := 67) (v := (.pointer (some ⟨ac, 0, none⟩))) (v' := (.pointer (some ⟨ac, 0, none⟩))) (name := "AppendTo") (f := 245) (vs := [.slice aF (((([] : Bs) ++ [by8 0, by8 0, by8 0, by8 0] ++ be 2 23 ++ be 2 (IntKind.i16.wrap v) ++ be 4 num) ++ (be 2 txt.size ++ sb txt)).length) aG]) (d := 51) kz (fun _ => by kernel_rfl) Tryz.call245 (qbl (IntKind.i16.wrap v) aa ac 0 aF aG ((([] : Bs) ++ [by8 0, by8 0, by8 0, by8 0] ++ be 2 23 ++ be 2 (IntKind.i16.wrap v) ++ be 4 num) ++ (be 2 txt.size ++ sb txt)) _ _ dV hk_ (qf7 1 rfl) (ax.own 1 _ rfl) (by first | omega | (simp only [List.length_append, List.length_cons, List.length_nil, be_length, qbN]; omega) | (simp; omega))) ?_)
  rintro e_ pC ⟨ak,al,rfl,ii,di,dj⟩
  refine ⟨_,rfl,fun pD ij=>?_⟩
  have dl:WOk _ _ _ _ [⟨some ⟨au,0,none⟩,1,96,1,1,[.iface 147 (.agg #[.func (.func 131) #[] #[.pointer (some ⟨ab,0,none⟩)]])]⟩,brow ak al 5 (((([]:Bs) ++ [by8 0,by8 0,by8 0,by8 0] ++ be 2 23 ++ be 2 (IntKind.i16.wrap v) ++ be 4 num) ++ (be 2 txt.size ++ sb txt)) ++ qaa (IntKind.i16.wrap v) aa)]:=ax.grow (k:=1) rfl di ii dj
  have mw:=Fr.grow [⟨b1,0,[.bool has,.string txt],true⟩,⟨ac,0,[.int .i16 (IntKind.i16.wrap v),.int .i32 ((aa.f 0).n),.slice ((aa.f 1).A) ((aa.f 1).l) ((aa.f 1).c),.map aa.m],true⟩,⟨af,0,[.bool has,.string txt],true⟩,⟨ae,0,[.pointer none],true⟩,⟨ab,0,[.string txt],true⟩,⟨ag,0,[.pointer (some ⟨ab,0,none⟩)],true⟩,⟨ah,0,[.func (.func 131) #[] #[.pointer (some ⟨ab,0,none⟩)]],true⟩] (k:=1) (rs:=[⟨some ⟨au,0,none⟩,1,96,1,1,[.iface 147 (.agg #[.func (.func 131) #[] #[.pointer (some ⟨ab,0,none⟩)]])]⟩,brow aF aG 5 ((([]:Bs) ++ [by8 0,by8 0,by8 0,by8 0] ++ be 2 23 ++ be 2 (IntKind.i16.wrap v) ++ be 4 num) ++ (be 2 txt.size ++ sb txt))]) (r':=(brow ak al 5 (((([]:Bs) ++ [by8 0,by8 0,by8 0,by8 0] ++ be 2 23 ++ be 2 (IntKind.i16.wrap v) ++ be 4 num) ++ (be 2 txt.size ++ sb txt)) ++ qaa (IntKind.i16.wrap v) aa))) rfl di dj
  refine qaj [3] [] [(1,.v (.slice ak ((((([]:Bs) ++ [by8 0,by8 0,by8 0,by8 0] ++ be 2 23 ++ be 2 (IntKind.i16.wrap v) ++ be 4 num) ++ (be 2 txt.size ++ sb txt)) ++ qaa (IntKind.i16.wrap v) aa).length) al))] dl ij fun pE ik=>?_
  refine qaf (qab ?_)
  refine qbk 7 kz dl fun pF mx bW bj=>?_
  refine qa5 [0,2] [(1,.v (.slice ak ((((([]:Bs) ++ [by8 0,by8 0,by8 0,by8 0] ++ be 2 23 ++ be 2 (IntKind.i16.wrap v) ++ be 4 num) ++ (be 2 txt.size ++ sb txt)) ++ qaa (IntKind.i16.wrap v) aa).length) al)),(52,.v (.slice ak ((((([]:Bs) ++ [by8 0,by8 0,by8 0,by8 0] ++ be 2 23 ++ be 2 (IntKind.i16.wrap v) ++ be 4 num) ++ (be 2 txt.size ++ sb txt)) ++ qaa (IntKind.i16.wrap v) aa).length) al)),(54,.v (.slice ak ((((([]:Bs) ++ [by8 0,by8 0,by8 0,by8 0] ++ be 2 23 ++ be 2 (IntKind.i16.wrap v) ++ be 4 num) ++ (be 2 txt.size ++ sb txt)) ++ qaa (IntKind.i16.wrap v) aa).length) al))] 5 (qac qai) (fun _ h=>h.cells) bj ik fun pG dp=>?_
  refine qeC (i:=1) (j:=3) kz ?_ ?_
  ·
   refine (qbx dp (t:=24) (A:=ak) (m:=(((([]:Bs) ++ [by8 0,by8 0,by8 0,by8 0] ++ be 2 23 ++ be 2 (IntKind.i16.wrap v) ++ be 4 num) ++ (be 2 txt.size ++ sb txt)) ++ qaa (IntKind.i16.wrap v) aa).length) (cp:=al) (q:=0) (d:=53) (j:=0) kz (e:=5) (size:=1) (bytes:=1) kz (rfl) (by omega) fun pH il=>?_)
   refine ⟨fun _=>bj,?_⟩
   refine qaO (i:=3) kz (qby il (t:=24) (A:=ak) (m:=((((([]:Bs) ++ [by8 0,by8 0,by8 0,by8 0] ++ be 2 23 ++ be 2 (IntKind.i16.wrap v) ++ be 4 num) ++ (be 2 txt.size ++ sb txt)) ++ qaa (IntKind.i16.wrap v) aa).length)) (cp:=al) (q:=4) (d:=55) (j:=4) kz (e:=5) (bytes:=1) kz (rfl) (by first | omega | (simp only [List.length_append,List.length_cons,List.length_nil]; omega)) fun pI im=>?_)
   refine ⟨fun _=>bj,?_⟩
   refine qa5 [4,5] [(1,.v (.slice ak ((((([]:Bs) ++ [by8 0,by8 0,by8 0,by8 0] ++ be 2 23 ++ be 2 (IntKind.i16.wrap v) ++ be 4 num) ++ (be 2 txt.size ++ sb txt)) ++ qaa (IntKind.i16.wrap v) aa).length) al)),(53,.v (.slice ak 0 al)),(57,.v (.int .i32 (IntKind.i32.wrap ((((((([]:Bs) ++ [by8 0,by8 0,by8 0,by8 0] ++ be 2 23 ++ be 2 (IntKind.i16.wrap v) ++ be 4 num) ++ (be 2 txt.size ++ sb txt)) ++ qaa (IntKind.i16.wrap v) aa).length) - 4:Nat):Int))))] 1 (qac qai) (fun _ h=>h.cells) bj im fun pJ io=>?_
   refine qaO (i:=6) kz (qal io (f:=133) (vs:=[.slice ak 0 al,.int .i32 (IntKind.i32.wrap ((((((([]:Bs) ++ [by8 0,by8 0,by8 0,by8 0] ++ be 2 23 ++ be 2 (IntKind.i16.wrap v) ++ be 4 num) ++ (be 2 txt.size ++ sb txt)) ++ qaa (IntKind.i16.wrap v) aa).length) - 4:Nat):Int))]) (d:=58) kz Tryz.call133 (qbB (IntKind.i32.wrap ((((((([]:Bs) ++ [by8 0,by8 0,by8 0,by8 0] ++ be 2 23 ++ be 2 (IntKind.i16.wrap v) ++ be 4 num) ++ (be 2 txt.size ++ sb txt)) ++ qaa (IntKind.i16.wrap v) aa).length) - 4:Nat):Int)) ak al (((([]:Bs) ++ [by8 0,by8 0,by8 0,by8 0] ++ be 2 23 ++ be 2 (IntKind.i16.wrap v) ++ be 4 num) ++ (be 2 txt.size ++ sb txt)) ++ qaa (IntKind.i16.wrap v) aa) _ (bW.own 1 _ rfl) (by simp only [List.length_append,List.length_cons,List.length_nil]; omega)) ?_)
   rintro e_ pK ⟨rfl,ip,dq⟩
   refine ⟨_,rfl,fun pL iq=>?_⟩
   have aT:WOk _ _ _ _ [⟨some ⟨au,0,none⟩,1,96,1,1,[.iface 147 (.agg #[.func (.func 131) #[] #[.pointer (some ⟨ab,0,none⟩)]])]⟩,⟨ak,al,5,1,(((([]:Bs) ++ [by8 0,by8 0,by8 0,by8 0] ++ be 2 23 ++ be 2 (IntKind.i16.wrap v) ++ be 4 num) ++ (be 2 txt.size ++ sb txt)) ++ qaa (IntKind.i16.wrap v) aa).length,bc (be 4 (IntKind.i32.wrap ((((((([]:Bs) ++ [by8 0,by8 0,by8 0,by8 0] ++ be 2 23 ++ be 2 (IntKind.i16.wrap v) ++ be 4 num) ++ (be 2 txt.size ++ sb txt)) ++ qaa (IntKind.i16.wrap v) aa).length) - 4:Nat):Int)) ++ (((([]:Bs) ++ [by8 0,by8 0,by8 0,by8 0] ++ be 2 23 ++ be 2 (IntKind.i16.wrap v) ++ be 4 num) ++ (be 2 txt.size ++ sb txt)) ++ qaa (IntKind.i16.wrap v) aa).drop 4)⟩]:=bW.grow (k:=1) (r':=⟨ak,al,5,1,(((([]:Bs) ++ [by8 0,by8 0,by8 0,by8 0] ++ be 2 23 ++ be 2 (IntKind.i16.wrap v) ++ be 4 num) ++ (be 2 txt.size ++ sb txt)) ++ qaa (IntKind.i16.wrap v) aa).length,bc (be 4 (IntKind.i32.wrap ((((((([]:Bs) ++ [by8 0,by8 0,by8 0,by8 0] ++ be 2 23 ++ be 2 (IntKind.i16.wrap v) ++ be 4 num) ++ (be 2 txt.size ++ sb txt)) ++ qaa (IntKind.i16.wrap v) aa).length) - 4:Nat):Int)) ++ (((([]:Bs) ++ [by8 0,by8 0,by8 0,by8 0] ++ be 2 23 ++ be 2 (IntKind.i16.wrap v) ++ be 4 num) ++ (be 2 txt.size ++ sb txt)) ++ qaa (IntKind.i16.wrap v) aa).drop 4)⟩) rfl dq ip (fun g' hg'=>.inl hg')
   have ir:=Fr.grow [⟨b1,0,[.bool has,.string txt],true⟩,⟨ac,0,[.int .i16 (IntKind.i16.wrap v),.int .i32 ((aa.f 0).n),.slice ((aa.f 1).A) ((aa.f 1).l) ((aa.f 1).c),.map aa.m],true⟩,⟨af,0,[.bool has,.string txt],true⟩,⟨ae,0,[.pointer none],true⟩,⟨ab,0,[.string txt],true⟩,⟨ag,0,[.pointer (some ⟨ab,0,none⟩)],true⟩,⟨ah,0,[.func (.func 131) #[] #[.pointer (some ⟨ab,0,none⟩)]],true⟩] (k:=1) (rs:=[⟨some ⟨au,0,none⟩,1,96,1,1,[.iface 147 (.agg #[.func (.func 131) #[] #[.pointer (some ⟨ab,0,none⟩)]])]⟩,brow ak al 5 (((([]:Bs) ++ [by8 0,by8 0,by8 0,by8 0] ++ be 2 23 ++ be 2 (IntKind.i16.wrap v) ++ be 4 num) ++ (be 2 txt.size ++ sb txt)) ++ qaa (IntKind.i16.wrap v) aa)]) (r':=⟨ak,al,5,1,(((([]:Bs) ++ [by8 0,by8 0,by8 0,by8 0] ++ be 2 23 ++ be 2 (IntKind.i16.wrap v) ++ be 4 num) ++ (be 2 txt.size ++ sb txt)) ++ qaa (IntKind.i16.wrap v) aa).length,bc (be 4 (IntKind.i32.wrap ((((((([]:Bs) ++ [by8 0,by8 0,by8 0,by8 0] ++ be 2 23 ++ be 2 (IntKind.i16.wrap v) ++ be 4 num) ++ (be 2 txt.size ++ sb txt)) ++ qaa (IntKind.i16.wrap v) aa).length) - 4:Nat):Int)) ++ (((([]:Bs) ++ [by8 0,by8 0,by8 0,by8 0] ++ be 2 23 ++ be 2 (IntKind.i16.wrap v) ++ be 4 num) ++ (be 2 txt.size ++ sb txt)) ++ qaa (IntKind.i16.wrap v) aa).drop 4)⟩) rfl dq (fun g' hg'=>.inl hg')
   have iu:=TT.ofW ir aT
   refine ⟨fun _=>iu,?_⟩
   refine qaZ kz ?_ _
   refine qab ?_
   refine qas [(8,.v (.slice ak ((((([]:Bs) ++ [by8 0,by8 0,by8 0,by8 0] ++ be 2 23 ++ be 2 (IntKind.i16.wrap v) ++ be 4 num) ++ (be 2 txt.size ++ sb txt)) ++ qaa (IntKind.i16.wrap v) aa).length) al))] aT iq fun pM iv=>?_
   refine wp_ret ?_
   refine qaE iv aT.cells (v:=.slice ak ((((([]:Bs) ++ [by8 0,by8 0,by8 0,by8 0] ++ be 2 23 ++ be 2 (IntKind.i16.wrap v) ++ be 4 num) ++ (be 2 txt.size ++ sb txt)) ++ qaa (IntKind.i16.wrap v) aa).length) al) kz ?_
   refine ⟨_,rfl,fun pN iw=>?_⟩
   have ix:=(EnvOk.places (tb':=[⟨b1,0,[.bool has,.string txt],true⟩,⟨ac,0,[.int .i16 (IntKind.i16.wrap v),.int .i32 ((aa.f 0).n),.slice ((aa.f 1).A) ((aa.f 1).l) ((aa.f 1).c),.map aa.m],true⟩,⟨af,0,[.bool has,.string txt],true⟩,⟨ae,0,[.pointer none],true⟩,⟨ab,0,[.string txt],true⟩,⟨ag,0,[.pointer (some ⟨ab,0,none⟩)],true⟩,⟨ah,0,[.func (.func 131) #[] #[.pointer (some ⟨ab,0,none⟩)]],true⟩]) iw (show Pl [⟨b1,0,[.bool has,.string txt],true⟩,⟨ac,0,[.int .i16 (IntKind.i16.wrap v),.int .i32 ((aa.f 0).n),.slice ((aa.f 1).A) ((aa.f 1).l) ((aa.f 1).c),.map aa.m],true⟩,⟨af,0,[.bool has,.string txt],true⟩,⟨ae,0,[.pointer none],true⟩,⟨ab,0,[.string txt],true⟩,⟨ag,0,[.pointer (some ⟨ab,0,none⟩)],true⟩,⟨ah,0,[.func (.func 131) #[] #[.pointer (some ⟨ab,0,none⟩)]],true⟩] [⟨b1,0,[.bool has,.string txt],true⟩,⟨ac,0,[.int .i16 (IntKind.i16.wrap v),.int .i32 ((aa.f 0).n),.slice ((aa.f 1).A) ((aa.f 1).l) ((aa.f 1).c),.map aa.m],true⟩,⟨af,0,[.bool has,.string txt],true⟩,⟨ae,0,[.pointer none],true⟩,⟨ab,0,[.string txt],true⟩,⟨ag,0,[.pointer (some ⟨ab,0,none⟩)],true⟩,⟨ah,0,[.func (.func 131) #[] #[.pointer (some ⟨ab,0,none⟩)]],true⟩] from ⟨rfl,rfl,⟨rfl,rfl,⟨rfl,rfl,⟨rfl,rfl,⟨rfl,rfl,⟨rfl,rfl,⟨rfl,rfl,trivial⟩⟩⟩⟩⟩⟩⟩)).pk (env':=[(19,.v (.slice ak ((((([]:Bs) ++ [by8 0,by8 0,by8 0,by8 0] ++ be 2 23 ++ be 2 (IntKind.i16.wrap v) ++ be 4 num) ++ (be 2 txt.size ++ sb txt)) ++ qaa (IntKind.i16.wrap v) aa).length) al)),(16,.p 5 0),(17,.v (.iface 67 (.pointer (some ⟨ac,0,none⟩)))),(18,.v (.int .i32 num))])
   refine qaj [4] [] [(6,.v (.slice ak ((((([]:Bs) ++ [by8 0,by8 0,by8 0,by8 0] ++ be 2 23 ++ be 2 (IntKind.i16.wrap v) ++ be 4 num) ++ (be 2 txt.size ++ sb txt)) ++ qaa (IntKind.i16.wrap v) aa).length) al))] aT ix fun pO iy=>?_
   refine qaf (qab ?_)
   refine wp_ret ?_
   refine qaE iy aT.cells (v:=.slice ak ((((([]:Bs) ++ [by8 0,by8 0,by8 0,by8 0] ++ be 2 23 ++ be 2 (IntKind.i16.wrap v) ++ be 4 num) ++ (be 2 txt.size ++ sb txt)) ++ qaa (IntKind.i16.wrap v) aa).length) al) kz ?_
   refine ⟨_,rfl,fun pP iz=>?_⟩
   have iA:=(EnvOk.places (tb':=[⟨b1,0,[.bool has,.string txt],true⟩,⟨ac,0,[.int .i16 (IntKind.i16.wrap v),.int .i32 ((aa.f 0).n),.slice ((aa.f 1).A) ((aa.f 1).l) ((aa.f 1).c),.map aa.m],true⟩,⟨af,0,[.bool has,.string txt],true⟩,⟨ae,0,[.pointer none],true⟩,⟨ab,0,[.string txt],true⟩,⟨ag,0,[.pointer (some ⟨ab,0,none⟩)],true⟩,⟨ah,0,[.func (.func 131) #[] #[.pointer (some ⟨ab,0,none⟩)]],true⟩]) iz (show Pl [⟨b1,0,[.bool has,.string txt],true⟩,⟨ac,0,[.int .i16 (IntKind.i16.wrap v),.int .i32 ((aa.f 0).n),.slice ((aa.f 1).A) ((aa.f 1).l) ((aa.f 1).c),.map aa.m],true⟩] [⟨b1,0,[.bool has,.string txt],true⟩,⟨ac,0,[.int .i16 (IntKind.i16.wrap v),.int .i32 ((aa.f 0).n),.slice ((aa.f 1).A) ((aa.f 1).l) ((aa.f 1).c),.map aa.m],true⟩,⟨af,0,[.bool has,.string txt],true⟩,⟨ae,0,[.pointer none],true⟩,⟨ab,0,[.string txt],true⟩,⟨ag,0,[.pointer (some ⟨ab,0,none⟩)],true⟩,⟨ah,0,[.func (.func 131) #[] #[.pointer (some ⟨ab,0,none⟩)]],true⟩] from ⟨rfl,rfl,⟨rfl,rfl,trivial⟩⟩)).pk (env':=[(25,.v (.slice ak ((((([]:Bs) ++ [by8 0,by8 0,by8 0,by8 0] ++ be 2 23 ++ be 2 (IntKind.i16.wrap v) ++ be 4 num) ++ (be 2 txt.size ++ sb txt)) ++ qaa (IntKind.i16.wrap v) aa).length) al)),(21,.v (.agg #[.bool has,.string txt])),(23,.v (.iface 67 (.pointer (some ⟨ac,0,none⟩)))),(24,.v (.int .i32 num))])
   refine qaj [5,6] [] [(8,.v (.slice ak ((((([]:Bs) ++ [by8 0,by8 0,by8 0,by8 0] ++ be 2 23 ++ be 2 (IntKind.i16.wrap v) ++ be 4 num) ++ (be 2 txt.size ++ sb txt)) ++ qaa (IntKind.i16.wrap v) aa).length) al)),(9,.v (.bool true))] aT iA fun pQ iB=>?_
   refine qaf (qab ?_)
   refine wp_ret ?_
   refine qaE iB aT.cells (v:=.tuple #[.slice ak ((((([]:Bs) ++ [by8 0,by8 0,by8 0,by8 0] ++ be 2 23 ++ be 2 (IntKind.i16.wrap v) ++ be 4 num) ++ (be 2 txt.size ++ sb txt)) ++ qaa (IntKind.i16.wrap v) aa).length) al,.bool true]) kz ?_
   have iC:be 4 (IntKind.i32.wrap ((((((([]:Bs) ++ [by8 0,by8 0,by8 0,by8 0] ++ be 2 23 ++ be 2 (IntKind.i16.wrap v) ++ be 4 num) ++ (be 2 txt.size ++ sb txt)) ++ qaa (IntKind.i16.wrap v) aa).length) - 4:Nat):Int)) ++ (((([]:Bs) ++ [by8 0,by8 0,by8 0,by8 0] ++ be 2 23 ++ be 2 (IntKind.i16.wrap v) ++ be 4 num) ++ (be 2 txt.size ++ sb txt)) ++ qaa (IntKind.i16.wrap v) aa).drop 4 = (qa7 23 (IntKind.i16.wrap v) num has (sb txt) (decide ((IntKind.i16.wrap v) ≥ 4)) (qaa (IntKind.i16.wrap v) aa)):=qcF (R:=outB 23 (IntKind.i16.wrap v) num has (sb txt) (decide ((IntKind.i16.wrap v) ≥ 4)) (qaa (IntKind.i16.wrap v) aa)) (by simp [outB,qdX,qbN,aJ,bf])
   exact qcG aT (k:=1) rfl (iC.trans (by rw [ba])) (by simp only [List.length_append,List.length_cons,List.length_nil]; omega)
  refine (qby dp (t:=24) (A:=ak) (m:=((((([]:Bs) ++ [by8 0,by8 0,by8 0,by8 0] ++ be 2 23 ++ be 2 (IntKind.i16.wrap v) ++ be 4 num) ++ (be 2 txt.size ++ sb txt)) ++ qaa (IntKind.i16.wrap v) aa).length)) (cp:=al) (q:=4) (d:=55) (j:=4) kz (e:=5) (bytes:=1) kz (rfl) (by first | omega | (simp only [List.length_append,List.length_cons,List.length_nil]; omega)) fun pR iD=>?_)
  refine ⟨fun _=>bj,?_⟩
  refine qa5 [4,5] [(1,.v (.slice ak ((((([]:Bs) ++ [by8 0,by8 0,by8 0,by8 0] ++ be 2 23 ++ be 2 (IntKind.i16.wrap v) ++ be 4 num) ++ (be 2 txt.size ++ sb txt)) ++ qaa (IntKind.i16.wrap v) aa).length) al)),(52,.v (.slice ak ((((([]:Bs) ++ [by8 0,by8 0,by8 0,by8 0] ++ be 2 23 ++ be 2 (IntKind.i16.wrap v) ++ be 4 num) ++ (be 2 txt.size ++ sb txt)) ++ qaa (IntKind.i16.wrap v) aa).length) al)),(57,.v (.int .i32 (IntKind.i32.wrap ((((((([]:Bs) ++ [by8 0,by8 0,by8 0,by8 0] ++ be 2 23 ++ be 2 (IntKind.i16.wrap v) ++ be 4 num) ++ (be 2 txt.size ++ sb txt)) ++ qaa (IntKind.i16.wrap v) aa).length) - 4:Nat):Int))))] 2 (qac qai) (fun _ h=>h.cells) bj iD fun pS iE=>?_
  refine qaO (i:=1) kz (qbx iE (t:=24) (A:=ak) (m:=(((([]:Bs) ++ [by8 0,by8 0,by8 0,by8 0] ++ be 2 23 ++ be 2 (IntKind.i16.wrap v) ++ be 4 num) ++ (be 2 txt.size ++ sb txt)) ++ qaa (IntKind.i16.wrap v) aa).length) (cp:=al) (q:=0) (d:=53) (j:=0) kz (e:=5) (size:=1) (bytes:=1) kz (rfl) (by omega) fun pT iF=>?_)
  refine ⟨fun _=>bj,?_⟩
  refine qaO (i:=6) kz (qal iF (f:=133) (vs:=[.slice ak 0 al,.int .i32 (IntKind.i32.wrap ((((((([]:Bs) ++ [by8 0,by8 0,by8 0,by8 0] ++ be 2 23 ++ be 2 (IntKind.i16.wrap v) ++ be 4 num) ++ (be 2 txt.size ++ sb txt)) ++ qaa (IntKind.i16.wrap v) aa).length) - 4:Nat):Int))]) (d:=58) kz Tryz.call133 (qbB (IntKind.i32.wrap ((((((([]:Bs) ++ [by8 0,by8 0,by8 0,by8 0] ++ be 2 23 ++ be 2 (IntKind.i16.wrap v) ++ be 4 num) ++ (be 2 txt.size ++ sb txt)) ++ qaa (IntKind.i16.wrap v) aa).length) - 4:Nat):Int)) ak al (((([]:Bs) ++ [by8 0,by8 0,by8 0,by8 0] ++ be 2 23 ++ be 2 (IntKind.i16.wrap v) ++ be 4 num) ++ (be 2 txt.size ++ sb txt)) ++ qaa (IntKind.i16.wrap v) aa) _ (bW.own 1 _ rfl) (by simp only [List.length_append,List.length_cons,List.length_nil]; omega)) ?_)
  rintro e_ pU ⟨rfl,iG,dr⟩
  refine ⟨_,rfl,fun pV iH=>?_⟩
  have aU:WOk _ _ _ _ [⟨some ⟨au,0,none⟩,1,96,1,1,[.iface 147 (.agg #[.func (.func 131) #[] #[.pointer (some ⟨ab,0,none⟩)]])]⟩,⟨ak,al,5,1,(((([]:Bs) ++ [by8 0,by8 0,by8 0,by8 0] ++ be 2 23 ++ be 2 (IntKind.i16.wrap v) ++ be 4 num) ++ (be 2 txt.size ++ sb txt)) ++ qaa (IntKind.i16.wrap v) aa).length,bc (be 4 (IntKind.i32.wrap ((((((([]:Bs) ++ [by8 0,by8 0,by8 0,by8 0] ++ be 2 23 ++ be 2 (IntKind.i16.wrap v) ++ be 4 num) ++ (be 2 txt.size ++ sb txt)) ++ qaa (IntKind.i16.wrap v) aa).length) - 4:Nat):Int)) ++ (((([]:Bs) ++ [by8 0,by8 0,by8 0,by8 0] ++ be 2 23 ++ be 2 (IntKind.i16.wrap v) ++ be 4 num) ++ (be 2 txt.size ++ sb txt)) ++ qaa (IntKind.i16.wrap v) aa).drop 4)⟩]:=bW.grow (k:=1) (r':=⟨ak,al,5,1,(((([]:Bs) ++ [by8 0,by8 0,by8 0,by8 0] ++ be 2 23 ++ be 2 (IntKind.i16.wrap v) ++ be 4 num) ++ (be 2 txt.size ++ sb txt)) ++ qaa (IntKind.i16.wrap v) aa).length,bc (be 4 (IntKind.i32.wrap ((((((([]:Bs) ++ [by8 0,by8 0,by8 0,by8 0] ++ be 2 23 ++ be 2 (IntKind.i16.wrap v) ++ be 4 num) ++ (be 2 txt.size ++ sb txt)) ++ qaa (IntKind.i16.wrap v) aa).length) - 4:Nat):Int)) ++ (((([]:Bs) ++ [by8 0,by8 0,by8 0,by8 0] ++ be 2 23 ++ be 2 (IntKind.i16.wrap v) ++ be 4 num) ++ (be 2 txt.size ++ sb txt)) ++ qaa (IntKind.i16.wrap v) aa).drop 4)⟩) rfl dr iG (fun g' hg'=>.inl hg')
  have iI:=Fr.grow [⟨b1,0,[.bool has,.string txt],true⟩,⟨ac,0,[.int .i16 (IntKind.i16.wrap v),.int .i32 ((aa.f 0).n),.slice ((aa.f 1).A) ((aa.f 1).l) ((aa.f 1).c),.map aa.m],true⟩,⟨af,0,[.bool has,.string txt],true⟩,⟨ae,0,[.pointer none],true⟩,⟨ab,0,[.string txt],true⟩,⟨ag,0,[.pointer (some ⟨ab,0,none⟩)],true⟩,⟨ah,0,[.func (.func 131) #[] #[.pointer (some ⟨ab,0,none⟩)]],true⟩] (k:=1) (rs:=[⟨some ⟨au,0,none⟩,1,96,1,1,[.iface 147 (.agg #[.func (.func 131) #[] #[.pointer (some ⟨ab,0,none⟩)]])]⟩,brow ak al 5 (((([]:Bs) ++ [by8 0,by8 0,by8 0,by8 0] ++ be 2 23 ++ be 2 (IntKind.i16.wrap v) ++ be 4 num) ++ (be 2 txt.size ++ sb txt)) ++ qaa (IntKind.i16.wrap v) aa)]) (r':=⟨ak,al,5,1,(((([]:Bs) ++ [by8 0,by8 0,by8 0,by8 0] ++ be 2 23 ++ be 2 (IntKind.i16.wrap v) ++ be 4 num) ++ (be 2 txt.size ++ sb txt)) ++ qaa (IntKind.i16.wrap v) aa).length,bc (be 4 (IntKind.i32.wrap ((((((([]:Bs) ++ [by8 0,by8 0,by8 0,by8 0] ++ be 2 23 ++ be 2 (IntKind.i16.wrap v) ++ be 4 num) ++ (be 2 txt.size ++ sb txt)) ++ qaa (IntKind.i16.wrap v) aa).length) - 4:Nat):Int)) ++ (((([]:Bs) ++ [by8 0,by8 0,by8 0,by8 0] ++ be 2 23 ++ be 2 (IntKind.i16.wrap v) ++ be 4 num) ++ (be 2 txt.size ++ sb txt)) ++ qaa (IntKind.i16.wrap v) aa).drop 4)⟩) rfl dr (fun g' hg'=>.inl hg')
  have iJ:=TT.ofW iI aU
  refine ⟨fun _=>iJ,?_⟩
  refine qaZ kz ?_ _
  refine qab ?_
  refine qas [(8,.v (.slice ak ((((([]:Bs) ++ [by8 0,by8 0,by8 0,by8 0] ++ be 2 23 ++ be 2 (IntKind.i16.wrap v) ++ be 4 num) ++ (be 2 txt.size ++ sb txt)) ++ qaa (IntKind.i16.wrap v) aa).length) al))] aU iH fun pW iK=>?_
  refine wp_ret ?_
  refine qaE iK aU.cells (v:=.slice ak ((((([]:Bs) ++ [by8 0,by8 0,by8 0,by8 0] ++ be 2 23 ++ be 2 (IntKind.i16.wrap v) ++ be 4 num) ++ (be 2 txt.size ++ sb txt)) ++ qaa (IntKind.i16.wrap v) aa).length) al) kz ?_
  refine ⟨_,rfl,fun pX iL=>?_⟩
  have iM:=(EnvOk.places (tb':=[⟨b1,0,[.bool has,.string txt],true⟩,⟨ac,0,[.int .i16 (IntKind.i16.wrap v),.int .i32 ((aa.f 0).n),.slice ((aa.f 1).A) ((aa.f 1).l) ((aa.f 1).c),.map aa.m],true⟩,⟨af,0,[.bool has,.string txt],true⟩,⟨ae,0,[.pointer none],true⟩,⟨ab,0,[.string txt],true⟩,⟨ag,0,[.pointer (some ⟨ab,0,none⟩)],true⟩,⟨ah,0,[.func (.func 131) #[] #[.pointer (some ⟨ab,0,none⟩)]],true⟩]) iL (show Pl [⟨b1,0,[.bool has,.string txt],true⟩,⟨ac,0,[.int .i16 (IntKind.i16.wrap v),.int .i32 ((aa.f 0).n),.slice ((aa.f 1).A) ((aa.f 1).l) ((aa.f 1).c),.map aa.m],true⟩,⟨af,0,[.bool has,.string txt],true⟩,⟨ae,0,[.pointer none],true⟩,⟨ab,0,[.string txt],true⟩,⟨ag,0,[.pointer (some ⟨ab,0,none⟩)],true⟩,⟨ah,0,[.func (.func 131) #[] #[.pointer (some ⟨ab,0,none⟩)]],true⟩] [⟨b1,0,[.bool has,.string txt],true⟩,⟨ac,0,[.int .i16 (IntKind.i16.wrap v),.int .i32 ((aa.f 0).n),.slice ((aa.f 1).A) ((aa.f 1).l) ((aa.f 1).c),.map aa.m],true⟩,⟨af,0,[.bool has,.string txt],true⟩,⟨ae,0,[.pointer none],true⟩,⟨ab,0,[.string txt],true⟩,⟨ag,0,[.pointer (some ⟨ab,0,none⟩)],true⟩,⟨ah,0,[.func (.func 131) #[] #[.pointer (some ⟨ab,0,none⟩)]],true⟩] from ⟨rfl,rfl,⟨rfl,rfl,⟨rfl,rfl,⟨rfl,rfl,⟨rfl,rfl,⟨rfl,rfl,⟨rfl,rfl,trivial⟩⟩⟩⟩⟩⟩⟩)).pk (env':=[(19,.v (.slice ak ((((([]:Bs) ++ [by8 0,by8 0,by8 0,by8 0] ++ be 2 23 ++ be 2 (IntKind.i16.wrap v) ++ be 4 num) ++ (be 2 txt.size ++ sb txt)) ++ qaa (IntKind.i16.wrap v) aa).length) al)),(16,.p 5 0),(17,.v (.iface 67 (.pointer (some ⟨ac,0,none⟩)))),(18,.v (.int .i32 num))])
  refine qaj [4] [] [(6,.v (.slice ak ((((([]:Bs) ++ [by8 0,by8 0,by8 0,by8 0] ++ be 2 23 ++ be 2 (IntKind.i16.wrap v) ++ be 4 num) ++ (be 2 txt.size ++ sb txt)) ++ qaa (IntKind.i16.wrap v) aa).length) al))] aU iM fun pY iN=>?_
  refine qaf (qab ?_)
  refine wp_ret ?_
  refine qaE iN aU.cells (v:=.slice ak ((((([]:Bs) ++ [by8 0,by8 0,by8 0,by8 0] ++ be 2 23 ++ be 2 (IntKind.i16.wrap v) ++ be 4 num) ++ (be 2 txt.size ++ sb txt)) ++ qaa (IntKind.i16.wrap v) aa).length) al) kz ?_
  refine ⟨_,rfl,fun pZ iO=>?_⟩
  have iP:=(EnvOk.places (tb':=[⟨b1,0,[.bool has,.string txt],true⟩,⟨ac,0,[.int .i16 (IntKind.i16.wrap v),.int .i32 ((aa.f 0).n),.slice ((aa.f 1).A) ((aa.f 1).l) ((aa.f 1).c),.map aa.m],true⟩,⟨af,0,[.bool has,.string txt],true⟩,⟨ae,0,[.pointer none],true⟩,⟨ab,0,[.string txt],true⟩,⟨ag,0,[.pointer (some ⟨ab,0,none⟩)],true⟩,⟨ah,0,[.func (.func 131) #[] #[.pointer (some ⟨ab,0,none⟩)]],true⟩]) iO (show Pl [⟨b1,0,[.bool has,.string txt],true⟩,⟨ac,0,[.int .i16 (IntKind.i16.wrap v),.int .i32 ((aa.f 0).n),.slice ((aa.f 1).A) ((aa.f 1).l) ((aa.f 1).c),.map aa.m],true⟩] [⟨b1,0,[.bool has,.string txt],true⟩,⟨ac,0,[.int .i16 (IntKind.i16.wrap v),.int .i32 ((aa.f 0).n),.slice ((aa.f 1).A) ((aa.f 1).l) ((aa.f 1).c),.map aa.m],true⟩,⟨af,0,[.bool has,.string txt],true⟩,⟨ae,0,[.pointer none],true⟩,⟨ab,0,[.string txt],true⟩,⟨ag,0,[.pointer (some ⟨ab,0,none⟩)],true⟩,⟨ah,0,[.func (.func 131) #[] #[.pointer (some ⟨ab,0,none⟩)]],true⟩] from ⟨rfl,rfl,⟨rfl,rfl,trivial⟩⟩)).pk (env':=[(25,.v (.slice ak ((((([]:Bs) ++ [by8 0,by8 0,by8 0,by8 0] ++ be 2 23 ++ be 2 (IntKind.i16.wrap v) ++ be 4 num) ++ (be 2 txt.size ++ sb txt)) ++ qaa (IntKind.i16.wrap v) aa).length) al)),(21,.v (.agg #[.bool has,.string txt])),(23,.v (.iface 67 (.pointer (some ⟨ac,0,none⟩)))),(24,.v (.int .i32 num))])
  refine qaj [5,6] [] [(8,.v (.slice ak ((((([]:Bs) ++ [by8 0,by8 0,by8 0,by8 0] ++ be 2 23 ++ be 2 (IntKind.i16.wrap v) ++ be 4 num) ++ (be 2 txt.size ++ sb txt)) ++ qaa (IntKind.i16.wrap v) aa).length) al)),(9,.v (.bool true))] aU iP fun p4 iQ=>?_
  refine qaf (qab ?_)
  refine wp_ret ?_
  refine qaE iQ aU.cells (v:=.tuple #[.slice ak ((((([]:Bs) ++ [by8 0,by8 0,by8 0,by8 0] ++ be 2 23 ++ be 2 (IntKind.i16.wrap v) ++ be 4 num) ++ (be 2 txt.size ++ sb txt)) ++ qaa (IntKind.i16.wrap v) aa).length) al,.bool true]) kz ?_
  have iR:be 4 (IntKind.i32.wrap ((((((([]:Bs) ++ [by8 0,by8 0,by8 0,by8 0] ++ be 2 23 ++ be 2 (IntKind.i16.wrap v) ++ be 4 num) ++ (be 2 txt.size ++ sb txt)) ++ qaa (IntKind.i16.wrap v) aa).length) - 4:Nat):Int)) ++ (((([]:Bs) ++ [by8 0,by8 0,by8 0,by8 0] ++ be 2 23 ++ be 2 (IntKind.i16.wrap v) ++ be 4 num) ++ (be 2 txt.size ++ sb txt)) ++ qaa (IntKind.i16.wrap v) aa).drop 4 = (qa7 23 (IntKind.i16.wrap v) num has (sb txt) (decide ((IntKind.i16.wrap v) ≥ 4)) (qaa (IntKind.i16.wrap v) aa)):=qcF (R:=outB 23 (IntKind.i16.wrap v) num has (sb txt) (decide ((IntKind.i16.wrap v) ≥ 4)) (qaa (IntKind.i16.wrap v) aa)) (by simp [outB,qdX,qbN,aJ,bf])
  exact qcG aU (k:=1) rfl (iR.trans (by rw [ba])) (by simp only [List.length_append,List.length_cons,List.length_nil]; omega)
 refine wp_skip ?_
 refine qab ?_
 refine qae [0,1,2,3,4] kz ?_
 refine qaj [0,1,2] [3,4] [(16,.p 3 0),(17,.v (.iface 67 (.pointer (some ⟨ac,0,none⟩)))),(18,.v (.int .i32 num))] av cC fun p5 iS=>?_
 refine qam (qa6 iS (f:=91) (vs:=[.pointer (some ⟨ae,0,none⟩),.slice none 0 0,.iface 67 (.pointer (some ⟨ac,0,none⟩)),.int .i32 num]) (d:=19) (n':=60) kz Tryz.call91 Tryz.func91 rfl Tryz.ntmps91 kz fun p6 iT=>?_)
 have iU:=iT.recast 0 (.v (.pointer (some ⟨ae,0,none⟩))) (.p 3 0) rfl rfl (Nat.le_of_ble_eq_true (n:=4) rfl)
 refine qas [(0,.p 3 0),(1,.v (.slice none 0 0)),(2,.v (.iface 67 (.pointer (some ⟨ac,0,none⟩)))),(3,.v (.int .i32 num))] av iU fun p7 iV=>?_
 refine qae [0,1,2,3] kz ?_
 refine qaj [0] [1,2,3] [(0,.p 3 0),(2,.v (.iface 67 (.pointer (some ⟨ac,0,none⟩)))),(3,.v (.int .i32 num)),(12,.v (.slice none 0 0))] av iV fun p8 iW=>?_
 have iX:=av.addNil 5 1
 have bX:=av.frNil 5 1
 refine qbq iX iW (k:=0) (e:=5) (size:=1) (len:=4) (cs:=[.int .u8 0,.int .u8 0,.int .u8 0,.int .u8 0]) (d1:=13) (d:=14) kz (t:=24) (bytes:=1) kz (fun _=>by kernel_rfl) rfl kz (by first | omega | (simp only [List.length_append,List.length_cons,List.length_nil,be_length,qbN]; omega) | (simp; omega)) fun aH aI p9 qa bY iY ⟨_,iZ⟩=>?_
 have i6:(⟨aH,aI,5,1,([]:Bs).length + 4,bc ([]:Bs) ++ [.int .u8 0,.int .u8 0,.int .u8 0,.int .u8 0]⟩:Rw) = brow aH aI 5 (([]:Bs) ++ [by8 0,by8 0,by8 0,by8 0]):=qa4 (by simp only [bc,List.map,qbH]; try rfl) rfl
 obtain ⟨ay,bZ⟩:=iY.rowEq 0 [brow aH aI 5 (([]:Bs) ++ [by8 0,by8 0,by8 0,by8 0])] i6
 have i7:=EnvOk.pick iZ (ks:=[0,2,3,12,14]) (env':=[(0,.p 3 0),(2,.v (.iface 67 (.pointer (some ⟨ac,0,none⟩)))),(3,.v (.int .i32 num)),(12,.v (.slice none 0 0)),(14,.v (.slice aH (([]:Bs).length + 4) aI))]) kz
 have ja:=i7.cast (env':=[(0,.p 3 0),(2,.v (.iface 67 (.pointer (some ⟨ac,0,none⟩)))),(3,.v (.int .i32 num)),(12,.v (.slice none 0 0)),(14,.v (.slice aH ((([]:Bs) ++ [by8 0,by8 0,by8 0,by8 0]).length) aI))]) (by simp only [List.length_append,List.length_cons,List.length_nil,Nat.zero_add])
 refine qaj [3] [] [(0,.p 3 0),(1,.v (.slice aH ((([]:Bs) ++ [by8 0,by8 0,by8 0,by8 0]).length) aI)),(2,.v (.iface 67 (.pointer (some ⟨ac,0,none⟩)))),(3,.v (.int .i32 num))] ay ja fun qb jb=>?_
 refine qaf (qab ?_)
 refine qae [0,1,2] kz ?_
 refine qaj [0] [1,2] [(0,.p 3 0),(1,.v (.slice aH ((([]:Bs) ++ [by8 0,by8 0,by8 0,by8 0]).length) aI)),(2,.v (.iface 67 (.pointer (some ⟨ac,0,none⟩)))),(3,.v (.int .i32 num)),(15,.v (.iface 67 (.pointer (some ⟨ac,0,none⟩))))] ay jb fun qc jc=>?_
 refine qam (qb9 jc (t := 67) (v := (.pointer (some ⟨ac, 0, none⟩))) (v' := (.pointer (some ⟨ac, 0, none⟩))) (name := "Key") (f := 248) (vs := []) (d := 16) (n' := 3) kz (fun _ => by kernel_rfl) Tryz.call248 Tryz.func248 rfl Tryz.ntmps248 kz fun qd jd => ?_)
 have je:=jd.recast 0 (.v (.pointer (some ⟨ac,0,none⟩))) (.p 1 0) rfl rfl (Nat.le_of_ble_eq_true (n:=2) rfl)
 refine qas [] ay je fun qe jf=>?_
 refine qas [(2,.v (.int .i16 23))] ay jf fun qf jg=>?_
 refine wp_ret ?_
 refine qaE jg ay.cells (v:=.int .i16 23) kz ?_
 refine ⟨_,rfl,fun qg jh=>?_⟩
 have ji:=(EnvOk.places (tb':=[⟨b1,0,[.bool has,.string txt],true⟩,⟨ac,0,[.int .i16 (IntKind.i16.wrap v),.int .i32 ((aa.f 0).n),.slice ((aa.f 1).A) ((aa.f 1).l) ((aa.f 1).c),.map aa.m],true⟩,⟨af,0,[.bool has,.string txt],true⟩,⟨ae,0,[.pointer none],true⟩]) jh (show Pl [⟨b1,0,[.bool has,.string txt],true⟩,⟨ac,0,[.int .i16 (IntKind.i16.wrap v),.int .i32 ((aa.f 0).n),.slice ((aa.f 1).A) ((aa.f 1).l) ((aa.f 1).c),.map aa.m],true⟩,⟨af,0,[.bool has,.string txt],true⟩,⟨ae,0,[.pointer none],true⟩] [⟨b1,0,[.bool has,.string txt],true⟩,⟨ac,0,[.int .i16 (IntKind.i16.wrap v),.int .i32 ((aa.f 0).n),.slice ((aa.f 1).A) ((aa.f 1).l) ((aa.f 1).c),.map aa.m],true⟩,⟨af,0,[.bool has,.string txt],true⟩,⟨ae,0,[.pointer none],true⟩] from ⟨rfl,rfl,⟨rfl,rfl,⟨rfl,rfl,⟨rfl,rfl,trivial⟩⟩⟩⟩)).pk (env':=[(16,.v (.int .i16 23)),(0,.p 3 0),(1,.v (.slice aH ((([]:Bs) ++ [by8 0,by8 0,by8 0,by8 0]).length) aI)),(2,.v (.iface 67 (.pointer (some ⟨ac,0,none⟩)))),(3,.v (.int .i32 num)),(15,.v (.iface 67 (.pointer (some ⟨ac,0,none⟩))))])
 refine qaj [2] [] [(0,.p 3 0),(1,.v (.slice aH ((([]:Bs) ++ [by8 0,by8 0,by8 0,by8 0]).length) aI)),(2,.v (.iface 67 (.pointer (some ⟨ac,0,none⟩)))),(3,.v (.int .i32 num)),(9,.v (.int .i16 23))] ay ji fun qh jj=>?_
 refine qaf (qab ?_)
 refine qae [0,1,2] kz ?_
 refine qaj [0] [1,2] [(0,.p 3 0),(1,.v (.slice aH ((([]:Bs) ++ [by8 0,by8 0,by8 0,by8 0]).length) aI)),(2,.v (.iface 67 (.pointer (some ⟨ac,0,none⟩)))),(3,.v (.int .i32 num)),(9,.v (.int .i16 23)),(17,.v (.iface 67 (.pointer (some ⟨ac,0,none⟩))))] ay jj fun qi jk=>?_
 refine qam (qb9 jk (t := 67) (v := (.pointer (some ⟨ac, 0, none⟩))) (v' := (.pointer (some ⟨ac, 0, none⟩))) (name := "GetVersion") (f := 246) (vs := []) (d := 18) (n' := 7) kz (fun _ => by kernel_rfl) Tryz.call246 Tryz.func246 rfl Tryz.ntmps246 kz fun qj jl => ?_)
 have jm:=jl.recast 0 (.v (.pointer (some ⟨ac,0,none⟩))) (.p 1 0) rfl rfl (Nat.le_of_ble_eq_true (n:=2) rfl)
 refine qas [(0,.p 1 0)] ay jm fun qk jn=>?_
 refine qas [(2,.v (.int .i16 (IntKind.i16.wrap v)))] ay jn fun ql jo=>?_
 refine wp_ret ?_
 refine qaE jo ay.cells (v:=.int .i16 (IntKind.i16.wrap v)) kz ?_
 refine ⟨_,rfl,fun qm jp=>?_⟩
 have jq:=(EnvOk.places (tb':=[⟨b1,0,[.bool has,.string txt],true⟩,⟨ac,0,[.int .i16 (IntKind.i16.wrap v),.int .i32 ((aa.f 0).n),.slice ((aa.f 1).A) ((aa.f 1).l) ((aa.f 1).c),.map aa.m],true⟩,⟨af,0,[.bool has,.string txt],true⟩,⟨ae,0,[.pointer none],true⟩]) jp (show Pl [⟨b1,0,[.bool has,.string txt],true⟩,⟨ac,0,[.int .i16 (IntKind.i16.wrap v),.int .i32 ((aa.f 0).n),.slice ((aa.f 1).A) ((aa.f 1).l) ((aa.f 1).c),.map aa.m],true⟩,⟨af,0,[.bool has,.string txt],true⟩,⟨ae,0,[.pointer none],true⟩] [⟨b1,0,[.bool has,.string txt],true⟩,⟨ac,0,[.int .i16 (IntKind.i16.wrap v),.int .i32 ((aa.f 0).n),.slice ((aa.f 1).A) ((aa.f 1).l) ((aa.f 1).c),.map aa.m],true⟩,⟨af,0,[.bool has,.string txt],true⟩,⟨ae,0,[.pointer none],true⟩] from ⟨rfl,rfl,⟨rfl,rfl,⟨rfl,rfl,⟨rfl,rfl,trivial⟩⟩⟩⟩)).pk (env':=[(18,.v (.int .i16 (IntKind.i16.wrap v))),(0,.p 3 0),(1,.v (.slice aH ((([]:Bs) ++ [by8 0,by8 0,by8 0,by8 0]).length) aI)),(2,.v (.iface 67 (.pointer (some ⟨ac,0,none⟩)))),(3,.v (.int .i32 num)),(9,.v (.int .i16 23)),(17,.v (.iface 67 (.pointer (some ⟨ac,0,none⟩))))])
 refine qaj [2] [] [(0,.p 3 0),(1,.v (.slice aH ((([]:Bs) ++ [by8 0,by8 0,by8 0,by8 0]).length) aI)),(2,.v (.iface 67 (.pointer (some ⟨ac,0,none⟩)))),(3,.v (.int .i32 num)),(9,.v (.int .i16 23)),(10,.v (.int .i16 (IntKind.i16.wrap v)))] ay jq fun qn jr=>?_
 refine qaf (qab ?_)
 refine qae [0,1,2,3] kz ?_
 refine qaj [0,1] [2,3] [(0,.p 3 0),(2,.v (.iface 67 (.pointer (some ⟨ac,0,none⟩)))),(3,.v (.int .i32 num)),(9,.v (.int .i16 23)),(10,.v (.int .i16 (IntKind.i16.wrap v))),(19,.v (.slice aH ((([]:Bs) ++ [by8 0,by8 0,by8 0,by8 0]).length) aI)),(20,.v (.int .i16 23))] ay jr fun qo js=>?_
 refine qam (qal js (f:=132) (vs:=[.slice aH ((([]:Bs) ++ [by8 0,by8 0,by8 0,by8 0]).length) aI,.int .i16 23]) (d:=21) kz Tryz.call132 (qcn aH aI (([]:Bs) ++ [by8 0,by8 0,by8 0,by8 0]) 23 _ (ay.own 0 _ rfl) (by first | omega | (simp only [List.length_append,List.length_cons,List.length_nil,be_length,qbN]; omega) | (simp; omega))) ?_)
 rintro e_ qp ⟨bB,bC,rfl,jt,dt,du⟩
 refine ⟨_,rfl,fun qq ju=>?_⟩
 have b8:WOk _ _ _ _ [brow bB bC 5 (([]:Bs) ++ [by8 0,by8 0,by8 0,by8 0] ++ be 2 23)]:=ay.grow (k:=0) rfl dt jt du
 have cd:Fr _ [⟨b1,0,[.bool has,.string txt],true⟩,⟨ac,0,[.int .i16 (IntKind.i16.wrap v),.int .i32 ((aa.f 0).n),.slice ((aa.f 1).A) ((aa.f 1).l) ((aa.f 1).c),.map aa.m],true⟩,⟨af,0,[.bool has,.string txt],true⟩,⟨ae,0,[.pointer none],true⟩] [brow aH aI 5 (([]:Bs) ++ [by8 0,by8 0,by8 0,by8 0])] _ [⟨b1,0,[.bool has,.string txt],true⟩,⟨ac,0,[.int .i16 (IntKind.i16.wrap v),.int .i32 ((aa.f 0).n),.slice ((aa.f 1).A) ((aa.f 1).l) ((aa.f 1).c),.map aa.m],true⟩,⟨af,0,[.bool has,.string txt],true⟩,⟨ae,0,[.pointer none],true⟩] [brow bB bC 5 (([]:Bs) ++ [by8 0,by8 0,by8 0,by8 0] ++ be 2 23)]:=Fr.grow _ (k:=0) (r':=(brow bB bC 5 (([]:Bs) ++ [by8 0,by8 0,by8 0,by8 0] ++ be 2 23))) rfl dt du
 refine qaj [3] [] [(0,.p 3 0),(1,.v (.slice bB ((([]:Bs) ++ [by8 0,by8 0,by8 0,by8 0] ++ be 2 23).length) bC)),(2,.v (.iface 67 (.pointer (some ⟨ac,0,none⟩)))),(3,.v (.int .i32 num)),(9,.v (.int .i16 23)),(10,.v (.int .i16 (IntKind.i16.wrap v)))] b8 ju fun qr jv=>?_
 refine qaf (qab ?_)
 refine qae [0,1,2,3] kz ?_
 refine qaj [0,1] [2,3] [(0,.p 3 0),(2,.v (.iface 67 (.pointer (some ⟨ac,0,none⟩)))),(3,.v (.int .i32 num)),(9,.v (.int .i16 23)),(10,.v (.int .i16 (IntKind.i16.wrap v))),(22,.v (.slice bB ((([]:Bs) ++ [by8 0,by8 0,by8 0,by8 0] ++ be 2 23).length) bC)),(23,.v (.int .i16 (IntKind.i16.wrap v)))] b8 jv fun qs jw=>?_
 refine qam (qal jw (f:=132) (vs:=[.slice bB ((([]:Bs) ++ [by8 0,by8 0,by8 0,by8 0] ++ be 2 23).length) bC,.int .i16 (IntKind.i16.wrap v)]) (d:=24) kz Tryz.call132 (qcn bB bC (([]:Bs) ++ [by8 0,by8 0,by8 0,by8 0] ++ be 2 23) (IntKind.i16.wrap v) _ (b8.own 0 _ rfl) (by first | omega | (simp only [List.length_append,List.length_cons,List.length_nil,be_length,qbN]; omega) | (simp; omega))) ?_)
 rintro e_ qt ⟨bD,bE,rfl,jx,dv,dw⟩
 refine ⟨_,rfl,fun qu jy=>?_⟩
 have ce:WOk _ _ _ _ [brow bD bE 5 (([]:Bs) ++ [by8 0,by8 0,by8 0,by8 0] ++ be 2 23 ++ be 2 (IntKind.i16.wrap v))]:=b8.grow (k:=0) rfl dv jx dw
 have cg:Fr _ [⟨b1,0,[.bool has,.string txt],true⟩,⟨ac,0,[.int .i16 (IntKind.i16.wrap v),.int .i32 ((aa.f 0).n),.slice ((aa.f 1).A) ((aa.f 1).l) ((aa.f 1).c),.map aa.m],true⟩,⟨af,0,[.bool has,.string txt],true⟩,⟨ae,0,[.pointer none],true⟩] [brow bB bC 5 (([]:Bs) ++ [by8 0,by8 0,by8 0,by8 0] ++ be 2 23)] _ [⟨b1,0,[.bool has,.string txt],true⟩,⟨ac,0,[.int .i16 (IntKind.i16.wrap v),.int .i32 ((aa.f 0).n),.slice ((aa.f 1).A) ((aa.f 1).l) ((aa.f 1).c),.map aa.m],true⟩,⟨af,0,[.bool has,.string txt],true⟩,⟨ae,0,[.pointer none],true⟩] [brow bD bE 5 (([]:Bs) ++ [by8 0,by8 0,by8 0,by8 0] ++ be 2 23 ++ be 2 (IntKind.i16.wrap v))]:=Fr.grow _ (k:=0) (r':=(brow bD bE 5 (([]:Bs) ++ [by8 0,by8 0,by8 0,by8 0] ++ be 2 23 ++ be 2 (IntKind.i16.wrap v)))) rfl dv dw
 refine qaj [3] [] [(0,.p 3 0),(1,.v (.slice bD ((([]:Bs) ++ [by8 0,by8 0,by8 0,by8 0] ++ be 2 23 ++ be 2 (IntKind.i16.wrap v)).length) bE)),(2,.v (.iface 67 (.pointer (some ⟨ac,0,none⟩)))),(3,.v (.int .i32 num)),(9,.v (.int .i16 23)),(10,.v (.int .i16 (IntKind.i16.wrap v)))] ce jy fun qv jz=>?_
 refine qaf (qab ?_)
 refine qae [0,1,2,3] kz ?_
 refine qaj [0,1] [2,3] [(0,.p 3 0),(2,.v (.iface 67 (.pointer (some ⟨ac,0,none⟩)))),(9,.v (.int .i16 23)),(10,.v (.int .i16 (IntKind.i16.wrap v))),(25,.v (.slice bD ((([]:Bs) ++ [by8 0,by8 0,by8 0,by8 0] ++ be 2 23 ++ be 2 (IntKind.i16.wrap v)).length) bE)),(26,.v (.int .i32 num))] ce jz fun qw jA=>?_
 refine qam (qal jA (f:=133) (vs:=[.slice bD ((([]:Bs) ++ [by8 0,by8 0,by8 0,by8 0] ++ be 2 23 ++ be 2 (IntKind.i16.wrap v)).length) bE,.int .i32 num]) (d:=27) kz Tryz.call133 (qb6 bD bE (([]:Bs) ++ [by8 0,by8 0,by8 0,by8 0] ++ be 2 23 ++ be 2 (IntKind.i16.wrap v)) num _ (ce.own 0 _ rfl) (by first | omega | (simp only [List.length_append,List.length_cons,List.length_nil,be_length,qbN]; omega) | (simp; omega))) ?_)
 rintro e_ qx ⟨aN,aO,rfl,jB,dx,dy⟩
 refine ⟨_,rfl,fun qy jC=>?_⟩
 have aV:WOk _ _ _ _ [brow aN aO 5 (([]:Bs) ++ [by8 0,by8 0,by8 0,by8 0] ++ be 2 23 ++ be 2 (IntKind.i16.wrap v) ++ be 4 num)]:=ce.grow (k:=0) rfl dx jB dy
 have cm:Fr _ [⟨b1,0,[.bool has,.string txt],true⟩,⟨ac,0,[.int .i16 (IntKind.i16.wrap v),.int .i32 ((aa.f 0).n),.slice ((aa.f 1).A) ((aa.f 1).l) ((aa.f 1).c),.map aa.m],true⟩,⟨af,0,[.bool has,.string txt],true⟩,⟨ae,0,[.pointer none],true⟩] [brow bD bE 5 (([]:Bs) ++ [by8 0,by8 0,by8 0,by8 0] ++ be 2 23 ++ be 2 (IntKind.i16.wrap v))] _ [⟨b1,0,[.bool has,.string txt],true⟩,⟨ac,0,[.int .i16 (IntKind.i16.wrap v),.int .i32 ((aa.f 0).n),.slice ((aa.f 1).A) ((aa.f 1).l) ((aa.f 1).c),.map aa.m],true⟩,⟨af,0,[.bool has,.string txt],true⟩,⟨ae,0,[.pointer none],true⟩] [brow aN aO 5 (([]:Bs) ++ [by8 0,by8 0,by8 0,by8 0] ++ be 2 23 ++ be 2 (IntKind.i16.wrap v) ++ be 4 num)]:=Fr.grow _ (k:=0) (r':=(brow aN aO 5 (([]:Bs) ++ [by8 0,by8 0,by8 0,by8 0] ++ be 2 23 ++ be 2 (IntKind.i16.wrap v) ++ be 4 num))) rfl dx dy
 refine qaj [3] [] [(0,.p 3 0),(1,.v (.slice aN ((([]:Bs) ++ [by8 0,by8 0,by8 0,by8 0] ++ be 2 23 ++ be 2 (IntKind.i16.wrap v) ++ be 4 num).length) aO)),(2,.v (.iface 67 (.pointer (some ⟨ac,0,none⟩)))),(9,.v (.int .i16 23)),(10,.v (.int .i16 (IntKind.i16.wrap v)))] aV jC fun qz jD=>?_
 refine qaf (qab ?_)
 refine wp_seq ?_
 refine qas [(0,.p 3 0),(1,.v (.slice aN ((([]:Bs) ++ [by8 0,by8 0,by8 0,by8 0] ++ be 2 23 ++ be 2 (IntKind.i16.wrap v) ++ be 4 num).length) aO)),(2,.v (.iface 67 (.pointer (some ⟨ac,0,none⟩)))),(33,.v (.bool false))] aV jD fun qA dz=>?_
 refine qat dz (b:=false) kz rfl ?_
 refine wp_skip ?_
 refine qab ?_
 refine qae [0,1,2,3,4,5,6] kz ?_
 refine qaj [0,1,2,3,4] [5,6] [(2,.v (.iface 67 (.pointer (some ⟨ac,0,none⟩)))),(35,.v (.slice aN ((([]:Bs) ++ [by8 0,by8 0,by8 0,by8 0] ++ be 2 23 ++ be 2 (IntKind.i16.wrap v) ++ be 4 num).length) aO)),(39,.v (.pointer none))] aV dz fun qB jE=>?_
 refine qam (qa6 jE (f:=134) (vs:=[.slice aN ((([]:Bs) ++ [by8 0,by8 0,by8 0,by8 0] ++ be 2 23 ++ be 2 (IntKind.i16.wrap v) ++ be 4 num).length) aO,.pointer none]) (d:=40) (n':=14) kz Tryz.call134 Tryz.func134 rfl Tryz.ntmps134 kz fun qC jF=>?_)
 refine qas [(0,.v (.slice aN ((([]:Bs) ++ [by8 0,by8 0,by8 0,by8 0] ++ be 2 23 ++ be 2 (IntKind.i16.wrap v) ++ be 4 num).length) aO)),(1,.v (.pointer none))] aV jF fun qD jG=>?_
 refine wp_seq ?_
 refine qas [(0,.v (.slice aN ((([]:Bs) ++ [by8 0,by8 0,by8 0,by8 0] ++ be 2 23 ++ be 2 (IntKind.i16.wrap v) ++ be 4 num).length) aO)),(1,.v (.pointer none)),(6,.v (.bool true))] aV jG fun qE dA=>?_
 refine qbK dA (b:=true) kz rfl ?_
 refine qae [0,1,2] kz ?_
 refine qaj [0] [1,2] [(7,.v (.slice aN ((([]:Bs) ++ [by8 0,by8 0,by8 0,by8 0] ++ be 2 23 ++ be 2 (IntKind.i16.wrap v) ++ be 4 num).length) aO))] aV dA fun qF jH=>?_
 refine qam (qal jH (f:=132) (vs:=[.slice aN ((([]:Bs) ++ [by8 0,by8 0,by8 0,by8 0] ++ be 2 23 ++ be 2 (IntKind.i16.wrap v) ++ be 4 num).length) aO,.int .i16 (-1)]) (d:=8) kz Tryz.call132 (qcn aN aO (([]:Bs) ++ [by8 0,by8 0,by8 0,by8 0] ++ be 2 23 ++ be 2 (IntKind.i16.wrap v) ++ be 4 num) (-1) _ (aV.own 0 _ rfl) (by first | omega | (simp only [List.length_append,List.length_cons,List.length_nil,be_length,qbN]; omega) | (simp; omega))) ?_)
 rintro e_ qG ⟨aB,aC,rfl,jI,dB,dC⟩
 refine ⟨_,rfl,fun qH jJ=>?_⟩
 have az:WOk _ _ _ _ [brow aB aC 5 (([]:Bs) ++ [by8 0,by8 0,by8 0,by8 0] ++ be 2 23 ++ be 2 (IntKind.i16.wrap v) ++ be 4 num ++ be 2 (-1))]:=aV.grow (k:=0) rfl dB jI dC
 have cq:Fr _ [⟨b1,0,[.bool has,.string txt],true⟩,⟨ac,0,[.int .i16 (IntKind.i16.wrap v),.int .i32 ((aa.f 0).n),.slice ((aa.f 1).A) ((aa.f 1).l) ((aa.f 1).c),.map aa.m],true⟩,⟨af,0,[.bool has,.string txt],true⟩,⟨ae,0,[.pointer none],true⟩] [brow aN aO 5 (([]:Bs) ++ [by8 0,by8 0,by8 0,by8 0] ++ be 2 23 ++ be 2 (IntKind.i16.wrap v) ++ be 4 num)] _ [⟨b1,0,[.bool has,.string txt],true⟩,⟨ac,0,[.int .i16 (IntKind.i16.wrap v),.int .i32 ((aa.f 0).n),.slice ((aa.f 1).A) ((aa.f 1).l) ((aa.f 1).c),.map aa.m],true⟩,⟨af,0,[.bool has,.string txt],true⟩,⟨ae,0,[.pointer none],true⟩] [brow aB aC 5 (([]:Bs) ++ [by8 0,by8 0,by8 0,by8 0] ++ be 2 23 ++ be 2 (IntKind.i16.wrap v) ++ be 4 num ++ be 2 (-1))]:=Fr.grow _ (k:=0) (r':=(brow aB aC 5 (([]:Bs) ++ [by8 0,by8 0,by8 0,by8 0] ++ be 2 23 ++ be 2 (IntKind.i16.wrap v) ++ be 4 num ++ be 2 (-1)))) rfl dB dC
 refine qaj [2] [] [(4,.v (.slice aB ((([]:Bs) ++ [by8 0,by8 0,by8 0,by8 0] ++ be 2 23 ++ be 2 (IntKind.i16.wrap v) ++ be 4 num ++ be 2 (-1)).length) aC))] az jJ fun qI jK=>?_
 refine qaf (qab ?_)
 refine wp_ret ?_
 refine qaD ?_
 refine qaE jK az.cells (v:=.slice aB ((([]:Bs) ++ [by8 0,by8 0,by8 0,by8 0] ++ be 2 23 ++ be 2 (IntKind.i16.wrap v) ++ be 4 num ++ be 2 (-1)).length) aC) kz ?_
 refine ⟨_,rfl,fun qJ jL=>?_⟩
 have jM:=(EnvOk.places (tb':=[⟨b1,0,[.bool has,.string txt],true⟩,⟨ac,0,[.int .i16 (IntKind.i16.wrap v),.int .i32 ((aa.f 0).n),.slice ((aa.f 1).A) ((aa.f 1).l) ((aa.f 1).c),.map aa.m],true⟩,⟨af,0,[.bool has,.string txt],true⟩,⟨ae,0,[.pointer none],true⟩]) jL (show Pl [⟨b1,0,[.bool has,.string txt],true⟩,⟨ac,0,[.int .i16 (IntKind.i16.wrap v),.int .i32 ((aa.f 0).n),.slice ((aa.f 1).A) ((aa.f 1).l) ((aa.f 1).c),.map aa.m],true⟩,⟨af,0,[.bool has,.string txt],true⟩,⟨ae,0,[.pointer none],true⟩] [⟨b1,0,[.bool has,.string txt],true⟩,⟨ac,0,[.int .i16 (IntKind.i16.wrap v),.int .i32 ((aa.f 0).n),.slice ((aa.f 1).A) ((aa.f 1).l) ((aa.f 1).c),.map aa.m],true⟩,⟨af,0,[.bool has,.string txt],true⟩,⟨ae,0,[.pointer none],true⟩] from ⟨rfl,rfl,⟨rfl,rfl,⟨rfl,rfl,⟨rfl,rfl,trivial⟩⟩⟩⟩)).pk (env':=[(40,.v (.slice aB ((([]:Bs) ++ [by8 0,by8 0,by8 0,by8 0] ++ be 2 23 ++ be 2 (IntKind.i16.wrap v) ++ be 4 num ++ be 2 (-1)).length) aC)),(2,.v (.iface 67 (.pointer (some ⟨ac,0,none⟩)))),(35,.v (.slice aN ((([]:Bs) ++ [by8 0,by8 0,by8 0,by8 0] ++ be 2 23 ++ be 2 (IntKind.i16.wrap v) ++ be 4 num).length) aO)),(39,.v (.pointer none))])
 refine qaj [6] [] [(1,.v (.slice aB ((([]:Bs) ++ [by8 0,by8 0,by8 0,by8 0] ++ be 2 23 ++ be 2 (IntKind.i16.wrap v) ++ be 4 num ++ be 2 (-1)).length) aC)),(2,.v (.iface 67 (.pointer (some ⟨ac,0,none⟩))))] az jM fun qK jN=>?_
 refine qaf (qab ?_)
 refine wp_seq ?_
 refine qae [0,1] kz ?_
 refine qaj [0] [1] [(1,.v (.slice aB ((([]:Bs) ++ [by8 0,by8 0,by8 0,by8 0] ++ be 2 23 ++ be 2 (IntKind.i16.wrap v) ++ be 4 num ++ be 2 (-1)).length) aC)),(2,.v (.iface 67 (.pointer (some ⟨ac,0,none⟩)))),(41,.v (.iface 67 (.pointer (some ⟨ac,0,none⟩))))] az jN fun qL jO=>?_
 refine qam (qb9 jO (t := 67) (v := (.pointer (some ⟨ac, 0, none⟩))) (v' := (.pointer (some ⟨ac, 0, none⟩))) (name := "IsFlexible") (f := 247) (vs := []) (d := 42) (n' := 8) kz (fun _ => by kernel_rfl) Tryz.call247 Tryz.func247 rfl Tryz.ntmps247 kz fun qM jP => ?_)
 have jQ:=jP.recast 0 (.v (.pointer (some ⟨ac,0,none⟩))) (.p 1 0) rfl rfl (Nat.le_of_ble_eq_true (n:=2) rfl)
 refine qas [(0,.p 1 0)] az jQ fun qN jR=>?_
 refine qas [(2,.v (.bool (decide ((IntKind.i16.wrap v) ≥ 4))))] az jR fun qO jS=>?_
 refine wp_ret ?_
 refine qaE jS az.cells (v:=.bool (decide ((IntKind.i16.wrap v) ≥ 4))) kz ?_
 refine ⟨_,rfl,fun qP jT=>?_⟩
 have cG:=(EnvOk.places (tb':=[⟨b1,0,[.bool has,.string txt],true⟩,⟨ac,0,[.int .i16 (IntKind.i16.wrap v),.int .i32 ((aa.f 0).n),.slice ((aa.f 1).A) ((aa.f 1).l) ((aa.f 1).c),.map aa.m],true⟩,⟨af,0,[.bool has,.string txt],true⟩,⟨ae,0,[.pointer none],true⟩]) jT (show Pl [⟨b1,0,[.bool has,.string txt],true⟩,⟨ac,0,[.int .i16 (IntKind.i16.wrap v),.int .i32 ((aa.f 0).n),.slice ((aa.f 1).A) ((aa.f 1).l) ((aa.f 1).c),.map aa.m],true⟩,⟨af,0,[.bool has,.string txt],true⟩,⟨ae,0,[.pointer none],true⟩] [⟨b1,0,[.bool has,.string txt],true⟩,⟨ac,0,[.int .i16 (IntKind.i16.wrap v),.int .i32 ((aa.f 0).n),.slice ((aa.f 1).A) ((aa.f 1).l) ((aa.f 1).c),.map aa.m],true⟩,⟨af,0,[.bool has,.string txt],true⟩,⟨ae,0,[.pointer none],true⟩] from ⟨rfl,rfl,⟨rfl,rfl,⟨rfl,rfl,⟨rfl,rfl,trivial⟩⟩⟩⟩)).pk (env':=[(42,.v (.bool (decide ((IntKind.i16.wrap v) ≥ 4)))),(1,.v (.slice aB ((([]:Bs) ++ [by8 0,by8 0,by8 0,by8 0] ++ be 2 23 ++ be 2 (IntKind.i16.wrap v) ++ be 4 num ++ be 2 (-1)).length) aC)),(2,.v (.iface 67 (.pointer (some ⟨ac,0,none⟩)))),(41,.v (.iface 67 (.pointer (some ⟨ac,0,none⟩))))])
 refine qaf (qab ?_)
 refine qay cG (b:=decide ((IntKind.i16.wrap v) ≥ 4)) kz (fun bk=>?_) (fun bk=>?_)
 ·
  have my:=of_decide_eq_true bk
  refine qas [(1,.v (.slice aB ((([]:Bs) ++ [by8 0,by8 0,by8 0,by8 0] ++ be 2 23 ++ be 2 (IntKind.i16.wrap v) ++ be 4 num ++ be 2 (-1)).length) aC)),(2,.v (.iface 67 (.pointer (some ⟨ac,0,none⟩)))),(11,.v (.int .u8 0))] az cG fun qQ jU=>?_
  refine qae [0,1,2,3,4] kz ?_
  refine qaj [0,1] [2,3,4] [(2,.v (.iface 67 (.pointer (some ⟨ac,0,none⟩)))),(11,.v (.int .u8 0)),(43,.v (.slice aB ((([]:Bs) ++ [by8 0,by8 0,by8 0,by8 0] ++ be 2 23 ++ be 2 (IntKind.i16.wrap v) ++ be 4 num ++ be 2 (-1)).length) aC)),(44,.v (.int .u8 0))] az jU fun qR jV=>?_
  refine qbq az jV (k:=0) (e:=5) (size:=1) (len:=1) (cs:=[.int .u8 0]) (d1:=45) (d:=46) kz (t:=24) (bytes:=1) kz (fun _=>by kernel_rfl) rfl kz (by first | omega | (simp only [List.length_append,List.length_cons,List.length_nil,be_length,qbN]; omega) | (simp; omega)) fun bn bo qS qT dD jW ⟨_,jX⟩=>?_
  have jY:(⟨bn,bo,5,1,(([]:Bs) ++ [by8 0,by8 0,by8 0,by8 0] ++ be 2 23 ++ be 2 (IntKind.i16.wrap v) ++ be 4 num ++ be 2 (-1)).length + 1,bc (([]:Bs) ++ [by8 0,by8 0,by8 0,by8 0] ++ be 2 23 ++ be 2 (IntKind.i16.wrap v) ++ be 4 num ++ be 2 (-1)) ++ [.int .u8 0]⟩:Rw) = brow bn bo 5 (([]:Bs) ++ [by8 0,by8 0,by8 0,by8 0] ++ be 2 23 ++ be 2 (IntKind.i16.wrap v) ++ be 4 num ++ be 2 (-1) ++ [by8 0]):=qa4 (by simp only [bc,List.map,qbH]; try rfl) rfl
  obtain ⟨bu,dE⟩:=jW.rowEq 0 [brow bn bo 5 (([]:Bs) ++ [by8 0,by8 0,by8 0,by8 0] ++ be 2 23 ++ be 2 (IntKind.i16.wrap v) ++ be 4 num ++ be 2 (-1) ++ [by8 0])] jY
  have jZ:=EnvOk.pick jX (ks:=[2,11,43,44,46]) (env':=[(2,.v (.iface 67 (.pointer (some ⟨ac,0,none⟩)))),(11,.v (.int .u8 0)),(43,.v (.slice aB ((([]:Bs) ++ [by8 0,by8 0,by8 0,by8 0] ++ be 2 23 ++ be 2 (IntKind.i16.wrap v) ++ be 4 num ++ be 2 (-1)).length) aC)),(44,.v (.int .u8 0)),(46,.v (.slice bn ((([]:Bs) ++ [by8 0,by8 0,by8 0,by8 0] ++ be 2 23 ++ be 2 (IntKind.i16.wrap v) ++ be 4 num ++ be 2 (-1)).length + 1) bo))]) kz
  have j0:=jZ.cast (env':=[(2,.v (.iface 67 (.pointer (some ⟨ac,0,none⟩)))),(11,.v (.int .u8 0)),(43,.v (.slice aB ((([]:Bs) ++ [by8 0,by8 0,by8 0,by8 0] ++ be 2 23 ++ be 2 (IntKind.i16.wrap v) ++ be 4 num ++ be 2 (-1)).length) aC)),(44,.v (.int .u8 0)),(46,.v (.slice bn ((([]:Bs) ++ [by8 0,by8 0,by8 0,by8 0] ++ be 2 23 ++ be 2 (IntKind.i16.wrap v) ++ be 4 num ++ be 2 (-1) ++ [by8 0]).length) bo))]) (by simp only [List.length_append,List.length_cons,List.length_nil,Nat.zero_add])
  refine qaj [4] [] [(1,.v (.slice bn ((([]:Bs) ++ [by8 0,by8 0,by8 0,by8 0] ++ be 2 23 ++ be 2 (IntKind.i16.wrap v) ++ be 4 num ++ be 2 (-1) ++ [by8 0]).length) bo)),(2,.v (.iface 67 (.pointer (some ⟨ac,0,none⟩)))),(11,.v (.int .u8 0))] bu j0 fun qU j1=>?_
  refine qaf (qab ?_)
  refine qas [(1,.v (.slice bn ((([]:Bs) ++ [by8 0,by8 0,by8 0,by8 0] ++ be 2 23 ++ be 2 (IntKind.i16.wrap v) ++ be 4 num ++ be 2 (-1) ++ [by8 0]).length) bo)),(2,.v (.iface 67 (.pointer (some ⟨ac,0,none⟩)))),(48,.v (.bool false))] bu j1 fun qV dF=>?_
  refine qat dF (b:=false) kz rfl ?_
  refine wp_skip ?_
  refine qab ?_
  refine qae [0,1,2,3] kz ?_
  refine qaj [0,1] [2,3] [(49,.v (.iface 67 (.pointer (some ⟨ac,0,none⟩)))),(50,.v (.slice bn ((([]:Bs) ++ [by8 0,by8 0,by8 0,by8 0] ++ be 2 23 ++ be 2 (IntKind.i16.wrap v) ++ be 4 num ++ be 2 (-1) ++ [by8 0]).length) bo))] bu dF fun qW j2=>?_
  have j3:=(qaJ _ ((((((((((aP.trans aQ).trans bX).trans bY).trans bZ).trans cd).trans cg).trans cm).trans cq).trans dD).trans dE).step immM ((((((((((aP.trans aQ).trans bX).trans bY).trans bZ).trans cd).trans cg).trans cm).trans cq).trans dD).trans dE).to' cJ)
  have dW:=bu.strImm (G:=F) 1 rfl
  have hk_:=qaJ _ (Step.refl _ Nil) nilM (fun b o h_ _=>qf9 h_) j3
  refine qam (qcX j2 (t := 67) (v := (.pointer (some ⟨ac, 0, none⟩))) (v' := (.pointer (some ⟨ac, 0, none⟩))) (name := "AppendTo") (f := 245) (vs := [.slice bn ((([] : Bs) ++ [by8 0, by8 0, by8 0, by8 0] ++ be 2 23 ++ be 2 (IntKind.i16.wrap v) ++ be 4 num ++ be 2 (-1) ++ [by8 0]).length) bo]) (d := 51) kz (fun _ => by kernel_rfl) Tryz.call245 (qbl (IntKind.i16.wrap v) aa ac 0 bn bo (([] : Bs) ++ [by8 0, by8 0, by8 0, by8 0] ++ be 2 23 ++ be 2 (IntKind.i16.wrap v) ++ be 4 num ++ be 2 (-1) ++ [by8 0]) _ _ dW hk_ (qf7 0 rfl) (bu.own 0 _ rfl) (by first | omega | (simp only [List.length_append, List.length_cons, List.length_nil, be_length, qbN]; omega) | (simp; omega))) ?_)
  rintro e_ qX ⟨am,ao,rfl,j4,dG,dH⟩
  refine ⟨_,rfl,fun qY j5=>?_⟩
  have dI:WOk _ _ _ _ [brow am ao 5 ((([]:Bs) ++ [by8 0,by8 0,by8 0,by8 0] ++ be 2 23 ++ be 2 (IntKind.i16.wrap v) ++ be 4 num ++ be 2 (-1) ++ [by8 0]) ++ qaa (IntKind.i16.wrap v) aa)]:=bu.grow (k:=0) rfl dG j4 dH
  have mz:=Fr.grow [⟨b1,0,[.bool has,.string txt],true⟩,⟨ac,0,[.int .i16 (IntKind.i16.wrap v),.int .i32 ((aa.f 0).n),.slice ((aa.f 1).A) ((aa.f 1).l) ((aa.f 1).c),.map aa.m],true⟩,⟨af,0,[.bool has,.string txt],true⟩,⟨ae,0,[.pointer none],true⟩] (k:=0) (rs:=[brow bn bo 5 (([]:Bs) ++ [by8 0,by8 0,by8 0,by8 0] ++ be 2 23 ++ be 2 (IntKind.i16.wrap v) ++ be 4 num ++ be 2 (-1) ++ [by8 0])]) (r':=(brow am ao 5 ((([]:Bs) ++ [by8 0,by8 0,by8 0,by8 0] ++ be 2 23 ++ be 2 (IntKind.i16.wrap v) ++ be 4 num ++ be 2 (-1) ++ [by8 0]) ++ qaa (IntKind.i16.wrap v) aa))) rfl dG dH
  refine qaj [3] [] [(1,.v (.slice am (((([]:Bs) ++ [by8 0,by8 0,by8 0,by8 0] ++ be 2 23 ++ be 2 (IntKind.i16.wrap v) ++ be 4 num ++ be 2 (-1) ++ [by8 0]) ++ qaa (IntKind.i16.wrap v) aa).length) ao))] dI j5 fun qZ j6=>?_
  refine qaf (qab ?_)
  refine qbk 7 kz dI fun q0 mA cr bp=>?_
  refine qa5 [0,2] [(1,.v (.slice am (((([]:Bs) ++ [by8 0,by8 0,by8 0,by8 0] ++ be 2 23 ++ be 2 (IntKind.i16.wrap v) ++ be 4 num ++ be 2 (-1) ++ [by8 0]) ++ qaa (IntKind.i16.wrap v) aa).length) ao)),(52,.v (.slice am (((([]:Bs) ++ [by8 0,by8 0,by8 0,by8 0] ++ be 2 23 ++ be 2 (IntKind.i16.wrap v) ++ be 4 num ++ be 2 (-1) ++ [by8 0]) ++ qaa (IntKind.i16.wrap v) aa).length) ao)),(54,.v (.slice am (((([]:Bs) ++ [by8 0,by8 0,by8 0,by8 0] ++ be 2 23 ++ be 2 (IntKind.i16.wrap v) ++ be 4 num ++ be 2 (-1) ++ [by8 0]) ++ qaa (IntKind.i16.wrap v) aa).length) ao))] 5 (qac qai) (fun _ h=>h.cells) bp j6 fun q4 dJ=>?_
  refine qeC (i:=1) (j:=3) kz ?_ ?_
  ·
   refine (qbx dJ (t:=24) (A:=am) (m:=((([]:Bs) ++ [by8 0,by8 0,by8 0,by8 0] ++ be 2 23 ++ be 2 (IntKind.i16.wrap v) ++ be 4 num ++ be 2 (-1) ++ [by8 0]) ++ qaa (IntKind.i16.wrap v) aa).length) (cp:=ao) (q:=0) (d:=53) (j:=0) kz (e:=5) (size:=1) (bytes:=1) kz (rfl) (by omega) fun q5 j7=>?_)
   refine ⟨fun _=>bp,?_⟩
   refine qaO (i:=3) kz (qby j7 (t:=24) (A:=am) (m:=(((([]:Bs) ++ [by8 0,by8 0,by8 0,by8 0] ++ be 2 23 ++ be 2 (IntKind.i16.wrap v) ++ be 4 num ++ be 2 (-1) ++ [by8 0]) ++ qaa (IntKind.i16.wrap v) aa).length)) (cp:=ao) (q:=4) (d:=55) (j:=4) kz (e:=5) (bytes:=1) kz (rfl) (by first | omega | (simp only [List.length_append,List.length_cons,List.length_nil]; omega)) fun q6 j8=>?_)
   refine ⟨fun _=>bp,?_⟩
   refine qa5 [4,5] [(1,.v (.slice am (((([]:Bs) ++ [by8 0,by8 0,by8 0,by8 0] ++ be 2 23 ++ be 2 (IntKind.i16.wrap v) ++ be 4 num ++ be 2 (-1) ++ [by8 0]) ++ qaa (IntKind.i16.wrap v) aa).length) ao)),(53,.v (.slice am 0 ao)),(57,.v (.int .i32 (IntKind.i32.wrap (((((([]:Bs) ++ [by8 0,by8 0,by8 0,by8 0] ++ be 2 23 ++ be 2 (IntKind.i16.wrap v) ++ be 4 num ++ be 2 (-1) ++ [by8 0]) ++ qaa (IntKind.i16.wrap v) aa).length) - 4:Nat):Int))))] 1 (qac qai) (fun _ h=>h.cells) bp j8 fun q7 j9=>?_
   refine qaO (i:=6) kz (qal j9 (f:=133) (vs:=[.slice am 0 ao,.int .i32 (IntKind.i32.wrap (((((([]:Bs) ++ [by8 0,by8 0,by8 0,by8 0] ++ be 2 23 ++ be 2 (IntKind.i16.wrap v) ++ be 4 num ++ be 2 (-1) ++ [by8 0]) ++ qaa (IntKind.i16.wrap v) aa).length) - 4:Nat):Int))]) (d:=58) kz Tryz.call133 (qbB (IntKind.i32.wrap (((((([]:Bs) ++ [by8 0,by8 0,by8 0,by8 0] ++ be 2 23 ++ be 2 (IntKind.i16.wrap v) ++ be 4 num ++ be 2 (-1) ++ [by8 0]) ++ qaa (IntKind.i16.wrap v) aa).length) - 4:Nat):Int)) am ao ((([]:Bs) ++ [by8 0,by8 0,by8 0,by8 0] ++ be 2 23 ++ be 2 (IntKind.i16.wrap v) ++ be 4 num ++ be 2 (-1) ++ [by8 0]) ++ qaa (IntKind.i16.wrap v) aa) _ (cr.own 0 _ rfl) (by simp only [List.length_append,List.length_cons,List.length_nil]; omega)) ?_)
   rintro e_ q8 ⟨rfl,ka,dK⟩
   refine ⟨_,rfl,fun q9 kd=>?_⟩
   have aW:WOk _ _ _ _ [⟨am,ao,5,1,((([]:Bs) ++ [by8 0,by8 0,by8 0,by8 0] ++ be 2 23 ++ be 2 (IntKind.i16.wrap v) ++ be 4 num ++ be 2 (-1) ++ [by8 0]) ++ qaa (IntKind.i16.wrap v) aa).length,bc (be 4 (IntKind.i32.wrap (((((([]:Bs) ++ [by8 0,by8 0,by8 0,by8 0] ++ be 2 23 ++ be 2 (IntKind.i16.wrap v) ++ be 4 num ++ be 2 (-1) ++ [by8 0]) ++ qaa (IntKind.i16.wrap v) aa).length) - 4:Nat):Int)) ++ ((([]:Bs) ++ [by8 0,by8 0,by8 0,by8 0] ++ be 2 23 ++ be 2 (IntKind.i16.wrap v) ++ be 4 num ++ be 2 (-1) ++ [by8 0]) ++ qaa (IntKind.i16.wrap v) aa).drop 4)⟩]:=cr.grow (k:=0) (r':=⟨am,ao,5,1,((([]:Bs) ++ [by8 0,by8 0,by8 0,by8 0] ++ be 2 23 ++ be 2 (IntKind.i16.wrap v) ++ be 4 num ++ be 2 (-1) ++ [by8 0]) ++ qaa (IntKind.i16.wrap v) aa).length,bc (be 4 (IntKind.i32.wrap (((((([]:Bs) ++ [by8 0,by8 0,by8 0,by8 0] ++ be 2 23 ++ be 2 (IntKind.i16.wrap v) ++ be 4 num ++ be 2 (-1) ++ [by8 0]) ++ qaa (IntKind.i16.wrap v) aa).length) - 4:Nat):Int)) ++ ((([]:Bs) ++ [by8 0,by8 0,by8 0,by8 0] ++ be 2 23 ++ be 2 (IntKind.i16.wrap v) ++ be 4 num ++ be 2 (-1) ++ [by8 0]) ++ qaa (IntKind.i16.wrap v) aa).drop 4)⟩) rfl dK ka (fun g' hg'=>.inl hg')
   have ke:=Fr.grow [⟨b1,0,[.bool has,.string txt],true⟩,⟨ac,0,[.int .i16 (IntKind.i16.wrap v),.int .i32 ((aa.f 0).n),.slice ((aa.f 1).A) ((aa.f 1).l) ((aa.f 1).c),.map aa.m],true⟩,⟨af,0,[.bool has,.string txt],true⟩,⟨ae,0,[.pointer none],true⟩] (k:=0) (rs:=[brow am ao 5 ((([]:Bs) ++ [by8 0,by8 0,by8 0,by8 0] ++ be 2 23 ++ be 2 (IntKind.i16.wrap v) ++ be 4 num ++ be 2 (-1) ++ [by8 0]) ++ qaa (IntKind.i16.wrap v) aa)]) (r':=⟨am,ao,5,1,((([]:Bs) ++ [by8 0,by8 0,by8 0,by8 0] ++ be 2 23 ++ be 2 (IntKind.i16.wrap v) ++ be 4 num ++ be 2 (-1) ++ [by8 0]) ++ qaa (IntKind.i16.wrap v) aa).length,bc (be 4 (IntKind.i32.wrap (((((([]:Bs) ++ [by8 0,by8 0,by8 0,by8 0] ++ be 2 23 ++ be 2 (IntKind.i16.wrap v) ++ be 4 num ++ be 2 (-1) ++ [by8 0]) ++ qaa (IntKind.i16.wrap v) aa).length) - 4:Nat):Int)) ++ ((([]:Bs) ++ [by8 0,by8 0,by8 0,by8 0] ++ be 2 23 ++ be 2 (IntKind.i16.wrap v) ++ be 4 num ++ be 2 (-1) ++ [by8 0]) ++ qaa (IntKind.i16.wrap v) aa).drop 4)⟩) rfl dK (fun g' hg'=>.inl hg')
   have kf:=TT.ofW ke aW
   refine ⟨fun _=>kf,?_⟩
   refine qaZ kz ?_ _
   refine qab ?_
   refine qas [(8,.v (.slice am (((([]:Bs) ++ [by8 0,by8 0,by8 0,by8 0] ++ be 2 23 ++ be 2 (IntKind.i16.wrap v) ++ be 4 num ++ be 2 (-1) ++ [by8 0]) ++ qaa (IntKind.i16.wrap v) aa).length) ao))] aW kd fun ra kg=>?_
   refine wp_ret ?_
   refine qaE kg aW.cells (v:=.slice am (((([]:Bs) ++ [by8 0,by8 0,by8 0,by8 0] ++ be 2 23 ++ be 2 (IntKind.i16.wrap v) ++ be 4 num ++ be 2 (-1) ++ [by8 0]) ++ qaa (IntKind.i16.wrap v) aa).length) ao) kz ?_
   refine ⟨_,rfl,fun rb kh=>?_⟩
   have ki:=(EnvOk.places (tb':=[⟨b1,0,[.bool has,.string txt],true⟩,⟨ac,0,[.int .i16 (IntKind.i16.wrap v),.int .i32 ((aa.f 0).n),.slice ((aa.f 1).A) ((aa.f 1).l) ((aa.f 1).c),.map aa.m],true⟩,⟨af,0,[.bool has,.string txt],true⟩,⟨ae,0,[.pointer none],true⟩]) kh (show Pl [⟨b1,0,[.bool has,.string txt],true⟩,⟨ac,0,[.int .i16 (IntKind.i16.wrap v),.int .i32 ((aa.f 0).n),.slice ((aa.f 1).A) ((aa.f 1).l) ((aa.f 1).c),.map aa.m],true⟩,⟨af,0,[.bool has,.string txt],true⟩,⟨ae,0,[.pointer none],true⟩] [⟨b1,0,[.bool has,.string txt],true⟩,⟨ac,0,[.int .i16 (IntKind.i16.wrap v),.int .i32 ((aa.f 0).n),.slice ((aa.f 1).A) ((aa.f 1).l) ((aa.f 1).c),.map aa.m],true⟩,⟨af,0,[.bool has,.string txt],true⟩,⟨ae,0,[.pointer none],true⟩] from ⟨rfl,rfl,⟨rfl,rfl,⟨rfl,rfl,⟨rfl,rfl,trivial⟩⟩⟩⟩)).pk (env':=[(19,.v (.slice am (((([]:Bs) ++ [by8 0,by8 0,by8 0,by8 0] ++ be 2 23 ++ be 2 (IntKind.i16.wrap v) ++ be 4 num ++ be 2 (-1) ++ [by8 0]) ++ qaa (IntKind.i16.wrap v) aa).length) ao)),(16,.p 3 0),(17,.v (.iface 67 (.pointer (some ⟨ac,0,none⟩)))),(18,.v (.int .i32 num))])
   refine qaj [4] [] [(6,.v (.slice am (((([]:Bs) ++ [by8 0,by8 0,by8 0,by8 0] ++ be 2 23 ++ be 2 (IntKind.i16.wrap v) ++ be 4 num ++ be 2 (-1) ++ [by8 0]) ++ qaa (IntKind.i16.wrap v) aa).length) ao))] aW ki fun rc kj=>?_
   refine qaf (qab ?_)
   refine wp_ret ?_
   refine qaE kj aW.cells (v:=.slice am (((([]:Bs) ++ [by8 0,by8 0,by8 0,by8 0] ++ be 2 23 ++ be 2 (IntKind.i16.wrap v) ++ be 4 num ++ be 2 (-1) ++ [by8 0]) ++ qaa (IntKind.i16.wrap v) aa).length) ao) kz ?_
   refine ⟨_,rfl,fun re km=>?_⟩
   have ko:=(EnvOk.places (tb':=[⟨b1,0,[.bool has,.string txt],true⟩,⟨ac,0,[.int .i16 (IntKind.i16.wrap v),.int .i32 ((aa.f 0).n),.slice ((aa.f 1).A) ((aa.f 1).l) ((aa.f 1).c),.map aa.m],true⟩,⟨af,0,[.bool has,.string txt],true⟩,⟨ae,0,[.pointer none],true⟩]) km (show Pl [⟨b1,0,[.bool has,.string txt],true⟩,⟨ac,0,[.int .i16 (IntKind.i16.wrap v),.int .i32 ((aa.f 0).n),.slice ((aa.f 1).A) ((aa.f 1).l) ((aa.f 1).c),.map aa.m],true⟩] [⟨b1,0,[.bool has,.string txt],true⟩,⟨ac,0,[.int .i16 (IntKind.i16.wrap v),.int .i32 ((aa.f 0).n),.slice ((aa.f 1).A) ((aa.f 1).l) ((aa.f 1).c),.map aa.m],true⟩,⟨af,0,[.bool has,.string txt],true⟩,⟨ae,0,[.pointer none],true⟩] from ⟨rfl,rfl,⟨rfl,rfl,trivial⟩⟩)).pk (env':=[(25,.v (.slice am (((([]:Bs) ++ [by8 0,by8 0,by8 0,by8 0] ++ be 2 23 ++ be 2 (IntKind.i16.wrap v) ++ be 4 num ++ be 2 (-1) ++ [by8 0]) ++ qaa (IntKind.i16.wrap v) aa).length) ao)),(21,.v (.agg #[.bool has,.string txt])),(23,.v (.iface 67 (.pointer (some ⟨ac,0,none⟩)))),(24,.v (.int .i32 num))])
   refine qaj [5,6] [] [(8,.v (.slice am (((([]:Bs) ++ [by8 0,by8 0,by8 0,by8 0] ++ be 2 23 ++ be 2 (IntKind.i16.wrap v) ++ be 4 num ++ be 2 (-1) ++ [by8 0]) ++ qaa (IntKind.i16.wrap v) aa).length) ao)),(9,.v (.bool true))] aW ko fun rf kp=>?_
   refine qaf (qab ?_)
   refine wp_ret ?_
   refine qaE kp aW.cells (v:=.tuple #[.slice am (((([]:Bs) ++ [by8 0,by8 0,by8 0,by8 0] ++ be 2 23 ++ be 2 (IntKind.i16.wrap v) ++ be 4 num ++ be 2 (-1) ++ [by8 0]) ++ qaa (IntKind.i16.wrap v) aa).length) ao,.bool true]) kz ?_
   have kq:be 4 (IntKind.i32.wrap (((((([]:Bs) ++ [by8 0,by8 0,by8 0,by8 0] ++ be 2 23 ++ be 2 (IntKind.i16.wrap v) ++ be 4 num ++ be 2 (-1) ++ [by8 0]) ++ qaa (IntKind.i16.wrap v) aa).length) - 4:Nat):Int)) ++ ((([]:Bs) ++ [by8 0,by8 0,by8 0,by8 0] ++ be 2 23 ++ be 2 (IntKind.i16.wrap v) ++ be 4 num ++ be 2 (-1) ++ [by8 0]) ++ qaa (IntKind.i16.wrap v) aa).drop 4 = (qa7 23 (IntKind.i16.wrap v) num has (sb txt) (decide ((IntKind.i16.wrap v) ≥ 4)) (qaa (IntKind.i16.wrap v) aa)):=qcF (R:=outB 23 (IntKind.i16.wrap v) num has (sb txt) (decide ((IntKind.i16.wrap v) ≥ 4)) (qaa (IntKind.i16.wrap v) aa)) (by simp [outB,qdX,qbN,aJ,bk])
   exact qcG aW (k:=0) rfl (kq.trans (by rw [ba])) (by simp only [List.length_append,List.length_cons,List.length_nil]; omega)
  refine (qby dJ (t:=24) (A:=am) (m:=(((([]:Bs) ++ [by8 0,by8 0,by8 0,by8 0] ++ be 2 23 ++ be 2 (IntKind.i16.wrap v) ++ be 4 num ++ be 2 (-1) ++ [by8 0]) ++ qaa (IntKind.i16.wrap v) aa).length)) (cp:=ao) (q:=4) (d:=55) (j:=4) kz (e:=5) (bytes:=1) kz (rfl) (by first | omega | (simp only [List.length_append,List.length_cons,List.length_nil]; omega)) fun rg ku=>?_)
  refine ⟨fun _=>bp,?_⟩
  refine qa5 [4,5] [(1,.v (.slice am (((([]:Bs) ++ [by8 0,by8 0,by8 0,by8 0] ++ be 2 23 ++ be 2 (IntKind.i16.wrap v) ++ be 4 num ++ be 2 (-1) ++ [by8 0]) ++ qaa (IntKind.i16.wrap v) aa).length) ao)),(52,.v (.slice am (((([]:Bs) ++ [by8 0,by8 0,by8 0,by8 0] ++ be 2 23 ++ be 2 (IntKind.i16.wrap v) ++ be 4 num ++ be 2 (-1) ++ [by8 0]) ++ qaa (IntKind.i16.wrap v) aa).length) ao)),(57,.v (.int .i32 (IntKind.i32.wrap (((((([]:Bs) ++ [by8 0,by8 0,by8 0,by8 0] ++ be 2 23 ++ be 2 (IntKind.i16.wrap v) ++ be 4 num ++ be 2 (-1) ++ [by8 0]) ++ qaa (IntKind.i16.wrap v) aa).length) - 4:Nat):Int))))] 2 (qac qai) (fun _ h=>h.cells) bp ku fun rh kv=>?_
  refine qaO (i:=1) kz (qbx kv (t:=24) (A:=am) (m:=((([]:Bs) ++ [by8 0,by8 0,by8 0,by8 0] ++ be 2 23 ++ be 2 (IntKind.i16.wrap v) ++ be 4 num ++ be 2 (-1) ++ [by8 0]) ++ qaa (IntKind.i16.wrap v) aa).length) (cp:=ao) (q:=0) (d:=53) (j:=0) kz (e:=5) (size:=1) (bytes:=1) kz (rfl) (by omega) fun ri kw=>?_)
  refine ⟨fun _=>bp,?_⟩
  refine qaO (i:=6) kz (qal kw (f:=133) (vs:=[.slice am 0 ao,.int .i32 (IntKind.i32.wrap (((((([]:Bs) ++ [by8 0,by8 0,by8 0,by8 0] ++ be 2 23 ++ be 2 (IntKind.i16.wrap v) ++ be 4 num ++ be 2 (-1) ++ [by8 0]) ++ qaa (IntKind.i16.wrap v) aa).length) - 4:Nat):Int))]) (d:=58) kz Tryz.call133 (qbB (IntKind.i32.wrap (((((([]:Bs) ++ [by8 0,by8 0,by8 0,by8 0] ++ be 2 23 ++ be 2 (IntKind.i16.wrap v) ++ be 4 num ++ be 2 (-1) ++ [by8 0]) ++ qaa (IntKind.i16.wrap v) aa).length) - 4:Nat):Int)) am ao ((([]:Bs) ++ [by8 0,by8 0,by8 0,by8 0] ++ be 2 23 ++ be 2 (IntKind.i16.wrap v) ++ be 4 num ++ be 2 (-1) ++ [by8 0]) ++ qaa (IntKind.i16.wrap v) aa) _ (cr.own 0 _ rfl) (by simp only [List.length_append,List.length_cons,List.length_nil]; omega)) ?_)
  rintro e_ rj ⟨rfl,kx,dL⟩
  refine ⟨_,rfl,fun rl ky=>?_⟩
  have aX:WOk _ _ _ _ [⟨am,ao,5,1,((([]:Bs) ++ [by8 0,by8 0,by8 0,by8 0] ++ be 2 23 ++ be 2 (IntKind.i16.wrap v) ++ be 4 num ++ be 2 (-1) ++ [by8 0]) ++ qaa (IntKind.i16.wrap v) aa).length,bc (be 4 (IntKind.i32.wrap (((((([]:Bs) ++ [by8 0,by8 0,by8 0,by8 0] ++ be 2 23 ++ be 2 (IntKind.i16.wrap v) ++ be 4 num ++ be 2 (-1) ++ [by8 0]) ++ qaa (IntKind.i16.wrap v) aa).length) - 4:Nat):Int)) ++ ((([]:Bs) ++ [by8 0,by8 0,by8 0,by8 0] ++ be 2 23 ++ be 2 (IntKind.i16.wrap v) ++ be 4 num ++ be 2 (-1) ++ [by8 0]) ++ qaa (IntKind.i16.wrap v) aa).drop 4)⟩]:=cr.grow (k:=0) (r':=⟨am,ao,5,1,((([]:Bs) ++ [by8 0,by8 0,by8 0,by8 0] ++ be 2 23 ++ be 2 (IntKind.i16.wrap v) ++ be 4 num ++ be 2 (-1) ++ [by8 0]) ++ qaa (IntKind.i16.wrap v) aa).length,bc (be 4 (IntKind.i32.wrap (((((([]:Bs) ++ [by8 0,by8 0,by8 0,by8 0] ++ be 2 23 ++ be 2 (IntKind.i16.wrap v) ++ be 4 num ++ be 2 (-1) ++ [by8 0]) ++ qaa (IntKind.i16.wrap v) aa).length) - 4:Nat):Int)) ++ ((([]:Bs) ++ [by8 0,by8 0,by8 0,by8 0] ++ be 2 23 ++ be 2 (IntKind.i16.wrap v) ++ be 4 num ++ be 2 (-1) ++ [by8 0]) ++ qaa (IntKind.i16.wrap v) aa).drop 4)⟩) rfl dL kx (fun g' hg'=>.inl hg')
  have kA:=Fr.grow [⟨b1,0,[.bool has,.string txt],true⟩,⟨ac,0,[.int .i16 (IntKind.i16.wrap v),.int .i32 ((aa.f 0).n),.slice ((aa.f 1).A) ((aa.f 1).l) ((aa.f 1).c),.map aa.m],true⟩,⟨af,0,[.bool has,.string txt],true⟩,⟨ae,0,[.pointer none],true⟩] (k:=0) (rs:=[brow am ao 5 ((([]:Bs) ++ [by8 0,by8 0,by8 0,by8 0] ++ be 2 23 ++ be 2 (IntKind.i16.wrap v) ++ be 4 num ++ be 2 (-1) ++ [by8 0]) ++ qaa (IntKind.i16.wrap v) aa)]) (r':=⟨am,ao,5,1,((([]:Bs) ++ [by8 0,by8 0,by8 0,by8 0] ++ be 2 23 ++ be 2 (IntKind.i16.wrap v) ++ be 4 num ++ be 2 (-1) ++ [by8 0]) ++ qaa (IntKind.i16.wrap v) aa).length,bc (be 4 (IntKind.i32.wrap (((((([]:Bs) ++ [by8 0,by8 0,by8 0,by8 0] ++ be 2 23 ++ be 2 (IntKind.i16.wrap v) ++ be 4 num ++ be 2 (-1) ++ [by8 0]) ++ qaa (IntKind.i16.wrap v) aa).length) - 4:Nat):Int)) ++ ((([]:Bs) ++ [by8 0,by8 0,by8 0,by8 0] ++ be 2 23 ++ be 2 (IntKind.i16.wrap v) ++ be 4 num ++ be 2 (-1) ++ [by8 0]) ++ qaa (IntKind.i16.wrap v) aa).drop 4)⟩) rfl dL (fun g' hg'=>.inl hg')
  have kB:=TT.ofW kA aX
  refine ⟨fun _=>kB,?_⟩
  refine qaZ kz ?_ _
  refine qab ?_
  refine qas [(8,.v (.slice am (((([]:Bs) ++ [by8 0,by8 0,by8 0,by8 0] ++ be 2 23 ++ be 2 (IntKind.i16.wrap v) ++ be 4 num ++ be 2 (-1) ++ [by8 0]) ++ qaa (IntKind.i16.wrap v) aa).length) ao))] aX ky fun rm kC=>?_
  refine wp_ret ?_
  refine qaE kC aX.cells (v:=.slice am (((([]:Bs) ++ [by8 0,by8 0,by8 0,by8 0] ++ be 2 23 ++ be 2 (IntKind.i16.wrap v) ++ be 4 num ++ be 2 (-1) ++ [by8 0]) ++ qaa (IntKind.i16.wrap v) aa).length) ao) kz ?_
  refine ⟨_,rfl,fun rn kD=>?_⟩
  have kE:=(EnvOk.places (tb':=[⟨b1,0,[.bool has,.string txt],true⟩,⟨ac,0,[.int .i16 (IntKind.i16.wrap v),.int .i32 ((aa.f 0).n),.slice ((aa.f 1).A) ((aa.f 1).l) ((aa.f 1).c),.map aa.m],true⟩,⟨af,0,[.bool has,.string txt],true⟩,⟨ae,0,[.pointer none],true⟩]) kD (show Pl [⟨b1,0,[.bool has,.string txt],true⟩,⟨ac,0,[.int .i16 (IntKind.i16.wrap v),.int .i32 ((aa.f 0).n),.slice ((aa.f 1).A) ((aa.f 1).l) ((aa.f 1).c),.map aa.m],true⟩,⟨af,0,[.bool has,.string txt],true⟩,⟨ae,0,[.pointer none],true⟩] [⟨b1,0,[.bool has,.string txt],true⟩,⟨ac,0,[.int .i16 (IntKind.i16.wrap v),.int .i32 ((aa.f 0).n),.slice ((aa.f 1).A) ((aa.f 1).l) ((aa.f 1).c),.map aa.m],true⟩,⟨af,0,[.bool has,.string txt],true⟩,⟨ae,0,[.pointer none],true⟩] from ⟨rfl,rfl,⟨rfl,rfl,⟨rfl,rfl,⟨rfl,rfl,trivial⟩⟩⟩⟩)).pk (env':=[(19,.v (.slice am (((([]:Bs) ++ [by8 0,by8 0,by8 0,by8 0] ++ be 2 23 ++ be 2 (IntKind.i16.wrap v) ++ be 4 num ++ be 2 (-1) ++ [by8 0]) ++ qaa (IntKind.i16.wrap v) aa).length) ao)),(16,.p 3 0),(17,.v (.iface 67 (.pointer (some ⟨ac,0,none⟩)))),(18,.v (.int .i32 num))])
  refine qaj [4] [] [(6,.v (.slice am (((([]:Bs) ++ [by8 0,by8 0,by8 0,by8 0] ++ be 2 23 ++ be 2 (IntKind.i16.wrap v) ++ be 4 num ++ be 2 (-1) ++ [by8 0]) ++ qaa (IntKind.i16.wrap v) aa).length) ao))] aX kE fun ro kF=>?_
  refine qaf (qab ?_)
  refine wp_ret ?_
  refine qaE kF aX.cells (v:=.slice am (((([]:Bs) ++ [by8 0,by8 0,by8 0,by8 0] ++ be 2 23 ++ be 2 (IntKind.i16.wrap v) ++ be 4 num ++ be 2 (-1) ++ [by8 0]) ++ qaa (IntKind.i16.wrap v) aa).length) ao) kz ?_
  refine ⟨_,rfl,fun rp kG=>?_⟩
  have kH:=(EnvOk.places (tb':=[⟨b1,0,[.bool has,.string txt],true⟩,⟨ac,0,[.int .i16 (IntKind.i16.wrap v),.int .i32 ((aa.f 0).n),.slice ((aa.f 1).A) ((aa.f 1).l) ((aa.f 1).c),.map aa.m],true⟩,⟨af,0,[.bool has,.string txt],true⟩,⟨ae,0,[.pointer none],true⟩]) kG (show Pl [⟨b1,0,[.bool has,.string txt],true⟩,⟨ac,0,[.int .i16 (IntKind.i16.wrap v),.int .i32 ((aa.f 0).n),.slice ((aa.f 1).A) ((aa.f 1).l) ((aa.f 1).c),.map aa.m],true⟩] [⟨b1,0,[.bool has,.string txt],true⟩,⟨ac,0,[.int .i16 (IntKind.i16.wrap v),.int .i32 ((aa.f 0).n),.slice ((aa.f 1).A) ((aa.f 1).l) ((aa.f 1).c),.map aa.m],true⟩,⟨af,0,[.bool has,.string txt],true⟩,⟨ae,0,[.pointer none],true⟩] from ⟨rfl,rfl,⟨rfl,rfl,trivial⟩⟩)).pk (env':=[(25,.v (.slice am (((([]:Bs) ++ [by8 0,by8 0,by8 0,by8 0] ++ be 2 23 ++ be 2 (IntKind.i16.wrap v) ++ be 4 num ++ be 2 (-1) ++ [by8 0]) ++ qaa (IntKind.i16.wrap v) aa).length) ao)),(21,.v (.agg #[.bool has,.string txt])),(23,.v (.iface 67 (.pointer (some ⟨ac,0,none⟩)))),(24,.v (.int .i32 num))])
  refine qaj [5,6] [] [(8,.v (.slice am (((([]:Bs) ++ [by8 0,by8 0,by8 0,by8 0] ++ be 2 23 ++ be 2 (IntKind.i16.wrap v) ++ be 4 num ++ be 2 (-1) ++ [by8 0]) ++ qaa (IntKind.i16.wrap v) aa).length) ao)),(9,.v (.bool true))] aX kH fun rq kI=>?_
  refine qaf (qab ?_)
  refine wp_ret ?_
  refine qaE kI aX.cells (v:=.tuple #[.slice am (((([]:Bs) ++ [by8 0,by8 0,by8 0,by8 0] ++ be 2 23 ++ be 2 (IntKind.i16.wrap v) ++ be 4 num ++ be 2 (-1) ++ [by8 0]) ++ qaa (IntKind.i16.wrap v) aa).length) ao,.bool true]) kz ?_
  have kJ:be 4 (IntKind.i32.wrap (((((([]:Bs) ++ [by8 0,by8 0,by8 0,by8 0] ++ be 2 23 ++ be 2 (IntKind.i16.wrap v) ++ be 4 num ++ be 2 (-1) ++ [by8 0]) ++ qaa (IntKind.i16.wrap v) aa).length) - 4:Nat):Int)) ++ ((([]:Bs) ++ [by8 0,by8 0,by8 0,by8 0] ++ be 2 23 ++ be 2 (IntKind.i16.wrap v) ++ be 4 num ++ be 2 (-1) ++ [by8 0]) ++ qaa (IntKind.i16.wrap v) aa).drop 4 = (qa7 23 (IntKind.i16.wrap v) num has (sb txt) (decide ((IntKind.i16.wrap v) ≥ 4)) (qaa (IntKind.i16.wrap v) aa)):=qcF (R:=outB 23 (IntKind.i16.wrap v) num has (sb txt) (decide ((IntKind.i16.wrap v) ≥ 4)) (qaa (IntKind.i16.wrap v) aa)) (by simp [outB,qdX,qbN,aJ,bk])
  exact qcG aX (k:=0) rfl (kJ.trans (by rw [ba])) (by simp only [List.length_append,List.length_cons,List.length_nil]; omega)
 have mB:=of_decide_eq_false bk
 refine wp_skip ?_
 refine qab ?_
 refine qae [0,1,2,3] kz ?_
 refine qaj [0,1] [2,3] [(49,.v (.iface 67 (.pointer (some ⟨ac,0,none⟩)))),(50,.v (.slice aB ((([]:Bs) ++ [by8 0,by8 0,by8 0,by8 0] ++ be 2 23 ++ be 2 (IntKind.i16.wrap v) ++ be 4 num ++ be 2 (-1)).length) aC))] az cG fun rt kK=>?_
 have kL:=(qaJ _ ((((((((aP.trans aQ).trans bX).trans bY).trans bZ).trans cd).trans cg).trans cm).trans cq).step immM ((((((((aP.trans aQ).trans bX).trans bY).trans bZ).trans cd).trans cg).trans cm).trans cq).to' cJ)
 have dX:=az.strImm (G:=F) 1 rfl
 have hk_:=qaJ _ (Step.refl _ Nil) nilM (fun b o h_ _=>qf9 h_) kL
 refine qam (qcX kK (t := 67) (v := (.pointer (some ⟨ac, 0, none⟩))) (v' := (.pointer (some ⟨ac, 0, none⟩))) (name := "AppendTo") (f := 245) (vs := [.slice aB ((([] : Bs) ++ [by8 0, by8 0, by8 0, by8 0] ++ be 2 23 ++ be 2 (IntKind.i16.wrap v) ++ be 4 num ++ be 2 (-1)).length) aC]) (d := 51) kz (fun _ => by kernel_rfl) Tryz.call245 (qbl (IntKind.i16.wrap v) aa ac 0 aB aC (([] : Bs) ++ [by8 0, by8 0, by8 0, by8 0] ++ be 2 23 ++ be 2 (IntKind.i16.wrap v) ++ be 4 num ++ be 2 (-1)) _ _ dX hk_ (qf7 0 rfl) (az.own 0 _ rfl) (by first | omega | (simp only [List.length_append, List.length_cons, List.length_nil, be_length, qbN]; omega) | (simp; omega))) ?_)
 rintro e_ ru ⟨ap,ar,rfl,kM,dM,dN⟩
 refine ⟨_,rfl,fun rv kN=>?_⟩
 have dO:WOk _ _ _ _ [brow ap ar 5 ((([]:Bs) ++ [by8 0,by8 0,by8 0,by8 0] ++ be 2 23 ++ be 2 (IntKind.i16.wrap v) ++ be 4 num ++ be 2 (-1)) ++ qaa (IntKind.i16.wrap v) aa)]:=az.grow (k:=0) rfl dM kM dN
 have mC:=Fr.grow [⟨b1,0,[.bool has,.string txt],true⟩,⟨ac,0,[.int .i16 (IntKind.i16.wrap v),.int .i32 ((aa.f 0).n),.slice ((aa.f 1).A) ((aa.f 1).l) ((aa.f 1).c),.map aa.m],true⟩,⟨af,0,[.bool has,.string txt],true⟩,⟨ae,0,[.pointer none],true⟩] (k:=0) (rs:=[brow aB aC 5 (([]:Bs) ++ [by8 0,by8 0,by8 0,by8 0] ++ be 2 23 ++ be 2 (IntKind.i16.wrap v) ++ be 4 num ++ be 2 (-1))]) (r':=(brow ap ar 5 ((([]:Bs) ++ [by8 0,by8 0,by8 0,by8 0] ++ be 2 23 ++ be 2 (IntKind.i16.wrap v) ++ be 4 num ++ be 2 (-1)) ++ qaa (IntKind.i16.wrap v) aa))) rfl dM dN
 refine qaj [3] [] [(1,.v (.slice ap (((([]:Bs) ++ [by8 0,by8 0,by8 0,by8 0] ++ be 2 23 ++ be 2 (IntKind.i16.wrap v) ++ be 4 num ++ be 2 (-1)) ++ qaa (IntKind.i16.wrap v) aa).length) ar))] dO kN fun rx kO=>?_
 refine qaf (qab ?_)
 refine qbk 7 kz dO fun ry mD cu bq=>?_
 refine qa5 [0,2] [(1,.v (.slice ap (((([]:Bs) ++ [by8 0,by8 0,by8 0,by8 0] ++ be 2 23 ++ be 2 (IntKind.i16.wrap v) ++ be 4 num ++ be 2 (-1)) ++ qaa (IntKind.i16.wrap v) aa).length) ar)),(52,.v (.slice ap (((([]:Bs) ++ [by8 0,by8 0,by8 0,by8 0] ++ be 2 23 ++ be 2 (IntKind.i16.wrap v) ++ be 4 num ++ be 2 (-1)) ++ qaa (IntKind.i16.wrap v) aa).length) ar)),(54,.v (.slice ap (((([]:Bs) ++ [by8 0,by8 0,by8 0,by8 0] ++ be 2 23 ++ be 2 (IntKind.i16.wrap v) ++ be 4 num ++ be 2 (-1)) ++ qaa (IntKind.i16.wrap v) aa).length) ar))] 5 (qac qai) (fun _ h=>h.cells) bq kO fun rz dP=>?_
 refine qeC (i:=1) (j:=3) kz ?_ ?_
 ·
  refine (qbx dP (t:=24) (A:=ap) (m:=((([]:Bs) ++ [by8 0,by8 0,by8 0,by8 0] ++ be 2 23 ++ be 2 (IntKind.i16.wrap v) ++ be 4 num ++ be 2 (-1)) ++ qaa (IntKind.i16.wrap v) aa).length) (cp:=ar) (q:=0) (d:=53) (j:=0) kz (e:=5) (size:=1) (bytes:=1) kz (rfl) (by omega) fun rA kP=>?_)
  refine ⟨fun _=>bq,?_⟩
  refine qaO (i:=3) kz (qby kP (t:=24) (A:=ap) (m:=(((([]:Bs) ++ [by8 0,by8 0,by8 0,by8 0] ++ be 2 23 ++ be 2 (IntKind.i16.wrap v) ++ be 4 num ++ be 2 (-1)) ++ qaa (IntKind.i16.wrap v) aa).length)) (cp:=ar) (q:=4) (d:=55) (j:=4) kz (e:=5) (bytes:=1) kz (rfl) (by first | omega | (simp only [List.length_append,List.length_cons,List.length_nil]; omega)) fun rB kQ=>?_)
  refine ⟨fun _=>bq,?_⟩
  refine qa5 [4,5] [(1,.v (.slice ap (((([]:Bs) ++ [by8 0,by8 0,by8 0,by8 0] ++ be 2 23 ++ be 2 (IntKind.i16.wrap v) ++ be 4 num ++ be 2 (-1)) ++ qaa (IntKind.i16.wrap v) aa).length) ar)),(53,.v (.slice ap 0 ar)),(57,.v (.int .i32 (IntKind.i32.wrap (((((([]:Bs) ++ [by8 0,by8 0,by8 0,by8 0] ++ be 2 23 ++ be 2 (IntKind.i16.wrap v) ++ be 4 num ++ be 2 (-1)) ++ qaa (IntKind.i16.wrap v) aa).length) - 4:Nat):Int))))] 1 (qac qai) (fun _ h=>h.cells) bq kQ fun rC kR=>?_
  refine qaO (i:=6) kz (qal kR (f:=133) (vs:=[.slice ap 0 ar,.int .i32 (IntKind.i32.wrap (((((([]:Bs) ++ [by8 0,by8 0,by8 0,by8 0] ++ be 2 23 ++ be 2 (IntKind.i16.wrap v) ++ be 4 num ++ be 2 (-1)) ++ qaa (IntKind.i16.wrap v) aa).length) - 4:Nat):Int))]) (d:=58) kz Tryz.call133 (qbB (IntKind.i32.wrap (((((([]:Bs) ++ [by8 0,by8 0,by8 0,by8 0] ++ be 2 23 ++ be 2 (IntKind.i16.wrap v) ++ be 4 num ++ be 2 (-1)) ++ qaa (IntKind.i16.wrap v) aa).length) - 4:Nat):Int)) ap ar ((([]:Bs) ++ [by8 0,by8 0,by8 0,by8 0] ++ be 2 23 ++ be 2 (IntKind.i16.wrap v) ++ be 4 num ++ be 2 (-1)) ++ qaa (IntKind.i16.wrap v) aa) _ (cu.own 0 _ rfl) (by simp only [List.length_append,List.length_cons,List.length_nil]; omega)) ?_)
  rintro e_ rD ⟨rfl,kS,dQ⟩
  refine ⟨_,rfl,fun rE kT=>?_⟩
  have aY:WOk _ _ _ _ [⟨ap,ar,5,1,((([]:Bs) ++ [by8 0,by8 0,by8 0,by8 0] ++ be 2 23 ++ be 2 (IntKind.i16.wrap v) ++ be 4 num ++ be 2 (-1)) ++ qaa (IntKind.i16.wrap v) aa).length,bc (be 4 (IntKind.i32.wrap (((((([]:Bs) ++ [by8 0,by8 0,by8 0,by8 0] ++ be 2 23 ++ be 2 (IntKind.i16.wrap v) ++ be 4 num ++ be 2 (-1)) ++ qaa (IntKind.i16.wrap v) aa).length) - 4:Nat):Int)) ++ ((([]:Bs) ++ [by8 0,by8 0,by8 0,by8 0] ++ be 2 23 ++ be 2 (IntKind.i16.wrap v) ++ be 4 num ++ be 2 (-1)) ++ qaa (IntKind.i16.wrap v) aa).drop 4)⟩]:=cu.grow (k:=0) (r':=⟨ap,ar,5,1,((([]:Bs) ++ [by8 0,by8 0,by8 0,by8 0] ++ be 2 23 ++ be 2 (IntKind.i16.wrap v) ++ be 4 num ++ be 2 (-1)) ++ qaa (IntKind.i16.wrap v) aa).length,bc (be 4 (IntKind.i32.wrap (((((([]:Bs) ++ [by8 0,by8 0,by8 0,by8 0] ++ be 2 23 ++ be 2 (IntKind.i16.wrap v) ++ be 4 num ++ be 2 (-1)) ++ qaa (IntKind.i16.wrap v) aa).length) - 4:Nat):Int)) ++ ((([]:Bs) ++ [by8 0,by8 0,by8 0,by8 0] ++ be 2 23 ++ be 2 (IntKind.i16.wrap v) ++ be 4 num ++ be 2 (-1)) ++ qaa (IntKind.i16.wrap v) aa).drop 4)⟩) rfl dQ kS (fun g' hg'=>.inl hg')
  have kU:=Fr.grow [⟨b1,0,[.bool has,.string txt],true⟩,⟨ac,0,[.int .i16 (IntKind.i16.wrap v),.int .i32 ((aa.f 0).n),.slice ((aa.f 1).A) ((aa.f 1).l) ((aa.f 1).c),.map aa.m],true⟩,⟨af,0,[.bool has,.string txt],true⟩,⟨ae,0,[.pointer none],true⟩] (k:=0) (rs:=[brow ap ar 5 ((([]:Bs) ++ [by8 0,by8 0,by8 0,by8 0] ++ be 2 23 ++ be 2 (IntKind.i16.wrap v) ++ be 4 num ++ be 2 (-1)) ++ qaa (IntKind.i16.wrap v) aa)]) (r':=⟨ap,ar,5,1,((([]:Bs) ++ [by8 0,by8 0,by8 0,by8 0] ++ be 2 23 ++ be 2 (IntKind.i16.wrap v) ++ be 4 num ++ be 2 (-1)) ++ qaa (IntKind.i16.wrap v) aa).length,bc (be 4 (IntKind.i32.wrap (((((([]:Bs) ++ [by8 0,by8 0,by8 0,by8 0] ++ be 2 23 ++ be 2 (IntKind.i16.wrap v) ++ be 4 num ++ be 2 (-1)) ++ qaa (IntKind.i16.wrap v) aa).length) - 4:Nat):Int)) ++ ((([]:Bs) ++ [by8 0,by8 0,by8 0,by8 0] ++ be 2 23 ++ be 2 (IntKind.i16.wrap v) ++ be 4 num ++ be 2 (-1)) ++ qaa (IntKind.i16.wrap v) aa).drop 4)⟩) rfl dQ (fun g' hg'=>.inl hg')
  have kV:=TT.ofW kU aY
  refine ⟨fun _=>kV,?_⟩
  refine qaZ kz ?_ _
  refine qab ?_
  refine qas [(8,.v (.slice ap (((([]:Bs) ++ [by8 0,by8 0,by8 0,by8 0] ++ be 2 23 ++ be 2 (IntKind.i16.wrap v) ++ be 4 num ++ be 2 (-1)) ++ qaa (IntKind.i16.wrap v) aa).length) ar))] aY kT fun rF kW=>?_
  refine wp_ret ?_
  refine qaE kW aY.cells (v:=.slice ap (((([]:Bs) ++ [by8 0,by8 0,by8 0,by8 0] ++ be 2 23 ++ be 2 (IntKind.i16.wrap v) ++ be 4 num ++ be 2 (-1)) ++ qaa (IntKind.i16.wrap v) aa).length) ar) kz ?_
  refine ⟨_,rfl,fun rG kX=>?_⟩
  have kY:=(EnvOk.places (tb':=[⟨b1,0,[.bool has,.string txt],true⟩,⟨ac,0,[.int .i16 (IntKind.i16.wrap v),.int .i32 ((aa.f 0).n),.slice ((aa.f 1).A) ((aa.f 1).l) ((aa.f 1).c),.map aa.m],true⟩,⟨af,0,[.bool has,.string txt],true⟩,⟨ae,0,[.pointer none],true⟩]) kX (show Pl [⟨b1,0,[.bool has,.string txt],true⟩,⟨ac,0,[.int .i16 (IntKind.i16.wrap v),.int .i32 ((aa.f 0).n),.slice ((aa.f 1).A) ((aa.f 1).l) ((aa.f 1).c),.map aa.m],true⟩,⟨af,0,[.bool has,.string txt],true⟩,⟨ae,0,[.pointer none],true⟩] [⟨b1,0,[.bool has,.string txt],true⟩,⟨ac,0,[.int .i16 (IntKind.i16.wrap v),.int .i32 ((aa.f 0).n),.slice ((aa.f 1).A) ((aa.f 1).l) ((aa.f 1).c),.map aa.m],true⟩,⟨af,0,[.bool has,.string txt],true⟩,⟨ae,0,[.pointer none],true⟩] from ⟨rfl,rfl,⟨rfl,rfl,⟨rfl,rfl,⟨rfl,rfl,trivial⟩⟩⟩⟩)).pk (env':=[(19,.v (.slice ap (((([]:Bs) ++ [by8 0,by8 0,by8 0,by8 0] ++ be 2 23 ++ be 2 (IntKind.i16.wrap v) ++ be 4 num ++ be 2 (-1)) ++ qaa (IntKind.i16.wrap v) aa).length) ar)),(16,.p 3 0),(17,.v (.iface 67 (.pointer (some ⟨ac,0,none⟩)))),(18,.v (.int .i32 num))])
  refine qaj [4] [] [(6,.v (.slice ap (((([]:Bs) ++ [by8 0,by8 0,by8 0,by8 0] ++ be 2 23 ++ be 2 (IntKind.i16.wrap v) ++ be 4 num ++ be 2 (-1)) ++ qaa (IntKind.i16.wrap v) aa).length) ar))] aY kY fun rH kZ=>?_
  refine qaf (qab ?_)
  refine wp_ret ?_
  refine qaE kZ aY.cells (v:=.slice ap (((([]:Bs) ++ [by8 0,by8 0,by8 0,by8 0] ++ be 2 23 ++ be 2 (IntKind.i16.wrap v) ++ be 4 num ++ be 2 (-1)) ++ qaa (IntKind.i16.wrap v) aa).length) ar) kz ?_
  refine ⟨_,rfl,fun rI k5=>?_⟩
  have k6:=(EnvOk.places (tb':=[⟨b1,0,[.bool has,.string txt],true⟩,⟨ac,0,[.int .i16 (IntKind.i16.wrap v),.int .i32 ((aa.f 0).n),.slice ((aa.f 1).A) ((aa.f 1).l) ((aa.f 1).c),.map aa.m],true⟩,⟨af,0,[.bool has,.string txt],true⟩,⟨ae,0,[.pointer none],true⟩]) k5 (show Pl [⟨b1,0,[.bool has,.string txt],true⟩,⟨ac,0,[.int .i16 (IntKind.i16.wrap v),.int .i32 ((aa.f 0).n),.slice ((aa.f 1).A) ((aa.f 1).l) ((aa.f 1).c),.map aa.m],true⟩] [⟨b1,0,[.bool has,.string txt],true⟩,⟨ac,0,[.int .i16 (IntKind.i16.wrap v),.int .i32 ((aa.f 0).n),.slice ((aa.f 1).A) ((aa.f 1).l) ((aa.f 1).c),.map aa.m],true⟩,⟨af,0,[.bool has,.string txt],true⟩,⟨ae,0,[.pointer none],true⟩] from ⟨rfl,rfl,⟨rfl,rfl,trivial⟩⟩)).pk (env':=[(25,.v (.slice ap (((([]:Bs) ++ [by8 0,by8 0,by8 0,by8 0] ++ be 2 23 ++ be 2 (IntKind.i16.wrap v) ++ be 4 num ++ be 2 (-1)) ++ qaa (IntKind.i16.wrap v) aa).length) ar)),(21,.v (.agg #[.bool has,.string txt])),(23,.v (.iface 67 (.pointer (some ⟨ac,0,none⟩)))),(24,.v (.int .i32 num))])
  refine qaj [5,6] [] [(8,.v (.slice ap (((([]:Bs) ++ [by8 0,by8 0,by8 0,by8 0] ++ be 2 23 ++ be 2 (IntKind.i16.wrap v) ++ be 4 num ++ be 2 (-1)) ++ qaa (IntKind.i16.wrap v) aa).length) ar)),(9,.v (.bool true))] aY k6 fun rJ k7=>?_
  refine qaf (qab ?_)
  refine wp_ret ?_
  refine qaE k7 aY.cells (v:=.tuple #[.slice ap (((([]:Bs) ++ [by8 0,by8 0,by8 0,by8 0] ++ be 2 23 ++ be 2 (IntKind.i16.wrap v) ++ be 4 num ++ be 2 (-1)) ++ qaa (IntKind.i16.wrap v) aa).length) ar,.bool true]) kz ?_
  have k8:be 4 (IntKind.i32.wrap (((((([]:Bs) ++ [by8 0,by8 0,by8 0,by8 0] ++ be 2 23 ++ be 2 (IntKind.i16.wrap v) ++ be 4 num ++ be 2 (-1)) ++ qaa (IntKind.i16.wrap v) aa).length) - 4:Nat):Int)) ++ ((([]:Bs) ++ [by8 0,by8 0,by8 0,by8 0] ++ be 2 23 ++ be 2 (IntKind.i16.wrap v) ++ be 4 num ++ be 2 (-1)) ++ qaa (IntKind.i16.wrap v) aa).drop 4 = (qa7 23 (IntKind.i16.wrap v) num has (sb txt) (decide ((IntKind.i16.wrap v) ≥ 4)) (qaa (IntKind.i16.wrap v) aa)):=qcF (R:=outB 23 (IntKind.i16.wrap v) num has (sb txt) (decide ((IntKind.i16.wrap v) ≥ 4)) (qaa (IntKind.i16.wrap v) aa)) (by simp [outB,qdX,qbN,aJ,bk])
  exact qcG aY (k:=0) rfl (k8.trans (by rw [ba])) (by simp only [List.length_append,List.length_cons,List.length_nil]; omega)
 refine (qby dP (t:=24) (A:=ap) (m:=(((([]:Bs) ++ [by8 0,by8 0,by8 0,by8 0] ++ be 2 23 ++ be 2 (IntKind.i16.wrap v) ++ be 4 num ++ be 2 (-1)) ++ qaa (IntKind.i16.wrap v) aa).length)) (cp:=ar) (q:=4) (d:=55) (j:=4) kz (e:=5) (bytes:=1) kz (rfl) (by first | omega | (simp only [List.length_append,List.length_cons,List.length_nil]; omega)) fun rK k9=>?_)
 refine ⟨fun _=>bq,?_⟩
 refine qa5 [4,5] [(1,.v (.slice ap (((([]:Bs) ++ [by8 0,by8 0,by8 0,by8 0] ++ be 2 23 ++ be 2 (IntKind.i16.wrap v) ++ be 4 num ++ be 2 (-1)) ++ qaa (IntKind.i16.wrap v) aa).length) ar)),(52,.v (.slice ap (((([]:Bs) ++ [by8 0,by8 0,by8 0,by8 0] ++ be 2 23 ++ be 2 (IntKind.i16.wrap v) ++ be 4 num ++ be 2 (-1)) ++ qaa (IntKind.i16.wrap v) aa).length) ar)),(57,.v (.int .i32 (IntKind.i32.wrap (((((([]:Bs) ++ [by8 0,by8 0,by8 0,by8 0] ++ be 2 23 ++ be 2 (IntKind.i16.wrap v) ++ be 4 num ++ be 2 (-1)) ++ qaa (IntKind.i16.wrap v) aa).length) - 4:Nat):Int))))] 2 (qac qai) (fun _ h=>h.cells) bq k9 fun rL la=>?_
 refine qaO (i:=1) kz (qbx la (t:=24) (A:=ap) (m:=((([]:Bs) ++ [by8 0,by8 0,by8 0,by8 0] ++ be 2 23 ++ be 2 (IntKind.i16.wrap v) ++ be 4 num ++ be 2 (-1)) ++ qaa (IntKind.i16.wrap v) aa).length) (cp:=ar) (q:=0) (d:=53) (j:=0) kz (e:=5) (size:=1) (bytes:=1) kz (rfl) (by omega) fun rM lb=>?_)
 refine ⟨fun _=>bq,?_⟩
 refine qaO (i:=6) kz (qal lb (f:=133) (vs:=[.slice ap 0 ar,.int .i32 (IntKind.i32.wrap (((((([]:Bs) ++ [by8 0,by8 0,by8 0,by8 0] ++ be 2 23 ++ be 2 (IntKind.i16.wrap v) ++ be 4 num ++ be 2 (-1)) ++ qaa (IntKind.i16.wrap v) aa).length) - 4:Nat):Int))]) (d:=58) kz Tryz.call133 (qbB (IntKind.i32.wrap (((((([]:Bs) ++ [by8 0,by8 0,by8 0,by8 0] ++ be 2 23 ++ be 2 (IntKind.i16.wrap v) ++ be 4 num ++ be 2 (-1)) ++ qaa (IntKind.i16.wrap v) aa).length) - 4:Nat):Int)) ap ar ((([]:Bs) ++ [by8 0,by8 0,by8 0,by8 0] ++ be 2 23 ++ be 2 (IntKind.i16.wrap v) ++ be 4 num ++ be 2 (-1)) ++ qaa (IntKind.i16.wrap v) aa) _ (cu.own 0 _ rfl) (by simp only [List.length_append,List.length_cons,List.length_nil]; omega)) ?_)
 rintro e_ rN ⟨rfl,lc,dR⟩
 refine ⟨_,rfl,fun rO ld=>?_⟩
 have aZ:WOk _ _ _ _ [⟨ap,ar,5,1,((([]:Bs) ++ [by8 0,by8 0,by8 0,by8 0] ++ be 2 23 ++ be 2 (IntKind.i16.wrap v) ++ be 4 num ++ be 2 (-1)) ++ qaa (IntKind.i16.wrap v) aa).length,bc (be 4 (IntKind.i32.wrap (((((([]:Bs) ++ [by8 0,by8 0,by8 0,by8 0] ++ be 2 23 ++ be 2 (IntKind.i16.wrap v) ++ be 4 num ++ be 2 (-1)) ++ qaa (IntKind.i16.wrap v) aa).length) - 4:Nat):Int)) ++ ((([]:Bs) ++ [by8 0,by8 0,by8 0,by8 0] ++ be 2 23 ++ be 2 (IntKind.i16.wrap v) ++ be 4 num ++ be 2 (-1)) ++ qaa (IntKind.i16.wrap v) aa).drop 4)⟩]:=cu.grow (k:=0) (r':=⟨ap,ar,5,1,((([]:Bs) ++ [by8 0,by8 0,by8 0,by8 0] ++ be 2 23 ++ be 2 (IntKind.i16.wrap v) ++ be 4 num ++ be 2 (-1)) ++ qaa (IntKind.i16.wrap v) aa).length,bc (be 4 (IntKind.i32.wrap (((((([]:Bs) ++ [by8 0,by8 0,by8 0,by8 0] ++ be 2 23 ++ be 2 (IntKind.i16.wrap v) ++ be 4 num ++ be 2 (-1)) ++ qaa (IntKind.i16.wrap v) aa).length) - 4:Nat):Int)) ++ ((([]:Bs) ++ [by8 0,by8 0,by8 0,by8 0] ++ be 2 23 ++ be 2 (IntKind.i16.wrap v) ++ be 4 num ++ be 2 (-1)) ++ qaa (IntKind.i16.wrap v) aa).drop 4)⟩) rfl dR lc (fun g' hg'=>.inl hg')
 have lf:=Fr.grow [⟨b1,0,[.bool has,.string txt],true⟩,⟨ac,0,[.int .i16 (IntKind.i16.wrap v),.int .i32 ((aa.f 0).n),.slice ((aa.f 1).A) ((aa.f 1).l) ((aa.f 1).c),.map aa.m],true⟩,⟨af,0,[.bool has,.string txt],true⟩,⟨ae,0,[.pointer none],true⟩] (k:=0) (rs:=[brow ap ar 5 ((([]:Bs) ++ [by8 0,by8 0,by8 0,by8 0] ++ be 2 23 ++ be 2 (IntKind.i16.wrap v) ++ be 4 num ++ be 2 (-1)) ++ qaa (IntKind.i16.wrap v) aa)]) (r':=⟨ap,ar,5,1,((([]:Bs) ++ [by8 0,by8 0,by8 0,by8 0] ++ be 2 23 ++ be 2 (IntKind.i16.wrap v) ++ be 4 num ++ be 2 (-1)) ++ qaa (IntKind.i16.wrap v) aa).length,bc (be 4 (IntKind.i32.wrap (((((([]:Bs) ++ [by8 0,by8 0,by8 0,by8 0] ++ be 2 23 ++ be 2 (IntKind.i16.wrap v) ++ be 4 num ++ be 2 (-1)) ++ qaa (IntKind.i16.wrap v) aa).length) - 4:Nat):Int)) ++ ((([]:Bs) ++ [by8 0,by8 0,by8 0,by8 0] ++ be 2 23 ++ be 2 (IntKind.i16.wrap v) ++ be 4 num ++ be 2 (-1)) ++ qaa (IntKind.i16.wrap v) aa).drop 4)⟩) rfl dR (fun g' hg'=>.inl hg')
 have lg:=TT.ofW lf aZ
 refine ⟨fun _=>lg,?_⟩
 refine qaZ kz ?_ _
 refine qab ?_
 refine qas [(8,.v (.slice ap (((([]:Bs) ++ [by8 0,by8 0,by8 0,by8 0] ++ be 2 23 ++ be 2 (IntKind.i16.wrap v) ++ be 4 num ++ be 2 (-1)) ++ qaa (IntKind.i16.wrap v) aa).length) ar))] aZ ld fun rP lh=>?_
 refine wp_ret ?_
 refine qaE lh aZ.cells (v:=.slice ap (((([]:Bs) ++ [by8 0,by8 0,by8 0,by8 0] ++ be 2 23 ++ be 2 (IntKind.i16.wrap v) ++ be 4 num ++ be 2 (-1)) ++ qaa (IntKind.i16.wrap v) aa).length) ar) kz ?_
 refine ⟨_,rfl,fun rQ li=>?_⟩
 have lj:=(EnvOk.places (tb':=[⟨b1,0,[.bool has,.string txt],true⟩,⟨ac,0,[.int .i16 (IntKind.i16.wrap v),.int .i32 ((aa.f 0).n),.slice ((aa.f 1).A) ((aa.f 1).l) ((aa.f 1).c),.map aa.m],true⟩,⟨af,0,[.bool has,.string txt],true⟩,⟨ae,0,[.pointer none],true⟩]) li (show Pl [⟨b1,0,[.bool has,.string txt],true⟩,⟨ac,0,[.int .i16 (IntKind.i16.wrap v),.int .i32 ((aa.f 0).n),.slice ((aa.f 1).A) ((aa.f 1).l) ((aa.f 1).c),.map aa.m],true⟩,⟨af,0,[.bool has,.string txt],true⟩,⟨ae,0,[.pointer none],true⟩] [⟨b1,0,[.bool has,.string txt],true⟩,⟨ac,0,[.int .i16 (IntKind.i16.wrap v),.int .i32 ((aa.f 0).n),.slice ((aa.f 1).A) ((aa.f 1).l) ((aa.f 1).c),.map aa.m],true⟩,⟨af,0,[.bool has,.string txt],true⟩,⟨ae,0,[.pointer none],true⟩] from ⟨rfl,rfl,⟨rfl,rfl,⟨rfl,rfl,⟨rfl,rfl,trivial⟩⟩⟩⟩)).pk (env':=[(19,.v (.slice ap (((([]:Bs) ++ [by8 0,by8 0,by8 0,by8 0] ++ be 2 23 ++ be 2 (IntKind.i16.wrap v) ++ be 4 num ++ be 2 (-1)) ++ qaa (IntKind.i16.wrap v) aa).length) ar)),(16,.p 3 0),(17,.v (.iface 67 (.pointer (some ⟨ac,0,none⟩)))),(18,.v (.int .i32 num))])
 refine qaj [4] [] [(6,.v (.slice ap (((([]:Bs) ++ [by8 0,by8 0,by8 0,by8 0] ++ be 2 23 ++ be 2 (IntKind.i16.wrap v) ++ be 4 num ++ be 2 (-1)) ++ qaa (IntKind.i16.wrap v) aa).length) ar))] aZ lj fun rR lm=>?_
 refine qaf (qab ?_)
 refine wp_ret ?_
 refine qaE lm aZ.cells (v:=.slice ap (((([]:Bs) ++ [by8 0,by8 0,by8 0,by8 0] ++ be 2 23 ++ be 2 (IntKind.i16.wrap v) ++ be 4 num ++ be 2 (-1)) ++ qaa (IntKind.i16.wrap v) aa).length) ar) kz ?_
 refine ⟨_,rfl,fun rS ln=>?_⟩
 have lp:=(EnvOk.places (tb':=[⟨b1,0,[.bool has,.string txt],true⟩,⟨ac,0,[.int .i16 (IntKind.i16.wrap v),.int .i32 ((aa.f 0).n),.slice ((aa.f 1).A) ((aa.f 1).l) ((aa.f 1).c),.map aa.m],true⟩,⟨af,0,[.bool has,.string txt],true⟩,⟨ae,0,[.pointer none],true⟩]) ln (show Pl [⟨b1,0,[.bool has,.string txt],true⟩,⟨ac,0,[.int .i16 (IntKind.i16.wrap v),.int .i32 ((aa.f 0).n),.slice ((aa.f 1).A) ((aa.f 1).l) ((aa.f 1).c),.map aa.m],true⟩] [⟨b1,0,[.bool has,.string txt],true⟩,⟨ac,0,[.int .i16 (IntKind.i16.wrap v),.int .i32 ((aa.f 0).n),.slice ((aa.f 1).A) ((aa.f 1).l) ((aa.f 1).c),.map aa.m],true⟩,⟨af,0,[.bool has,.string txt],true⟩,⟨ae,0,[.pointer none],true⟩] from ⟨rfl,rfl,⟨rfl,rfl,trivial⟩⟩)).pk (env':=[(25,.v (.slice ap (((([]:Bs) ++ [by8 0,by8 0,by8 0,by8 0] ++ be 2 23 ++ be 2 (IntKind.i16.wrap v) ++ be 4 num ++ be 2 (-1)) ++ qaa (IntKind.i16.wrap v) aa).length) ar)),(21,.v (.agg #[.bool has,.string txt])),(23,.v (.iface 67 (.pointer (some ⟨ac,0,none⟩)))),(24,.v (.int .i32 num))])
 refine qaj [5,6] [] [(8,.v (.slice ap (((([]:Bs) ++ [by8 0,by8 0,by8 0,by8 0] ++ be 2 23 ++ be 2 (IntKind.i16.wrap v) ++ be 4 num ++ be 2 (-1)) ++ qaa (IntKind.i16.wrap v) aa).length) ar)),(9,.v (.bool true))] aZ lp fun rT lq=>?_
 refine qaf (qab ?_)
 refine wp_ret ?_
 refine qaE lq aZ.cells (v:=.tuple #[.slice ap (((([]:Bs) ++ [by8 0,by8 0,by8 0,by8 0] ++ be 2 23 ++ be 2 (IntKind.i16.wrap v) ++ be 4 num ++ be 2 (-1)) ++ qaa (IntKind.i16.wrap v) aa).length) ar,.bool true]) kz ?_
 have lr:be 4 (IntKind.i32.wrap (((((([]:Bs) ++ [by8 0,by8 0,by8 0,by8 0] ++ be 2 23 ++ be 2 (IntKind.i16.wrap v) ++ be 4 num ++ be 2 (-1)) ++ qaa (IntKind.i16.wrap v) aa).length) - 4:Nat):Int)) ++ ((([]:Bs) ++ [by8 0,by8 0,by8 0,by8 0] ++ be 2 23 ++ be 2 (IntKind.i16.wrap v) ++ be 4 num ++ be 2 (-1)) ++ qaa (IntKind.i16.wrap v) aa).drop 4 = (qa7 23 (IntKind.i16.wrap v) num has (sb txt) (decide ((IntKind.i16.wrap v) ≥ 4)) (qaa (IntKind.i16.wrap v) aa)):=qcF (R:=outB 23 (IntKind.i16.wrap v) num has (sb txt) (decide ((IntKind.i16.wrap v) ≥ 4)) (qaa (IntKind.i16.wrap v) aa)) (by simp [outB,qdX,qbN,aJ,bk])
 exact qcG aZ (k:=0) rfl (lr.trans (by rw [ba])) (by simp only [List.length_append,List.length_cons,List.length_nil]; omega)
theorem qcH (has:Bool) (txt:ByteArray) (num v:Int) (T:Tree) (B:Bs) {A2:Option Addr} {c2:Nat} {w:World} {F:Nat → Nat → Prop} (hB:qag (IntKind.i16.wrap v) T = B) (hs_:Octs w F A2 c2 B) (hc:qaS T) (hkey:T.ranged) (htx:txt.size ≤ 32767) (hroom:txt.size + B.length + 64 ≤ 1099511627776) :
  Calls Tryz.prog 34 #[.agg #[.bool has,.string txt],.int .i32 num,.int .i64 v,.slice A2 B.length c2] w (fun e w'=>∃ A c,e = .returned (.tuple #[.slice A (qa7 23 (IntKind.i16.wrap v) num has (sb txt) (decide ((IntKind.i16.wrap v) ≥ 4)) B).length c,.bool true]) ∧ w'.ownsRow w.heap.size 5 1 (.slice A (qa7 23 (IntKind.i16.wrap v) num has (sb txt) (decide ((IntKind.i16.wrap v) ≥ 4)) B).length c) (qa7 23 (IntKind.i16.wrap v) num has (sb txt) (decide ((IntKind.i16.wrap v) ≥ 4)) B).length (bc (qa7 23 (IntKind.i16.wrap v) num has (sb txt) (decide ((IntKind.i16.wrap v) ≥ 4)) B)) ∧ Step w w' Nil):=by
 subst hB
 exact qcM has txt num v T hs_ hc hkey htx hroom
end Go.Proofs.YtogokkkdfcgncaaGreatDoor.ME
namespace Go.Proofs.YtogokkkdfcgncaaGreatDoor.ME
open Go
open Go.RowKit
set_option linter.unusedVariables false
set_option linter.unusedSimpArgs false
section
variable {P:Program} {ops:Array Oper} {Q:Exit → Act → World → Prop} {n:Nat} {tb:Tb} {env:Env} {rs:List Rw} {w0:World} {M:Nat → Nat → Prop} {a:Act} {w:World}
theorem qfI {i d:Nat} {src dst e:TypeId} {s:ByteArray} {N:Act → World → Prop} (hW:WOk w0 M w tb rs) (hE:EnvOk n tb env a) (hsm:s.size ≤ 1099511627776)
  (K:∀ b c a' w',Fr w tb rs w' tb rs → WOk w0 M w' tb rs → (∀ G,Octs w' (Imm G w0 w' tb rs) (some ⟨b,0,none⟩) c (sb s)) → EnvOk n tb ((d,.v (.slice (some ⟨b,0,none⟩) (sb s).length c)) :: env) a' → N a' w')
  (h:qkb tb env ops n i = some (src,dst,.string s,d):=by kernel_rfl) (hs:P.underlying src = some .string:=by kernel_rfl) (hd:P.underlying dst = some (.slice e):=by kernel_rfl) (he:P.underlying e = some (.int .u8):=by kernel_rfl):wpOp P ops Q i N a w:=by
 unfold qkb at h
 split at h
 ·rename_i src' dst' x d' hop
  split at h
  ·rename_i v hx
   simp only [Option.some.injEq,Prod.mk.injEq] at h
   obtain ⟨rfl,rfl,rfl,rfl⟩:=h
   have hdn:=(qbf hE hop).choose_spec.2.2.2.1
   have hrun:=Lib.run_convert_string_bytes (P:=P) w src' dst' e s hs hd he
   have hst:Step w (Lib.bytesWorld w e s) Nil:=⟨rfl,rfl,by rw [Lib.bytesWorld_size]; omega,fun b hb=>by rw [Lib.bytesWorld_at_old w e s b hb]; exact Keeps.refl _ _⟩
   have hlen:(sb s).length = s.size:=qel s
   have e1:=(qaU hE hx).1
   refine qa0 hE hop (v:=.slice (some ⟨w.heap.size,0,none⟩) (sb s).length (grownCap w s.size 0 e)) (w':=Lib.bytesWorld w e s) (fun o' ho'=>?_) (K w.heap.size _ _ _ (Fr.nil tb rs hst) (hW.next_nil hst) (fun G=>?_) (hE.put hdn (.v _) trivial))
   ·unfold execOp
    rw [ho']
    simp only [SV.val] at e1
    simp only [e1,Sem.run_bind,hrun,Result.andThen_ok,Sem.run_pure,hlen]
   refine ⟨by rw [hlen]; exact grownCap_ge w s.size 0 e,by rw [hlen]; exact hsm,fun h=>(by cases h),fun ad hA _=>?_⟩
   obtain rfl:=Option.some.inj hA
   refine ⟨w.heap.size,0,rfl,fun q hq=>⟨rfl,fun j v hj=>?_⟩⟩
   have hj0:j = 0:=by
    cases j with
    | zero=>rfl
    | succ j=>simp at hj
   subst hj0
   simp only [List.getElem?_cons_zero,Option.some.injEq] at hj
   subst hj
   have h2:(Lib.bytesWorld w e s).heap.size = w.heap.size + 1:=Lib.bytesWorld_size w e s
   refine ⟨⟨.inr hW.step.size,by rw [h2]; exact Nat.lt_succ_self _,fun ha=>?_⟩,?_⟩
   ·have:=hW.act_live ha
    exact absurd this (Nat.lt_irrefl _)
   rw [Nat.zero_add,Nat.mul_one,Nat.add_zero,Lib.bytesWorld_cell w e s q (by rw [← hlen]; exact hq)]
   rfl
  cases h
 cases h
end
end Go.Proofs.YtogokkkdfcgncaaGreatDoor.ME