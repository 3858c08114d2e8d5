/- The texts of a claim, put together: the engine, the contracts, the law. Own work. -/
import Derived.Test.YtoclgihkbmaolabGreatDoorWf0P4
import Derived.Lib.ConvBytes
namespace Go.Proofs.YtoclgihkbmaolabGreatDoor.ME
open Go
open Go.RowKit
set_option linter.unusedVariables false
set_option linter.unusedSimpArgs false
set_option maxRecDepth 20000
def qaO (v:Int) (T:Tree):Bs:=(be 8 ((T.at_ 0).N)) ++ ((be 4 ((IntKind.i32.wrap (T.at_ 1).N))) ++ (if (decide (v ≥ 0)) = true then (uv T.U.length) ++ (qbp T.U) else []))
def qav (v:Int) (T:Tree):Bs:=(be 4 ((IntKind.i32.wrap (T.at_ 0).N))) ++ ((be 4 ((IntKind.i32.wrap (T.at_ 1).N))) ++ (((qaO v (T.at_ 2))) ++ ((be 8 ((T.at_ 3).N)) ++ (if (decide (v ≥ 0)) = true then (uv (tagC (!((T.at_ 4).S.take 16).all (fun b_=>b_ == 0)) + T.U.length)) ++ ((tagP (!((T.at_ 4).S.take 16).all (fun b_=>b_ == 0)) 0 (qas (T.at_ 4).S)) ++ (qbp T.U)) else []))))
theorem qbM (v:Int) (T:Tree):0 < (qav v T).length:=qls (qlN (by decide))
def qaF (v:Int) (T:Tree):Bs:=(if (decide (v ≥ 0)) = true then (uv ((T.at_ 0).S.length + 1) ++ (T.at_ 0).S) else (be 2 (T.at_ 0).S.length ++ (T.at_ 0).S)) ++ (((if (decide (v ≥ 0)) = true then (uv ((lst (T.at_ 1)).length + 1)) else (be 4 (lst (T.at_ 1)).length)) ++ ((lst (T.at_ 1)).flatMap (qav v))) ++ (if (decide (v ≥ 0)) = true then (uv T.U.length) ++ (qbp T.U) else []))
theorem qck (v:Int) (T:Tree):0 < (qaF v T).length:=qls (qnb (qls (qmO _)) (qls (qlN (by decide))))
def qcf (v:Int) (T:Tree):Bs:=(be 4 ((IntKind.i32.wrap (T.at_ 1).N))) ++ ((be 4 ((IntKind.i32.wrap (T.at_ 2).N))) ++ (((if (decide (v ≥ 0)) = true then (uv ((lst (T.at_ 3)).length + 1)) else (be 4 (lst (T.at_ 3)).length)) ++ ((lst (T.at_ 3)).flatMap (qaF v))) ++ ((if (decide (v ≥ 0)) = true then (uv (tagC (!(T.at_ 0).null) + T.U.length)) ++ ((tagP (!(T.at_ 0).null) 0 (if (decide (v ≥ 0)) = true then (if (T.at_ 0).null = true then uv 0 else uv ((qaS (T.at_ 0)).length + 1) ++ (qaS (T.at_ 0))) else (if (T.at_ 0).null = true then be 2 (-1) else be 2 (qaS (T.at_ 0)).length ++ (qaS (T.at_ 0))))) ++ (qbp T.U)) else []) ++ (([]:Bs)))))
theorem qcM (v:Int) (T:Tree):qak v T = qcf v T:=rfl
theorem qb6:qg3 qaZ:=by
 intro w w' F F' M d hs hM hF h
 unfold qaZ at h ⊢
 obtain ⟨g0,g1,t1,t2,t3,_⟩:=h
 exact ⟨g0,g1,t1.move hs hM hF,t2,t3,trivial⟩
def qbQ (d:DV):List Value:=[.int .i32 ((d.f 0).n),.int .i32 ((d.f 1).n),.int .i64 (((d.f 2).f 0).n),.int .i32 (((d.f 2).f 1).n),.map ((d.f 2).m),.int .i64 ((d.f 3).n),qag ((d.f 4).o.getD 0 0),qag ((d.f 4).o.getD 1 0),qag ((d.f 4).o.getD 2 0),qag ((d.f 4).o.getD 3 0),qag ((d.f 4).o.getD 4 0),qag ((d.f 4).o.getD 5 0),qag ((d.f 4).o.getD 6 0),qag ((d.f 4).o.getD 7 0),qag ((d.f 4).o.getD 8 0),qag ((d.f 4).o.getD 9 0),qag ((d.f 4).o.getD 10 0),qag ((d.f 4).o.getD 11 0),qag ((d.f 4).o.getD 12 0),qag ((d.f 4).o.getD 13 0),qag ((d.f 4).o.getD 14 0),qag ((d.f 4).o.getD 15 0),.map d.m]
theorem qbh:qg3 qaM:=by
 intro w w' F F' M d hs hM hF h
 unfold qaM at h ⊢
 obtain ⟨g0,g1,g2,g3,g4,t1,t2,t3,_⟩:=h
 exact ⟨g0,g1,qb6 _ hs hM hF g2,g3,g4,t1.move hs hM hF,t2,t3,trivial⟩
def qcr (d:DV):List Value:=[.string ((d.f 0).s),.slice ((d.f 1).A) ((d.f 1).l) ((d.f 1).c),.map d.m]
theorem qbB:qg3 qa3:=by
 intro w w' F F' M d hs hM hF h
 unfold qa3 at h ⊢
 obtain ⟨g0,⟨g1,g1l,g1e⟩,t1,t2,t3,_⟩:=h
 exact ⟨g0,⟨g1.move hs hM hF,g1l,fun i hi=>qbh _ hs hM hF (g1e i hi)⟩,t1.move hs hM hF,t2,t3,trivial⟩
def qbd (v:Int) (D:DV) (T:Tree):Prop:=((D.f 0).n = IntKind.i64.wrap (T.at_ 0).N) ∧ ((D.f 1).n = IntKind.i32.wrap (T.at_ 1).N) ∧ (((decide (v ≥ 0)) = true → D.u = T.U) ∧ ((decide (v ≥ 0)) = false → D.u = [])) ∧ True
def qaU (v:Int) (D:DV) (T:Tree):Prop:=((D.f 0).n = IntKind.i32.wrap (T.at_ 0).N) ∧ ((D.f 1).n = IntKind.i32.wrap (T.at_ 1).N) ∧ (qbd v (D.f 2) (T.at_ 2)) ∧ ((D.f 3).n = IntKind.i64.wrap (T.at_ 3).N) ∧ ((((if (decide (v ≥ 0)) = true then (!((T.at_ 4).S.take 16).all (fun b_=>b_ == 0)) else false)) = true → (D.f 4).o = qas (T.at_ 4).S) ∧ (((if (decide (v ≥ 0)) = true then (!((T.at_ 4).S.take 16).all (fun b_=>b_ == 0)) else false)) = false → (D.f 4).o = List.replicate 16 0)) ∧ (((decide (v ≥ 0)) = true → D.u = T.U) ∧ ((decide (v ≥ 0)) = false → D.u = [])) ∧ True
def qbg (v:Int) (D:DV) (T:Tree):Prop:=((D.f 0).s = bs (T.at_ 0).S) ∧ (((D.f 1).l = (lst (T.at_ 1)).length ∧ ∀ i,i < (D.f 1).l → qaU v ((D.f 1).f i) ((lst (T.at_ 1)).getD i .zero))) ∧ (((decide (v ≥ 0)) = true → D.u = T.U) ∧ ((decide (v ≥ 0)) = false → D.u = [])) ∧ True
def qbW (v:Int) (D:DV) (T:Tree):Prop:=((((if (decide (v ≥ 0)) = true then (!(T.at_ 0).null) else false)) = true → ((D.f 0).s = bs (qaS (T.at_ 0)) ∧ (D.f 0).A.isNone = (T.at_ 0).null)) ∧ (((if (decide (v ≥ 0)) = true then (!(T.at_ 0).null) else false)) = false → ((D.f 0).s = ByteArray.empty ∧ (D.f 0).A = none))) ∧ ((D.f 1).n = IntKind.i32.wrap (T.at_ 1).N) ∧ ((D.f 2).n = IntKind.i32.wrap (T.at_ 2).N) ∧ (((D.f 3).l = (lst (T.at_ 3)).length ∧ ∀ i,i < (D.f 3).l → qbg v ((D.f 3).f i) ((lst (T.at_ 3)).getD i .zero))) ∧ (((decide (v ≥ 0)) = true → D.u = T.U) ∧ ((decide (v ≥ 0)) = false → D.u = [])) ∧ True
theorem qnB (b o:Nat) (w:World):Calls Tryz.prog 49 #[.pointer (some ⟨b,o,none⟩)] w (fun e w'=>e = .returned (.tuple #[]) ∧ w' = w):=by
 refine enter (n:=2) (vs:=[.pointer (some ⟨b,o,none⟩)]) Tryz.func49 rfl Tryz.ntmps49 kz fun a hE=>?_
 refine wp_skip ?_
 exact qcl hE (WOk.start w Nil).cells (v:=.tuple #[]) kz ⟨rfl,rfl⟩
theorem qnC (b o:Nat) (w:World):Calls Tryz.prog 55 #[.pointer (some ⟨b,o,none⟩)] w (fun e w'=>e = .returned (.tuple #[]) ∧ w' = w):=by
 refine enter (n:=2) (vs:=[.pointer (some ⟨b,o,none⟩)]) Tryz.func55 rfl Tryz.ntmps55 kz fun a hE=>?_
 refine wp_skip ?_
 exact qcl hE (WOk.start w Nil).cells (v:=.tuple #[]) kz ⟨rfl,rfl⟩
set_option maxHeartbeats 4000000 in
theorem qdP (v:Int) (T:Tree) {bv:Nat} {A:Option Addr} {c:Nat} {w:World} {F:Nat → Nat → Prop} (hst:Str w bv [.int .i16 v,.pointer none,.int .i32 (-1),.int .i32 2147483647,.slice none 0 0,.map none]) (ho:Octs w F A c (qak v T)) (hFd:∀ b o,F b o → ¬ (b = bv ∧ o < 6)) (hc:qbl T) (hR:T.ranged) :
  Calls Tryz.prog 34 #[.pointer (some ⟨bv,0,none⟩),.slice A (qak v T).length c,.bool false] w (fun e w'=>∃ D:DV,e = .returned .nilIface ∧ Str w' bv [.int .i16 v,.pointer ((D.f 0).A),.int .i32 ((D.f 1).n),.int .i32 ((D.f 2).n),.slice ((D.f 3).A) ((D.f 3).l) ((D.f 3).c),.map D.m] ∧ qbv w' (Fp F w) D ∧ qbW v D T ∧ Step w w' (fun b o=>b = bv ∧ o < 6)):=by
 refine enter (n:=255) Tryz.func34 rfl Tryz.ntmps34 kz fun a hE=>?_
 have hW:=WOk.startStr hst
 let aV:Value:=.int .i16 v
 let bS:Value:=.pointer none
 let bT:Value:=.int .i32 2147483647
 let av:Value:=.slice none 0 0
 let ae:Value:=.map none
 have hE1:=(hE.grow ⟨bv,0,[aV,bS,.int .i32 (-1),bT,av,ae],true⟩).recast 0 (.v (.pointer (some ⟨bv,0,none⟩))) (.p 0 0) rfl rfl (Nat.le_of_ble_eq_true (n:=1) rfl)
 let ac:Nat × SV:=(2,.v (.bool false))
 refine qat [(0,.p 0 0),(1,.v (.slice A ((qak v T).length) c)),ac] hW hE1 fun a1 hE2=>?_
 refine qad [0,1] kz ?_
 refine qaj [0] [1] [(0,.p 0 0),(1,.v (.slice A ((qak v T).length) c)),ac,(43,.p 0 0)] hW hE2 fun a3 hE4=>?_
 refine qam (qa8 hE4 (f:=24) (vs:=[.pointer (some ⟨bv,0,none⟩)]) (d:=44) (n':=8) kz Tryz.call24 Tryz.func24 rfl Tryz.ntmps24 kz fun a5 hE6=>?_)
 have hE7:=hE6.recast 0 (.v (.pointer (some ⟨bv,0,none⟩))) (.p 0 0) rfl rfl (Nat.le_of_ble_eq_true (n:=1) rfl)
 refine qad [0,1,2,3] kz ?_
 refine qaj [0,1,2] [3] [(0,.p 0 0),(4,.p 0 2)] hW hE7 fun a8 hE9=>?_
 refine qam (qaK hW hE9 (oi:=0) (cs:=[aV,bS,.int .i32 (-1),bT,av,ae]) kz fun lM lr fj j5=>?_)
 refine qae (qaa ?_)
 refine qaq [0,1,2,3] kz ?_
 refine qaj [0,1,2] [3] [(7,.p 0 3)] fj j5 fun lN j6=>?_
 refine qam (qaK fj j6 (oi:=0) (cs:=[aV,bS,.int .i32 (-1),bT,av,ae]) kz fun lO ls eS j7=>?_)
 refine qae (qcl j7 eS.cells (v:=.tuple #[]) kz ?_)
 refine ⟨_,rfl,fun lP j8=>?_⟩
 let cv:Ob:=⟨bv,0,[.int .i16 v,.pointer none,.int .i32 (-1),.int .i32 2147483647,.slice none 0 0,.map none],true⟩
 have j9:=(EnvOk.places (tb':=[cv]) j8 (show Pl [cv] [cv] from ⟨rfl,rfl,trivial⟩)).pk (env':=[(44,.v (.tuple #[])),(0,.p 0 0),(1,.v (.slice A ((qak v T).length) c)),ac,(43,.p 0 0)])
 refine qae (qaa ?_)
 refine qad [0,1,2,3] kz ?_
 let aN:Value:=.bool false
 refine qaj [0,1] [2,3] [(0,.p 0 0),ac,(46,.v (.agg #[.slice A ((qak v T).length) c,aN]))] eS j9 fun lQ ka=>?_
 refine qam (qbo eS ka (d:=7) (cs:=[av,aN]) kz fun aR lR lS lu lv lw kd ke=>?_)
 refine qam (qaK kd ke (oi:=1) (cs:=[.slice A ((qak v T).length) c,aN]) kz fun lT lx eT kf=>?_)
 refine qae (qaa ?_)
 let ah:Nat × SV:=(7,.p 0 0)
 have kg:=RS.start (F:=F) (s:=qak v T) eT kf (ho.move eT.step (fun b_ o_ h_ _=>hFd b_ o_ h_) (eT.immM hFd)) [(0,.p 1 0),ac,ah]
 have ln:=hc
 have e38r:=hR
 unfold qbl at ln
 obtain ⟨e38_0,e38_1,e38_2,⟨e38_3,e38_3e⟩,e38_U,e38_K,_⟩:=ln
 obtain ⟨du,fk⟩:∃ R,R = (if (decide (v ≥ 0)) = true then (uv (tagC (!(T.at_ 0).null) + T.U.length)) ++ ((tagP (!(T.at_ 0).null) 0 (if (decide (v ≥ 0)) = true then (if (T.at_ 0).null = true then uv 0 else uv ((qaS (T.at_ 0)).length + 1) ++ (qaS (T.at_ 0))) else (if (T.at_ 0).null = true then be 2 (-1) else be 2 (qaS (T.at_ 0)).length ++ (qaS (T.at_ 0))))) ++ (qbp T.U)) else []) ++ ([]:Bs):=⟨_,rfl⟩
 obtain ⟨ly,fl⟩:∃ R,R = ((if (decide (v ≥ 0)) = true then (uv ((lst (T.at_ 3)).length + 1)) else (be 4 (lst (T.at_ 3)).length)) ++ ((lst (T.at_ 3)).flatMap (qaF v))) ++ du:=⟨_,rfl⟩
 obtain ⟨lz,fm⟩:∃ R,R = (be 4 ((IntKind.i32.wrap (T.at_ 2).N))) ++ ly:=⟨_,rfl⟩
 obtain ⟨lA,fo⟩:∃ R,R = (be 4 ((IntKind.i32.wrap (T.at_ 1).N))) ++ lz:=⟨_,rfl⟩
 have kh:=kg.cast (t:=lA) (by rw [qcM,fo,fm,fl,fk]; unfold qcf; simp only [List.append_assoc])
 refine wp_seq ?_
 let dv:Env:=[(0,.p 1 0),(2,.v (.bool false)),(7,.p 0 0),(8,.v (.int .i16 v))]
 refine qbI dv kh fun _ ki=>?_
 refine qaa (wp_seq (qbI dv ki fun _ kj=>?_))
 refine qaa (wp_seq ?_)
 let dw:Env:=[(0,.p 1 0),(2,.v (.bool false)),(7,.p 0 0),(9,.v (.bool (decide (v ≥ 0))))]
 refine qbI dw kj fun _ km=>?_
 refine qaa (wp_seq (qbI dw km fun _ ko=>?_))
 refine qaa (wp_seq ?_)
 let bU:Env:=[(2,.v (.bool false)),(7,.p 0 0),(9,.v (.bool (decide (v ≥ 0)))),(10,.p 1 0)]
 refine qbI bU ko fun _ kp=>?_
 refine qaa (wp_seq (wp_seq ?_))
 have kq:=kp.cast fo
 let ag:Nat × SV:=(9,.v (.bool (decide (v ≥ 0))))
 let af:Nat × SV:=(10,.p 1 0)
 refine qdj (d:=56) [ac,ah,ag,af,(11,.v (.int .i32 (IntKind.i32.wrap (T.at_ 1).N)))] kq (qhN _ _) Tryz.call44 fun _ _ ku=>?_
 refine qaa ?_
 let bB:Value:=.int .i32 (IntKind.i32.wrap (T.at_ 1).N)
 refine qdL [⟨bv,0,[aV,bS,bB,bT,av,ae],true⟩] 0 bU ku fun _ _ kv=>?_
 refine qaa (wp_seq (wp_seq ?_))
 have kw:=kv.cast fm
 refine qdj (d:=61) [ac,ah,ag,af,(12,.v (.int .i32 (IntKind.i32.wrap (T.at_ 2).N)))] kw (qhN _ _) Tryz.call44 fun _ _ ky=>?_
 refine qaa ?_
 let aA:Ob:=⟨bv,0,[.int .i16 v,.pointer none,.int .i32 (IntKind.i32.wrap (T.at_ 1).N),.int .i32 (IntKind.i32.wrap (T.at_ 2).N),.slice none 0 0,.map none],true⟩
 refine qdL [aA] 0 bU ky fun _ _ kA=>?_
 refine qaa (wp_seq (wp_seq (qbI [ac,ah,ag,af,(13,.v (.slice none 0 0))] kA fun _ kB=>?_)))
 refine qaa (wp_seq ?_)
 let cw:Env:=[(2,.v (.bool false)),(7,.p 0 0),(9,.v (.bool (decide (v ≥ 0)))),(10,.p 1 0),(14,.v (.slice none 0 0))]
 refine qbI cw kB fun _ kC=>?_
 refine qaa (wp_seq (qbI cw kC fun _ kD=>?_))
 refine qaa (wp_seq ?_)
 have kE:=kD.cast fl
 have kF:=kE.cast (t:=(if (decide (v ≥ 0)) = true then (uv ((lst (T.at_ 3)).length + 1)) else (be 4 (lst (T.at_ 3)).length)) ++ (((lst (T.at_ 3)).flatMap (qaF v)) ++ du)) (by rw [List.append_assoc])
 let dx:Env:=[(2,.v (.bool false)),(7,.p 0 0),(9,.v (.bool (decide (v ≥ 0)))),(10,.p 1 0),(14,.v (.slice none 0 0)),(15,.v (.int .i32 (((lst (T.at_ 3)).length:Nat):Int)))]
 let bC:Nat × SV:=(14,.v (.slice none 0 0))
 refine qit (d1:=72) (d2:=73) [ac,ah,ag,af,bC,(71,.v (.bool (decide (v ≥ 0))))] dx kF (qdM ((lst (T.at_ 3)).length) e38_3 _ (flat_ge' (qck v) _)) Tryz.call45 (qhO ((lst (T.at_ 3)).length) e38_3 _ (flat_ge' (qck v) _)) Tryz.call46 fun _ _ kG=>?_
 refine qaa (wp_seq (wp_seq ?_))
 let aj:Nat × SV:=(15,.v (.int .i32 (((lst (T.at_ 3)).length:Nat):Int)))
 refine qnc (d:=74) [ac,ah,ag,af,bC,aj,(75,.v (.bool false))] kG (pOk _) Tryz.call47 fun _ _ fq=>?_
 refine qaa (qau fq.env_ (b:=false) kz (rfl) ?_)
 refine wp_skip (qaa (wp_seq (qkL (t:=64) (e:=101) (size:=3) (bytes:=48) (d:=78) (A0:=none) (m:=0) (cp:=0) [ac,ah,ag,af,aj,(77,.v (.slice none 0 0))] dx 1 fq fun _ kH=>?_)))
 refine qaa ?_
 let bq:Nat × SV:=(7,.v (.pointer (some ⟨aR,0,none⟩)))
 let bt:Nat × SV:=(10,.v (.pointer (some ⟨bv,0,none⟩)))
 refine qiY (Mid:=fun a_ w_=>∃ (aJ:DV) (P':qcb),(∀ w F,P' w F → noF w F ∧ (Slots w F 3 aJ.A aJ.c aJ.l (fun i=>[.string (((aJ.f i).f 0).s),.slice (((aJ.f i).f 1).A) (((aJ.f i).f 1).l) (((aJ.f i).f 1).c),.map ((aJ.f i).m)]) ∧ aJ.l ≤ 1000000 ∧ ∀ i,i < aJ.l → qa3 w F (aJ.f i)) ∧ (aJ.l = (lst (T.at_ 3)).length ∧ ∀ i,i < aJ.l → qbg v (aJ.f i) ((lst (T.at_ 3)).getD i .zero))) ∧ RS w (fun b o=>b = bv ∧ o < 6) F 255 aR [aA] [ac,ah,ag,af,(14,.v (.slice aJ.A aJ.l aJ.c))] P' du a_ w_) ?_ ?_
 ·
  refine wp_seq (qbI [ac,ah,ag,af,bC,aj,(80,.v (.bool (decide ((((lst (T.at_ 3)).length:Nat):Int) > 0))))] kH fun _ eU=>qaa ?_)
  let cz:Nat × SV:=(16,.v (.int .i32 0))
  refine qaA eU.env_ (b:=decide ((((lst (T.at_ 3)).length:Nat):Int) > 0)) kz (fun di=>?_) (fun di=>?_)
  ·
   have hn_g77:0 < (lst (T.at_ 3)).length:=by have h_:=of_decide_eq_true di; omega
   refine qaq [0,1,2,3] kz ?_
   refine qcV [0,1] [2,3] [ac,ah,ag,af,aj,(81,.v (.slice none 0 0)),(82,.v (.int .i32 (((lst (T.at_ 3)).length:Nat):Int)))] eU fun _ kI=>?_
   let ay:Value:=.string ByteArray.empty
   refine qam (qgy (A0:=none) (d:=83) (t:=64) (tn:=21) (e:=101) (size:=3) (bytes:=48) (k:=.i32) (kn:=.i32) (q:=(((lst (T.at_ 3)).length:Nat):Int)) (j:=(lst (T.at_ 3)).length) (.agg #[ay,av,ae]) kI (fun aG bA _ _ hg_g77 hcap_g77 kJ=>?_) rfl hn_g77 (by have:=e38_3; omega))
   let ak:Nat × SV:=(14,.v (.slice (some ⟨aG,0,none⟩) ((lst (T.at_ 3)).length) bA))
   refine qcV [3] [] [ac,ah,ag,af,ak,aj] kJ fun _ kK=>qae ?_
   refine qaa (wp_seq (qbI [ac,ah,ag,af,ak,aj,cz] kK fun _ fr=>?_))
   refine qaa (wp_block ?_)
   have dy:=fr.mv
   have kM:=(fr.cast (t:=(lst (T.at_ 3)).flatMap (qaF v) ++ du) rfl).pk (env':=[ac,ah,ag,af,ak,aj,(16,.v (.int .i32 ((0:Nat):Int)))])
   refine qkI (tb:=[aA]) (z:=.agg #[ay,av,ae]) (cl:=qcr) (ok:=qa3) (rel:=(qbg v)) (L:=lst (T.at_ 3)) (size:=3) (qaF v) du (fun k=>[ac,ah,ag,af,ak,aj,(16,.v (.int .i32 ((k:Nat):Int)))]) kM qbB (fun aF aC _ _ eV kN kO=>?_) (fun _ _ kP=>?_)
   ·
    let bD:Env:=[(2,.v (.bool false)),(7,.p 0 0),(9,.v (.bool (decide (v ≥ 0)))),(10,.p 1 0),(14,.v (.slice (some ⟨aG,0,none⟩) ((lst (T.at_ 3)).length) bA)),(15,.v (.int .i32 (((lst (T.at_ 3)).length:Nat):Int))),(16,.v (.int .i32 ((aF:Nat):Int)))]
    obtain ⟨lp,ft,kQ⟩:∃ P',(∀ w F,P' w F → (noF w F ∧ qgc aG 3 qcr qa3 (qbg v) (lst (T.at_ 3)) aF w F)) ∧ RS w (fun b o=>b = bv ∧ o < 6) F 255 aR [aA,qa5 aG 3 (.agg #[ay,av,ae]) ((lst (T.at_ 3)).length) aF] bD P' ((qaF v) aC ++ (((lst (T.at_ 3)).drop (aF + 1)).flatMap (qaF v) ++ du)) _ _:=⟨_,fun _ _ h=>h,kO⟩
    obtain ⟨fu,fv⟩:∃ R,R = ((lst (T.at_ 3)).drop (aF + 1)).flatMap (qaF v) ++ du:=⟨_,rfl⟩
    have lq:=(e38_3e aC (List.mem_of_getElem? eV))
    have e96r:=(qgw (qfd e38r 3) aC (List.mem_of_getElem? eV))
    unfold qbz at lq
    obtain ⟨e96_0,⟨e96_1,e96_1e⟩,e96_U,_⟩:=lq
    obtain ⟨dA,fw⟩:∃ R,R = (if (decide (v ≥ 0)) = true then (uv aC.U.length) ++ (qbp aC.U) else []) ++ fu:=⟨_,rfl⟩
    obtain ⟨lB,dB⟩:∃ R,R = ((if (decide (v ≥ 0)) = true then (uv ((lst (aC.at_ 1)).length + 1)) else (be 4 (lst (aC.at_ 1)).length)) ++ ((lst (aC.at_ 1)).flatMap (qav v))) ++ dA:=⟨_,rfl⟩
    obtain ⟨kR,dC⟩:∃ R,R = (if (decide (v ≥ 0)) = true then (uv ((aC.at_ 0).S.length + 1) ++ (aC.at_ 0).S) else (be 2 (aC.at_ 0).S.length ++ (aC.at_ 0).S)) ++ lB:=⟨_,rfl⟩
    have fx:=kQ.cast (t:=kR) (by rw [dC,dB,fw,← fv]; unfold qaF; simp only [List.append_assoc])
    refine wp_seq (wp_seq ?_)
    let al:Nat × SV:=(16,.v (.int .i32 ((aF:Nat):Int)))
    refine qbI [ac,ah,ag,af,ak,aj,al,(86,.v (.bool (decide (((aF:Nat):Int) < (((lst (T.at_ 3)).length:Nat):Int)))))] fx fun _ dD=>qaa ?_
    refine qbw dD.env_ (b:=decide (((aF:Nat):Int) < (((lst (T.at_ 3)).length:Nat):Int))) kz (decide_eq_true (by omega)) ?_
    refine wp_skip (qaa (wp_seq (wp_block (wp_seq ?_))))
    let dE:Env:=[(2,.v (.bool false)),(7,.p 0 0),(9,.v (.bool (decide (v ≥ 0)))),(10,.p 1 0),(14,.v (.slice (some ⟨aG,0,none⟩) ((lst (T.at_ 3)).length) bA)),(15,.v (.int .i32 (((lst (T.at_ 3)).length:Nat):Int))),(16,.v (.int .i32 ((aF:Nat):Int))),(17,.p 3 0)]
    refine qkM (t:=64) (e:=101) (size:=3) (bytes:=48) (d:=91) (tb:=[aA]) (z:=.agg #[ay,av,ae]) [ac,ah,ag,af,ak,aj,al,(89,.v (.slice (some ⟨aG,0,none⟩) ((lst (T.at_ 3)).length) bA)),(90,.v (.int .i32 ((aF:Nat):Int)))] dE 2 dD kN rfl kz fun _ fy=>?_
    have fz:=fy.tbEq (tb':=[aA,qa5 aG 3 (.agg #[ay,av,ae]) ((lst (T.at_ 3)).length) (aF + 1),⟨aG,aF * 3,[ay,av,ae],true⟩]) rfl
    refine qaa (wp_seq (qaq [0,1] kz ?_))
    refine qcV [0] [1] [ac,ah,ag,af,ak,aj,al,(17,.p 3 0),(92,.p 3 0)] fz fun _ fA=>?_
    refine qam (qlO (d:=93) (vs:=[.pointer (some ⟨aG,aF * 3,none⟩)]) fA (fun _=>qnB _ _ _) Tryz.call49 fun _ fB=>?_)
    refine qae ?_
    have fC:=fB.pk (env':=dE)
    refine qaa (wp_seq ?_)
    let bV:Env:=[(2,.v (.bool false)),(7,.p 0 0),(9,.v (.bool (decide (v ≥ 0)))),(10,.p 1 0),(14,.v (.slice (some ⟨aG,0,none⟩) ((lst (T.at_ 3)).length) bA)),(15,.v (.int .i32 (((lst (T.at_ 3)).length:Nat):Int))),(16,.v (.int .i32 ((aF:Nat):Int))),(18,.p 3 0)]
    refine qbI bV fC fun _ fD=>?_
    refine qaa (wp_seq (wp_seq (qbI bV fD fun _ fE=>?_)))
    refine qaa (wp_seq (wp_seq ?_))
    let ao:Nat × SV:=(18,.p 3 0)
    refine qbI [ac,ah,ag,af,ak,aj,al,ao,(95,.v (.bool false))] fE fun _ dF=>qaa ?_
    refine qau dF.env_ (b:=false) kz (rfl) ?_
    have fF:=dF.cast dC
    refine qit (d1:=100) (d2:=101) [ac,ah,ag,af,ak,aj,al,ao,(99,.v (.bool (decide (v ≥ 0))))] [ac,ah,ag,af,ak,aj,al,ao,(19,.v (.string (bs (aC.at_ 0).S)))] fF (qge (aC.at_ 0).S e96_0 _) Tryz.call52 (qms (aC.at_ 0).S e96_0 _) Tryz.call53 fun _ _ fG=>?_
    refine qaa ?_
    let aD:Ob:=⟨aG,aF * 3,[.string (bs (aC.at_ 0).S),.slice none 0 0,.map none],true⟩
    refine qdL [aA,qa5 aG 3 (.agg #[ay,av,ae]) ((lst (T.at_ 3)).length) (aF + 1),aD] 2 bV fG fun _ _ fH=>?_
    refine qaa (wp_seq (wp_seq (qbI [ac,ah,ag,af,ak,aj,al,ao,(20,.v (.slice none 0 0))] fH fun _ fI=>?_)))
    refine qaa (wp_seq ?_)
    let cA:Env:=[(2,.v (.bool false)),(7,.p 0 0),(9,.v (.bool (decide (v ≥ 0)))),(10,.p 1 0),(14,.v (.slice (some ⟨aG,0,none⟩) ((lst (T.at_ 3)).length) bA)),(15,.v (.int .i32 (((lst (T.at_ 3)).length:Nat):Int))),(16,.v (.int .i32 ((aF:Nat):Int))),(18,.p 3 0),(21,.v (.slice none 0 0))]
    refine qbI cA fI fun _ fJ=>?_
    refine qaa (wp_seq (qbI cA fJ fun _ fK=>?_))
    refine qaa (wp_seq ?_)
    have fL:=fK.cast dB
    have fM:=fL.cast (t:=(if (decide (v ≥ 0)) = true then (uv ((lst (aC.at_ 1)).length + 1)) else (be 4 (lst (aC.at_ 1)).length)) ++ (((lst (aC.at_ 1)).flatMap (qav v)) ++ dA)) (by rw [List.append_assoc])
    let dG:Env:=[(2,.v (.bool false)),(7,.p 0 0),(9,.v (.bool (decide (v ≥ 0)))),(10,.p 1 0),(14,.v (.slice (some ⟨aG,0,none⟩) ((lst (T.at_ 3)).length) bA)),(15,.v (.int .i32 (((lst (T.at_ 3)).length:Nat):Int))),(16,.v (.int .i32 ((aF:Nat):Int))),(18,.p 3 0),(21,.v (.slice none 0 0)),(22,.v (.int .i32 (((lst (aC.at_ 1)).length:Nat):Int)))]
    let bE:Nat × SV:=(21,.v (.slice none 0 0))
    refine qit (d1:=112) (d2:=113) [ac,ah,ag,af,ak,aj,al,ao,bE,(111,.v (.bool (decide (v ≥ 0))))] dG fM (qdM ((lst (aC.at_ 1)).length) e96_1 _ (flat_ge' (qbM v) _)) Tryz.call45 (qhO ((lst (aC.at_ 1)).length) e96_1 _ (flat_ge' (qbM v) _)) Tryz.call46 fun _ _ fN=>?_
    refine qaa (wp_seq (wp_seq ?_))
    let ar:Nat × SV:=(22,.v (.int .i32 (((lst (aC.at_ 1)).length:Nat):Int)))
    refine qnc (d:=114) [ac,ah,ag,af,ak,aj,al,ao,bE,ar,(115,.v (.bool false))] fN (pOk _) Tryz.call47 fun _ _ dH=>?_
    refine qaa (qau dH.env_ (b:=false) kz (rfl) ?_)
    refine wp_skip (qaa (wp_seq (qkL (t:=99) (e:=108) (size:=23) (bytes:=64) (d:=118) (A0:=none) (m:=0) (cp:=0) [ac,ah,ag,af,ak,aj,al,ao,ar,(117,.v (.slice none 0 0))] dG 1 dH fun _ fO=>?_)))
    refine qaa (qiY (Mid:=fun a_ w_=>∃ (aE:DV) (P':qcb),(∀ w F,P' w F → lp w F ∧ (Slots w F 23 aE.A aE.c aE.l (fun i=>[.int .i32 (((aE.f i).f 0).n),.int .i32 (((aE.f i).f 1).n),.int .i64 ((((aE.f i).f 2).f 0).n),.int .i32 ((((aE.f i).f 2).f 1).n),.map (((aE.f i).f 2).m),.int .i64 (((aE.f i).f 3).n),qag (((aE.f i).f 4).o.getD 0 0),qag (((aE.f i).f 4).o.getD 1 0),qag (((aE.f i).f 4).o.getD 2 0),qag (((aE.f i).f 4).o.getD 3 0),qag (((aE.f i).f 4).o.getD 4 0),qag (((aE.f i).f 4).o.getD 5 0),qag (((aE.f i).f 4).o.getD 6 0),qag (((aE.f i).f 4).o.getD 7 0),qag (((aE.f i).f 4).o.getD 8 0),qag (((aE.f i).f 4).o.getD 9 0),qag (((aE.f i).f 4).o.getD 10 0),qag (((aE.f i).f 4).o.getD 11 0),qag (((aE.f i).f 4).o.getD 12 0),qag (((aE.f i).f 4).o.getD 13 0),qag (((aE.f i).f 4).o.getD 14 0),qag (((aE.f i).f 4).o.getD 15 0),.map ((aE.f i).m)]) ∧ aE.l ≤ 1000000 ∧ ∀ i,i < aE.l → qaM w F (aE.f i)) ∧ (aE.l = (lst (aC.at_ 1)).length ∧ ∀ i,i < aE.l → qaU v (aE.f i) ((lst (aC.at_ 1)).getD i .zero))) ∧ RS w (fun b o=>b = bv ∧ o < 6) F 255 aR [aA,qa5 aG 3 (.agg #[ay,av,ae]) ((lst (T.at_ 3)).length) (aF + 1),aD] [ac,ah,ag,af,ak,aj,al,ao,(21,.v (.slice aE.A aE.l aE.c))] P' dA a_ w_) ?_ ?_)
    ·
     refine wp_seq (qbI [ac,ah,ag,af,ak,aj,al,ao,bE,ar,(120,.v (.bool (decide ((((lst (aC.at_ 1)).length:Nat):Int) > 0))))] fO fun _ cB=>qaa ?_)
     let cC:Nat × SV:=(23,.v (.int .i32 0))
     refine qaA cB.env_ (b:=decide ((((lst (aC.at_ 1)).length:Nat):Int) > 0)) kz (fun bW=>?_) (fun bW=>?_)
     ·
      have hn_g133:0 < (lst (aC.at_ 1)).length:=by have h_:=of_decide_eq_true bW; omega
      refine qaq [0,1,2,3] kz ?_
      refine qcV [0,1] [2,3] [ac,ah,ag,af,ak,aj,al,ao,ar,(121,.v (.slice none 0 0)),(122,.v (.int .i32 (((lst (aC.at_ 1)).length:Nat):Int)))] cB fun _ fP=>?_
      let ai:Value:=.int .i32 0
      let am:Value:=.int .i64 0
      let aa:Value:=.int .u8 0
      refine qam (qgy (A0:=none) (d:=123) (t:=99) (tn:=21) (e:=108) (size:=23) (bytes:=64) (k:=.i32) (kn:=.i32) (q:=(((lst (aC.at_ 1)).length:Nat):Int)) (j:=(lst (aC.at_ 1)).length) (.agg #[ai,ai,am,ai,ae,am,aa,aa,aa,aa,aa,aa,aa,aa,aa,aa,aa,aa,aa,aa,aa,aa,ae]) fP (fun az bf _ _ hg_g133 hcap_g133 fQ=>?_) rfl hn_g133 (by have:=e96_1; omega))
      let au:Nat × SV:=(21,.v (.slice (some ⟨az,0,none⟩) ((lst (aC.at_ 1)).length) bf))
      refine qcV [3] [] [ac,ah,ag,af,ak,aj,al,ao,au,ar] fQ fun _ fR=>qae ?_
      refine qaa (wp_seq (qbI [ac,ah,ag,af,ak,aj,al,ao,au,ar,cC] fR fun _ dI=>?_))
      refine qaa (wp_block ?_)
      have cE:=dI.mv
      have fS:=(dI.cast (t:=(lst (aC.at_ 1)).flatMap (qav v) ++ dA) rfl).pk (env':=[ac,ah,ag,af,ak,aj,al,ao,au,ar,(23,.v (.int .i32 ((0:Nat):Int)))])
      refine qkI (tb:=[aA,qa5 aG 3 (.agg #[ay,av,ae]) ((lst (T.at_ 3)).length) (aF + 1),aD]) (z:=.agg #[ai,ai,am,ai,ae,am,aa,aa,aa,aa,aa,aa,aa,aa,aa,aa,aa,aa,aa,aa,aa,aa,ae]) (cl:=qbQ) (ok:=qaM) (rel:=(qaU v)) (L:=lst (aC.at_ 1)) (size:=23) (qav v) dA (fun k=>[ac,ah,ag,af,ak,aj,al,ao,au,ar,(23,.v (.int .i32 ((k:Nat):Int)))]) fS qbh (fun ax ab _ _ cG fT fV=>?_) (fun _ _ fW=>?_)
      ·
       let bX:Env:=[(2,.v (.bool false)),(7,.p 0 0),(9,.v (.bool (decide (v ≥ 0)))),(10,.p 1 0),(14,.v (.slice (some ⟨aG,0,none⟩) ((lst (T.at_ 3)).length) bA)),(15,.v (.int .i32 (((lst (T.at_ 3)).length:Nat):Int))),(16,.v (.int .i32 ((aF:Nat):Int))),(18,.p 3 0),(21,.v (.slice (some ⟨az,0,none⟩) ((lst (aC.at_ 1)).length) bf)),(22,.v (.int .i32 (((lst (aC.at_ 1)).length:Nat):Int))),(23,.v (.int .i32 ((ax:Nat):Int)))]
       obtain ⟨kS,dJ,fX⟩:∃ P',(∀ w F,P' w F → (lp w F ∧ qgc az 23 qbQ qaM (qaU v) (lst (aC.at_ 1)) ax w F)) ∧ RS w (fun b o=>b = bv ∧ o < 6) F 255 aR [aA,qa5 aG 3 (.agg #[ay,av,ae]) ((lst (T.at_ 3)).length) (aF + 1),aD,qa5 az 23 (.agg #[ai,ai,am,ai,ae,am,aa,aa,aa,aa,aa,aa,aa,aa,aa,aa,aa,aa,aa,aa,aa,aa,ae]) ((lst (aC.at_ 1)).length) ax] bX P' ((qav v) ab ++ (((lst (aC.at_ 1)).drop (ax + 1)).flatMap (qav v) ++ dA)) _ _:=⟨_,fun _ _ h=>h,fV⟩
       obtain ⟨bk,dK⟩:∃ R,R = ((lst (aC.at_ 1)).drop (ax + 1)).flatMap (qav v) ++ dA:=⟨_,rfl⟩
       have fY:=(e96_1e ab (List.mem_of_getElem? cG))
       have e152r:=(qgw (qfd e96r 1) ab (List.mem_of_getElem? cG))
       unfold qbe at fY
       obtain ⟨e152_0,e152_1,e152_2,e152_3,e152_4,e152_U,e152_K,_⟩:=fY
       obtain ⟨kU,dL⟩:∃ R,R = (if (decide (v ≥ 0)) = true then (uv (tagC (!((ab.at_ 4).S.take 16).all (fun b_=>b_ == 0)) + ab.U.length)) ++ ((tagP (!((ab.at_ 4).S.take 16).all (fun b_=>b_ == 0)) 0 (qas (ab.at_ 4).S)) ++ (qbp ab.U)) else []) ++ bk:=⟨_,rfl⟩
       obtain ⟨cu,dM⟩:∃ R,R = (be 8 ((ab.at_ 3).N)) ++ kU:=⟨_,rfl⟩
       obtain ⟨kV,dN⟩:∃ R,R = (qaO v (ab.at_ 2)) ++ cu:=⟨_,rfl⟩
       obtain ⟨kW,dO⟩:∃ R,R = (be 4 ((IntKind.i32.wrap (ab.at_ 1).N))) ++ kV:=⟨_,rfl⟩
       obtain ⟨kX,dP⟩:∃ R,R = (be 4 ((IntKind.i32.wrap (ab.at_ 0).N))) ++ kW:=⟨_,rfl⟩
       have fZ:=fX.cast (t:=kX) (by rw [dP,dO,dN,dM,dL,← dK]; unfold qav; simp only [List.append_assoc])
       refine wp_seq (wp_seq ?_)
       let aw:Nat × SV:=(23,.v (.int .i32 ((ax:Nat):Int)))
       refine qbI [ac,ah,ag,af,ak,aj,al,ao,au,ar,aw,(126,.v (.bool (decide (((ax:Nat):Int) < (((lst (aC.at_ 1)).length:Nat):Int)))))] fZ fun _ dQ=>qaa ?_
       refine qbw dQ.env_ (b:=decide (((ax:Nat):Int) < (((lst (aC.at_ 1)).length:Nat):Int))) kz (decide_eq_true (by omega)) ?_
       refine wp_skip (qaa (wp_seq (wp_block (wp_seq ?_))))
       let dR:Env:=[(2,.v (.bool false)),(7,.p 0 0),(9,.v (.bool (decide (v ≥ 0)))),(10,.p 1 0),(14,.v (.slice (some ⟨aG,0,none⟩) ((lst (T.at_ 3)).length) bA)),(15,.v (.int .i32 (((lst (T.at_ 3)).length:Nat):Int))),(16,.v (.int .i32 ((aF:Nat):Int))),(18,.p 3 0),(21,.v (.slice (some ⟨az,0,none⟩) ((lst (aC.at_ 1)).length) bf)),(22,.v (.int .i32 (((lst (aC.at_ 1)).length:Nat):Int))),(23,.v (.int .i32 ((ax:Nat):Int))),(24,.p 5 0)]
       refine qkM (t:=99) (e:=108) (size:=23) (bytes:=64) (d:=131) (tb:=[aA,qa5 aG 3 (.agg #[ay,av,ae]) ((lst (T.at_ 3)).length) (aF + 1),aD]) (z:=.agg #[ai,ai,am,ai,ae,am,aa,aa,aa,aa,aa,aa,aa,aa,aa,aa,aa,aa,aa,aa,aa,aa,ae]) [ac,ah,ag,af,ak,aj,al,ao,au,ar,aw,(129,.v (.slice (some ⟨az,0,none⟩) ((lst (aC.at_ 1)).length) bf)),(130,.v (.int .i32 ((ax:Nat):Int)))] dR 2 dQ fT rfl kz fun _ f5=>?_
       have f7:=f5.tbEq (tb':=[aA,qa5 aG 3 (.agg #[ay,av,ae]) ((lst (T.at_ 3)).length) (aF + 1),aD,qa5 az 23 (.agg #[ai,ai,am,ai,ae,am,aa,aa,aa,aa,aa,aa,aa,aa,aa,aa,aa,aa,aa,aa,aa,aa,ae]) ((lst (aC.at_ 1)).length) (ax + 1),⟨az,ax * 23,[ai,ai,am,ai,ae,am,aa,aa,aa,aa,aa,aa,aa,aa,aa,aa,aa,aa,aa,aa,aa,aa,ae],true⟩]) rfl
       refine qaa (wp_seq (qaq [0,1] kz ?_))
       refine qcV [0] [1] [ac,ah,ag,af,ak,aj,al,ao,au,ar,aw,(24,.p 5 0),(132,.p 5 0)] f7 fun _ f8=>?_
       refine qam (qkH (d:=133) (vs:=[.pointer (some ⟨az,ax * 23,none⟩)]) f8 Tryz.call54 Tryz.func54 rfl Tryz.ntmps54 (fun _ f9=>?_))
       have ga:=(f9.recast 0 (.v (.pointer (some ⟨az,ax * 23,none⟩))) (.p 5 0) rfl rfl (Nat.le_of_ble_eq_true (n:=6) rfl)).pk (env':=[(0,.p 5 0)])
       refine wp_seq (qbI [(2,.p 5 2)] ga fun _ gb=>?_)
       refine qaa (qbI [] gb fun _ gc=>?_)
       refine qlq (v:=.tuple #[]) gc (fun _ gd=>?_) (⟨rfl,rfl,⟨rfl,rfl,⟨rfl,rfl,⟨rfl,rfl,⟨rfl,rfl,⟨rfl,rfl,trivial⟩⟩⟩⟩⟩⟩)
       refine qae ?_
       have ge:=gd.pk (env':=dR)
       refine qaa (wp_seq ?_)
       let aW:Env:=[(2,.v (.bool false)),(7,.p 0 0),(9,.v (.bool (decide (v ≥ 0)))),(10,.p 1 0),(14,.v (.slice (some ⟨aG,0,none⟩) ((lst (T.at_ 3)).length) bA)),(15,.v (.int .i32 (((lst (T.at_ 3)).length:Nat):Int))),(16,.v (.int .i32 ((aF:Nat):Int))),(18,.p 3 0),(21,.v (.slice (some ⟨az,0,none⟩) ((lst (aC.at_ 1)).length) bf)),(22,.v (.int .i32 (((lst (aC.at_ 1)).length:Nat):Int))),(23,.v (.int .i32 ((ax:Nat):Int))),(25,.p 5 0)]
       refine qbI aW ge fun _ gg=>?_
       refine qaa (wp_seq (wp_seq ?_))
       have gh:=gg.cast dP
       let aB:Nat × SV:=(25,.p 5 0)
       refine qdj (d:=135) [ac,ah,ag,af,ak,aj,al,ao,au,ar,aw,aB,(26,.v (.int .i32 (IntKind.i32.wrap (ab.at_ 0).N)))] gh (qhN _ _) Tryz.call44 fun _ _ gi=>?_
       refine qaa ?_
       let aO:Value:=.int .i32 (IntKind.i32.wrap (ab.at_ 0).N)
       refine qdL [aA,qa5 aG 3 (.agg #[ay,av,ae]) ((lst (T.at_ 3)).length) (aF + 1),aD,qa5 az 23 (.agg #[ai,ai,am,ai,ae,am,aa,aa,aa,aa,aa,aa,aa,aa,aa,aa,aa,aa,aa,aa,aa,aa,ae]) ((lst (aC.at_ 1)).length) (ax + 1),⟨az,ax * 23,[aO,ai,am,ai,ae,am,aa,aa,aa,aa,aa,aa,aa,aa,aa,aa,aa,aa,aa,aa,aa,aa,ae],true⟩] 4 aW gi fun _ _ gj=>?_
       refine qaa (wp_seq (wp_seq ?_))
       have gk:=gj.cast dO
       refine qdj (d:=140) [ac,ah,ag,af,ak,aj,al,ao,au,ar,aw,aB,(27,.v (.int .i32 (IntKind.i32.wrap (ab.at_ 1).N)))] gk (qhN _ _) Tryz.call44 fun _ _ gl=>?_
       refine qaa ?_
       let aS:Value:=.int .i32 (IntKind.i32.wrap (ab.at_ 1).N)
       refine qdL [aA,qa5 aG 3 (.agg #[ay,av,ae]) ((lst (T.at_ 3)).length) (aF + 1),aD,qa5 az 23 (.agg #[ai,ai,am,ai,ae,am,aa,aa,aa,aa,aa,aa,aa,aa,aa,aa,aa,aa,aa,aa,aa,aa,ae]) ((lst (aC.at_ 1)).length) (ax + 1),⟨az,ax * 23,[aO,aS,am,ai,ae,am,aa,aa,aa,aa,aa,aa,aa,aa,aa,aa,aa,aa,aa,aa,aa,aa,ae],true⟩] 4 aW gl fun _ _ gm=>?_
       refine qaa ?_
       have gn:=gm.cast dN
       have gp:=e152_2
       have e184r:=(qfd e152r 2)
       unfold qba at gp
       obtain ⟨e184_0,e184_1,e184_U,_⟩:=gp
       obtain ⟨kY,dS⟩:∃ R,R = (if (decide (v ≥ 0)) = true then (uv (ab.at_ 2).U.length) ++ (qbp (ab.at_ 2).U) else []) ++ cu:=⟨_,rfl⟩
       obtain ⟨kZ,dT⟩:∃ R,R = (be 4 ((IntKind.i32.wrap ((ab.at_ 2).at_ 1).N))) ++ kY:=⟨_,rfl⟩
       obtain ⟨k7,dU⟩:∃ R,R = (be 8 (((ab.at_ 2).at_ 0).N)) ++ kZ:=⟨_,rfl⟩
       have gq:=gn.cast (t:=k7) (by rw [dU,dT,dS]; unfold qaO; simp only [List.append_assoc])
       refine wp_seq (wp_seq ?_)
       let dV:Env:=[(2,.v (.bool false)),(7,.p 0 0),(9,.v (.bool (decide (v ≥ 0)))),(10,.p 1 0),(14,.v (.slice (some ⟨aG,0,none⟩) ((lst (T.at_ 3)).length) bA)),(15,.v (.int .i32 (((lst (T.at_ 3)).length:Nat):Int))),(16,.v (.int .i32 ((aF:Nat):Int))),(18,.p 3 0),(21,.v (.slice (some ⟨az,0,none⟩) ((lst (aC.at_ 1)).length) bf)),(22,.v (.int .i32 (((lst (aC.at_ 1)).length:Nat):Int))),(23,.v (.int .i32 ((ax:Nat):Int))),(25,.p 5 0),(28,.p 5 2)]
       refine qbI dV gq fun _ gt=>?_
       refine qaa (wp_seq (qaq [0,1] kz ?_))
       refine qcV [0] [1] [ac,ah,ag,af,ak,aj,al,ao,au,ar,aw,aB,(28,.p 5 2),(148,.p 5 2)] gt fun _ gv=>?_
       refine qam (qlO (d:=149) (vs:=[.pointer (some ⟨az,ax * 23 + 2,none⟩)]) gv (fun _=>qnC _ _ _) Tryz.call55 fun _ gw=>?_)
       refine qae ?_
       have gx:=gw.pk (env':=dV)
       refine qaa (wp_seq ?_)
       let cH:Env:=[(2,.v (.bool false)),(7,.p 0 0),(9,.v (.bool (decide (v ≥ 0)))),(10,.p 1 0),(14,.v (.slice (some ⟨aG,0,none⟩) ((lst (T.at_ 3)).length) bA)),(15,.v (.int .i32 (((lst (T.at_ 3)).length:Nat):Int))),(16,.v (.int .i32 ((aF:Nat):Int))),(18,.p 3 0),(21,.v (.slice (some ⟨az,0,none⟩) ((lst (aC.at_ 1)).length) bf)),(22,.v (.int .i32 (((lst (aC.at_ 1)).length:Nat):Int))),(23,.v (.int .i32 ((ax:Nat):Int))),(25,.p 5 0),(29,.p 5 2)]
       refine qbI cH gx fun _ gy=>?_
       refine qaa (wp_seq (wp_seq ?_))
       have gz:=gy.cast dU
       refine qdj (d:=151) [ac,ah,ag,af,ak,aj,al,ao,au,ar,aw,aB,(29,.p 5 2),(30,.v (.int .i64 (IntKind.i64.wrap ((ab.at_ 2).at_ 0).N)))] gz (qlP _ _) Tryz.call56 fun _ _ gA=>?_
       refine qaa ?_
       let aX:Value:=.int .i64 (IntKind.i64.wrap ((ab.at_ 2).at_ 0).N)
       refine qdL [aA,qa5 aG 3 (.agg #[ay,av,ae]) ((lst (T.at_ 3)).length) (aF + 1),aD,qa5 az 23 (.agg #[ai,ai,am,ai,ae,am,aa,aa,aa,aa,aa,aa,aa,aa,aa,aa,aa,aa,aa,aa,aa,aa,ae]) ((lst (aC.at_ 1)).length) (ax + 1),⟨az,ax * 23,[aO,aS,aX,ai,ae,am,aa,aa,aa,aa,aa,aa,aa,aa,aa,aa,aa,aa,aa,aa,aa,aa,ae],true⟩] 4 cH gA fun _ _ gB=>?_
       refine qaa (wp_seq (wp_seq ?_))
       have gC:=gB.cast dT
       refine qdj (d:=156) [ac,ah,ag,af,ak,aj,al,ao,au,ar,aw,aB,(29,.p 5 2),(31,.v (.int .i32 (IntKind.i32.wrap ((ab.at_ 2).at_ 1).N)))] gC (qhN _ _) Tryz.call44 fun _ _ gD=>?_
       refine qaa ?_
       let bg:Value:=.int .i32 (IntKind.i32.wrap ((ab.at_ 2).at_ 1).N)
       refine qdL [aA,qa5 aG 3 (.agg #[ay,av,ae]) ((lst (T.at_ 3)).length) (aF + 1),aD,qa5 az 23 (.agg #[ai,ai,am,ai,ae,am,aa,aa,aa,aa,aa,aa,aa,aa,aa,aa,aa,aa,aa,aa,aa,aa,ae]) ((lst (aC.at_ 1)).length) (ax + 1),⟨az,ax * 23,[aO,aS,aX,bg,ae,am,aa,aa,aa,aa,aa,aa,aa,aa,aa,aa,aa,aa,aa,aa,aa,aa,ae],true⟩] 4 cH gD fun _ _ gE=>?_
       refine qaa ?_
       have gF:=gE.cast dS
       refine qfL (Mid:=fun a_ w_=>∃ (aU:Option Nat) (bN:List (Int × Bs)) (P':qcb),(∀ w F,P' w F → kS w F ∧ (MapR w F aU bN ∧ bN.length ≤ 1000000 ∧ ∀ x ∈ bN,x.2.length < 4294967296) ∧ ((decide (v ≥ 0)) = true → bN = (ab.at_ 2).U) ∧ ((decide (v ≥ 0)) = false → bN = [])) ∧ RS w (fun b o=>b = bv ∧ o < 6) F 255 aR [aA,qa5 aG 3 (.agg #[ay,av,ae]) ((lst (T.at_ 3)).length) (aF + 1),aD,qa5 az 23 (.agg #[ai,ai,am,ai,ae,am,aa,aa,aa,aa,aa,aa,aa,aa,aa,aa,aa,aa,aa,aa,aa,aa,ae]) ((lst (aC.at_ 1)).length) (ax + 1),⟨az,ax * 23,[aO,aS,aX,bg,.map aU,am,aa,aa,aa,aa,aa,aa,aa,aa,aa,aa,aa,aa,aa,aa,aa,aa,ae],true⟩] aW P' cu a_ w_) ?_ ?_
       ·
        refine wp_seq (qbI [ac,ah,ag,af,ak,aj,al,ao,au,ar,aw,aB,(29,.p 5 2),(161,.v (.bool (decide (v ≥ 0))))] gF fun _ cI=>qaa ?_)
        refine qaA cI.env_ (b:=decide (v ≥ 0)) kz (fun bF=>?_) (fun bF=>?_)
        ·
         have gG:=cI.cast (t:=((uv (ab.at_ 2).U.length) ++ (qbp (ab.at_ 2).U)) ++ cu) (by rw [if_pos bF])
         refine qaq [0,1,2,3,4] kz ?_
         refine qcV [0] [1,2,3,4] [ac,ah,ag,af,ak,aj,al,ao,au,ar,aw,aB,(162,.p 5 2)] gG fun _ gH=>?_
         refine qam (qis (d:=163) gH (qnd (ab.at_ 2).U e184_U (qdF e184r) _) (fun _=>MvF.tags _ _) Tryz.call57 fun eW lC _ _ dW gI=>?_)
         refine qcV [2,3] [4] [ac,ah,ag,af,ak,aj,al,ao,au,ar,aw,aB,(163,.v (.agg #[.map eW])),(165,.p 5 4)] gI fun _ gJ=>?_
         refine qam (qfe [aA,qa5 aG 3 (.agg #[ay,av,ae]) ((lst (T.at_ 3)).length) (aF + 1),aD,qa5 az 23 (.agg #[ai,ai,am,ai,ae,am,aa,aa,aa,aa,aa,aa,aa,aa,aa,aa,aa,aa,aa,aa,aa,aa,ae]) ((lst (aC.at_ 1)).length) (ax + 1),⟨az,ax * 23,[aO,aS,aX,bg,.map eW,am,aa,aa,aa,aa,aa,aa,aa,aa,aa,aa,aa,aa,aa,aa,aa,aa,ae],true⟩] 4 gJ fun _ gK=>?_)
         refine qae ?_
         have gL:=gK.pk (env':=aW)
         refine qaa ?_
         exact ⟨eW,(ab.at_ 2).U,_,fun w F h_=>⟨(dW _ _ h_).1,⟨(dW _ _ h_).2,e184_U.2.1,e184_U.2.2⟩,⟨fun _=>rfl,(fun e_=>by rw [bF] at e_; cases e_)⟩⟩,gL.pk (env':=aW)⟩
        have gM:=cI.cast (t:=[] ++ cu) (by rw [if_neg (by rw [bF]; decide)])
        have gN:=gM.cast (t:=cu) rfl
        refine wp_skip (qaa ?_)
        exact ⟨none,[],_,fun w F h_=>⟨h_,⟨MapR.nil _ _,Nat.zero_le _,fun _ h=>by cases h⟩,⟨(fun e_=>by rw [bF] at e_; cases e_),fun _=>rfl⟩⟩,gN.pk (env':=aW)⟩
       rintro _ _ ⟨aU,bN,bO,bu,gO⟩
       refine qaa (wp_seq (wp_seq ?_))
       have gP:=gO.cast dM
       refine qdj (d:=166) [ac,ah,ag,af,ak,aj,al,ao,au,ar,aw,aB,(32,.v (.int .i64 (IntKind.i64.wrap (ab.at_ 3).N)))] gP (qlP _ _) Tryz.call56 fun _ _ gQ=>?_
       refine qaa ?_
       let aT:Ob:=⟨az,ax * 23,[.int .i32 (IntKind.i32.wrap (ab.at_ 0).N),.int .i32 (IntKind.i32.wrap (ab.at_ 1).N),.int .i64 (IntKind.i64.wrap ((ab.at_ 2).at_ 0).N),.int .i32 (IntKind.i32.wrap ((ab.at_ 2).at_ 1).N),.map aU,.int .i64 (IntKind.i64.wrap (ab.at_ 3).N),.int .u8 0,.int .u8 0,.int .u8 0,.int .u8 0,.int .u8 0,.int .u8 0,.int .u8 0,.int .u8 0,.int .u8 0,.int .u8 0,.int .u8 0,.int .u8 0,.int .u8 0,.int .u8 0,.int .u8 0,.int .u8 0,.map none],true⟩
       refine qdL [aA,qa5 aG 3 (.agg #[ay,av,ae]) ((lst (T.at_ 3)).length) (aF + 1),aD,qa5 az 23 (.agg #[ai,ai,am,ai,ae,am,aa,aa,aa,aa,aa,aa,aa,aa,aa,aa,aa,aa,aa,aa,aa,aa,ae]) ((lst (aC.at_ 1)).length) (ax + 1),aT] 4 aW gQ fun _ _ gR=>?_
       refine qaa ?_
       have gS:=gR.cast dL
       let bY:Value:=.int .i64 (IntKind.i64.wrap (ab.at_ 3).N)
       refine qfL (Mid:=fun a_ w_=>∃ (aI:DV) (dj:Option Nat) (bP:List (Int × Bs)) (P':qcb),(∀ w F,P' w F → bO w F ∧ ((aI.o.length = 16) ∧ ((((if (decide (v ≥ 0)) = true then (!((ab.at_ 4).S.take 16).all (fun b_=>b_ == 0)) else false)) = true → aI.o = qas (ab.at_ 4).S) ∧ (((if (decide (v ≥ 0)) = true then (!((ab.at_ 4).S.take 16).all (fun b_=>b_ == 0)) else false)) = false → aI.o = List.replicate 16 0))) ∧ (MapR w F dj bP ∧ bP.length ≤ 1000000 ∧ ∀ x ∈ bP,x.2.length < 4294967296) ∧ ((decide (v ≥ 0)) = true → bP = ab.U) ∧ ((decide (v ≥ 0)) = false → bP = [])) ∧ RS w (fun b o=>b = bv ∧ o < 6) F 255 aR [aA,qa5 aG 3 (.agg #[ay,av,ae]) ((lst (T.at_ 3)).length) (aF + 1),aD,qa5 az 23 (.agg #[ai,ai,am,ai,ae,am,aa,aa,aa,aa,aa,aa,aa,aa,aa,aa,aa,aa,aa,aa,aa,aa,ae]) ((lst (aC.at_ 1)).length) (ax + 1),⟨az,ax * 23,[aO,aS,aX,bg,.map aU,bY,qag (aI.o.getD 0 0),qag (aI.o.getD 1 0),qag (aI.o.getD 2 0),qag (aI.o.getD 3 0),qag (aI.o.getD 4 0),qag (aI.o.getD 5 0),qag (aI.o.getD 6 0),qag (aI.o.getD 7 0),qag (aI.o.getD 8 0),qag (aI.o.getD 9 0),qag (aI.o.getD 10 0),qag (aI.o.getD 11 0),qag (aI.o.getD 12 0),qag (aI.o.getD 13 0),qag (aI.o.getD 14 0),qag (aI.o.getD 15 0),.map dj],true⟩] bX P' bk a_ w_) ?_ ?_
       ·
        refine wp_seq (qbI [ac,ah,ag,af,ak,aj,al,ao,au,ar,aw,aB,(171,.v (.bool (decide (v ≥ 0))))] gS fun _ cJ=>qaa ?_)
        refine qaA cJ.env_ (b:=decide (v ≥ 0)) kz (fun aY=>?_) (fun aY=>?_)
        ·
         have gT:=cJ.cast (t:=((uv (tagC (!((ab.at_ 4).S.take 16).all (fun b_=>b_ == 0)) + ab.U.length)) ++ ((tagP (!((ab.at_ 4).S.take 16).all (fun b_=>b_ == 0)) 0 (qas (ab.at_ 4).S)) ++ (qbp ab.U))) ++ bk) (by rw [if_pos aY])
         obtain ⟨bn,dX⟩:∃ R,R = qbp ab.U ++ bk:=⟨_,rfl⟩
         obtain ⟨dl,cK⟩:∃ R,R = tagP (!((ab.at_ 4).S.take 16).all (fun b_=>b_ == 0)) 0 (qas (ab.at_ 4).S) ++ bn:=⟨_,rfl⟩
         have gU:=gT.cast (t:=uv (tagC (!((ab.at_ 4).S.take 16).all (fun b_=>b_ == 0)) + ab.U.length) ++ dl) (by rw [cK,dX]; simp only [List.append_assoc])
         refine wp_seq (qdj (d:=172) [ac,ah,ag,af,ak,aj,al,ao,au,ar,aw,aB,(33,.v (.int .u32 (((tagC (!((ab.at_ 4).S.take 16).all (fun b_=>b_ == 0)) + ab.U.length):Nat):Int)))] gU (pUv (tagC (!((ab.at_ 4).S.take 16).all (fun b_=>b_ == 0)) + ab.U.length) (by have t0_:=qg1 (!((ab.at_ 4).S.take 16).all (fun b_=>b_ == 0)); have hu_:=e152_U.2.1; omega) _) Tryz.call58 fun _ _ gV=>?_)
         refine qaa (wp_block ?_)
         obtain ⟨eX,bZ⟩:∃ I:Nat → Act → World → Prop,I = (fun q_ a_ w_=>((!((ab.at_ 4).S.take 16).all (fun b_=>b_ == 0)) = true ∧ q_ = (tagC (!((ab.at_ 4).S.take 16).all (fun b_=>b_ == 0)) + ab.U.length) ∧ ∃ (P':qcb),(∀ w F,P' w F → bO w F) ∧ RS w (fun b o=>b = bv ∧ o < 6) F 255 aR [aA,qa5 aG 3 (.agg #[ay,av,ae]) ((lst (T.at_ 3)).length) (aF + 1),aD,qa5 az 23 (.agg #[ai,ai,am,ai,ae,am,aa,aa,aa,aa,aa,aa,aa,aa,aa,aa,aa,aa,aa,aa,aa,aa,ae]) ((lst (aC.at_ 1)).length) (ax + 1),aT] [ac,ah,ag,af,ak,aj,al,ao,au,ar,aw,aB,(33,.v (.int .u32 (((tagC (!((ab.at_ 4).S.take 16).all (fun b_=>b_ == 0)) + ab.U.length):Nat):Int)))] P' dl a_ w_) ∨ (∃ (ap:DV) (P':qcb) (w1_:World) (m_:Option Nat) (j_:Nat),q_ = ab.U.length - j_ ∧ j_ ≤ ab.U.length ∧ (∀ w F,P' w F → bO w F ∧ ((ap.o.length = 16) ∧ ((((if (decide (v ≥ 0)) = true then (!((ab.at_ 4).S.take 16).all (fun b_=>b_ == 0)) else false)) = true → ap.o = qas (ab.at_ 4).S) ∧ (((if (decide (v ≥ 0)) = true then (!((ab.at_ 4).S.take 16).all (fun b_=>b_ == 0)) else false)) = false → ap.o = List.replicate 16 0)))) ∧ TU w w1_ (fun b o=>b = bv ∧ o < 6) F 255 aR [aA,qa5 aG 3 (.agg #[ay,av,ae]) ((lst (T.at_ 3)).length) (aF + 1),aD,qa5 az 23 (.agg #[ai,ai,am,ai,ae,am,aa,aa,aa,aa,aa,aa,aa,aa,aa,aa,aa,aa,aa,aa,aa,aa,ae]) ((lst (aC.at_ 1)).length) (ax + 1),⟨az,ax * 23,[aO,aS,aX,bg,.map aU,bY,qag (ap.o.getD 0 0),qag (ap.o.getD 1 0),qag (ap.o.getD 2 0),qag (ap.o.getD 3 0),qag (ap.o.getD 4 0),qag (ap.o.getD 5 0),qag (ap.o.getD 6 0),qag (ap.o.getD 7 0),qag (ap.o.getD 8 0),qag (ap.o.getD 9 0),qag (ap.o.getD 10 0),qag (ap.o.getD 11 0),qag (ap.o.getD 12 0),qag (ap.o.getD 13 0),qag (ap.o.getD 14 0),qag (ap.o.getD 15 0),ae],true⟩] [aA,qa5 aG 3 (.agg #[ay,av,ae]) ((lst (T.at_ 3)).length) (aF + 1),aD,qa5 az 23 (.agg #[ai,ai,am,ai,ae,am,aa,aa,aa,aa,aa,aa,aa,aa,aa,aa,aa,aa,aa,aa,aa,aa,ae]) ((lst (aC.at_ 1)).length) (ax + 1),⟨az,ax * 23,[aO,aS,aX,bg,.map aU,bY,qag (ap.o.getD 0 0),qag (ap.o.getD 1 0),qag (ap.o.getD 2 0),qag (ap.o.getD 3 0),qag (ap.o.getD 4 0),qag (ap.o.getD 5 0),qag (ap.o.getD 6 0),qag (ap.o.getD 7 0),qag (ap.o.getD 8 0),qag (ap.o.getD 9 0),qag (ap.o.getD 10 0),qag (ap.o.getD 11 0),qag (ap.o.getD 12 0),qag (ap.o.getD 13 0),qag (ap.o.getD 14 0),qag (ap.o.getD 15 0),.map m_],true⟩] [ac,ah,ag,af,ak,aj,al,ao,au,ar,aw,aB,(33,.v (.int .u32 ((ab.U.length - j_:Nat):Int)))] P' (qbp (ab.U.drop j_) ++ bk) m_ (ab.U.take j_) a_ w_)):=⟨_,rfl⟩
         have cL:∀ (ap:DV) (P':qcb) (a_:Act) (w_:World),(∀ w F,P' w F → bO w F ∧ ((ap.o.length = 16) ∧ ((((if (decide (v ≥ 0)) = true then (!((ab.at_ 4).S.take 16).all (fun b_=>b_ == 0)) else false)) = true → ap.o = qas (ab.at_ 4).S) ∧ (((if (decide (v ≥ 0)) = true then (!((ab.at_ 4).S.take 16).all (fun b_=>b_ == 0)) else false)) = false → ap.o = List.replicate 16 0)))) → RS w (fun b o=>b = bv ∧ o < 6) F 255 aR [⟨bv,0,[.int .i16 v,.pointer none,.int .i32 (IntKind.i32.wrap (T.at_ 1).N),.int .i32 (IntKind.i32.wrap (T.at_ 2).N),.slice none 0 0,.map none],true⟩,qa5 aG 3 (.agg #[.string ByteArray.empty,.slice none 0 0,.map none]) ((lst (T.at_ 3)).length) (aF + 1),⟨aG,aF * 3,[.string (bs (aC.at_ 0).S),.slice none 0 0,.map none],true⟩,qa5 az 23 (.agg #[.int .i32 0,.int .i32 0,.int .i64 0,.int .i32 0,.map none,.int .i64 0,.int .u8 0,.int .u8 0,.int .u8 0,.int .u8 0,.int .u8 0,.int .u8 0,.int .u8 0,.int .u8 0,.int .u8 0,.int .u8 0,.int .u8 0,.int .u8 0,.int .u8 0,.int .u8 0,.int .u8 0,.int .u8 0,.map none]) ((lst (aC.at_ 1)).length) (ax + 1),⟨az,ax * 23,[.int .i32 (IntKind.i32.wrap (ab.at_ 0).N),.int .i32 (IntKind.i32.wrap (ab.at_ 1).N),.int .i64 (IntKind.i64.wrap ((ab.at_ 2).at_ 0).N),.int .i32 (IntKind.i32.wrap ((ab.at_ 2).at_ 1).N),.map aU,.int .i64 (IntKind.i64.wrap (ab.at_ 3).N),qag (ap.o.getD 0 0),qag (ap.o.getD 1 0),qag (ap.o.getD 2 0),qag (ap.o.getD 3 0),qag (ap.o.getD 4 0),qag (ap.o.getD 5 0),qag (ap.o.getD 6 0),qag (ap.o.getD 7 0),qag (ap.o.getD 8 0),qag (ap.o.getD 9 0),qag (ap.o.getD 10 0),qag (ap.o.getD 11 0),qag (ap.o.getD 12 0),qag (ap.o.getD 13 0),qag (ap.o.getD 14 0),qag (ap.o.getD 15 0),.map none],true⟩] [(2,.v (.bool false)),(7,.p 0 0),(9,.v (.bool (decide (v ≥ 0)))),(10,.p 1 0),(14,.v (.slice (some ⟨aG,0,none⟩) ((lst (T.at_ 3)).length) bA)),(15,.v (.int .i32 (((lst (T.at_ 3)).length:Nat):Int))),(16,.v (.int .i32 ((aF:Nat):Int))),(18,.p 3 0),(21,.v (.slice (some ⟨az,0,none⟩) ((lst (aC.at_ 1)).length) bf)),(22,.v (.int .i32 (((lst (aC.at_ 1)).length:Nat):Int))),(23,.v (.int .i32 ((ax:Nat):Int))),(25,.p 5 0),(33,.v (.int .u32 ((ab.U.length:Nat):Int)))] P' bn a_ w_ → eX ab.U.length a_ w_:=by
          intro ap P' a_ w_ hp_ hs_
          have h_:=(TU.start hs_).cast dX
          rw [bZ]
          exact .inr (⟨ap,P',w_,none,0,rfl,Nat.zero_le _,hp_,h_⟩)
         have eY:∀ (P':qcb) (a_:Act) (w_:World),(∀ w F,P' w F → bO w F) → RS w (fun b o=>b = bv ∧ o < 6) F 255 aR [⟨bv,0,[.int .i16 v,.pointer none,.int .i32 (IntKind.i32.wrap (T.at_ 1).N),.int .i32 (IntKind.i32.wrap (T.at_ 2).N),.slice none 0 0,.map none],true⟩,qa5 aG 3 (.agg #[.string ByteArray.empty,.slice none 0 0,.map none]) ((lst (T.at_ 3)).length) (aF + 1),⟨aG,aF * 3,[.string (bs (aC.at_ 0).S),.slice none 0 0,.map none],true⟩,qa5 az 23 (.agg #[.int .i32 0,.int .i32 0,.int .i64 0,.int .i32 0,.map none,.int .i64 0,.int .u8 0,.int .u8 0,.int .u8 0,.int .u8 0,.int .u8 0,.int .u8 0,.int .u8 0,.int .u8 0,.int .u8 0,.int .u8 0,.int .u8 0,.int .u8 0,.int .u8 0,.int .u8 0,.int .u8 0,.int .u8 0,.map none]) ((lst (aC.at_ 1)).length) (ax + 1),⟨az,ax * 23,[.int .i32 (IntKind.i32.wrap (ab.at_ 0).N),.int .i32 (IntKind.i32.wrap (ab.at_ 1).N),.int .i64 (IntKind.i64.wrap ((ab.at_ 2).at_ 0).N),.int .i32 (IntKind.i32.wrap ((ab.at_ 2).at_ 1).N),.map aU,.int .i64 (IntKind.i64.wrap (ab.at_ 3).N),.int .u8 0,.int .u8 0,.int .u8 0,.int .u8 0,.int .u8 0,.int .u8 0,.int .u8 0,.int .u8 0,.int .u8 0,.int .u8 0,.int .u8 0,.int .u8 0,.int .u8 0,.int .u8 0,.int .u8 0,.int .u8 0,.map none],true⟩] [(2,.v (.bool false)),(7,.p 0 0),(9,.v (.bool (decide (v ≥ 0)))),(10,.p 1 0),(14,.v (.slice (some ⟨aG,0,none⟩) ((lst (T.at_ 3)).length) bA)),(15,.v (.int .i32 (((lst (T.at_ 3)).length:Nat):Int))),(16,.v (.int .i32 ((aF:Nat):Int))),(18,.p 3 0),(21,.v (.slice (some ⟨az,0,none⟩) ((lst (aC.at_ 1)).length) bf)),(22,.v (.int .i32 (((lst (aC.at_ 1)).length:Nat):Int))),(23,.v (.int .i32 ((ax:Nat):Int))),(25,.p 5 0),(33,.v (.int .u32 (((tagC (!((ab.at_ 4).S.take 16).all (fun b_=>b_ == 0)) + ab.U.length):Nat):Int)))] P' dl a_ w_ → eX (tagC (!((ab.at_ 4).S.take 16).all (fun b_=>b_ == 0)) + ab.U.length) a_ w_:=by
          intro P' a_ w_ hp_ hs_
          rcases Bool.eq_false_or_eq_true (!((ab.at_ 4).S.take 16).all (fun b_=>b_ == 0)) with bG | bG
          ·
           rw [bZ]
           exact .inl ⟨bG,rfl,P',hp_,hs_⟩
          have e_:(tagC (!((ab.at_ 4).S.take 16).all (fun b_=>b_ == 0)) + ab.U.length) = ab.U.length:=by rw [qg2 bG,Nat.zero_add]
          have f_:dl = bn:=by rw [cK,qfs bG]; rfl
          have g_:=cL (dvO none (List.replicate 16 0) 0) P' a_ w_ (fun w F h_=>⟨(hp_ w F h_),⟨rfl,⟨(fun e2_=>by rw [if_pos (by exact aY),bG] at e2_; cases e2_),fun _=>rfl⟩⟩⟩) ((hs_.cast f_).envEq (env':=[ac,ah,ag,af,ak,aj,al,ao,au,ar,aw,aB,(33,.v (.int .u32 ((ab.U.length:Nat):Int)))]) (by rw [e_]))
          rw [e_]
          exact g_
         have gW:=gV.pk (env':=[ac,ah,ag,af,ak,aj,al,ao,au,ar,aw,aB,(33,.v (.int .u32 (((tagC (!((ab.at_ 4).S.take 16).all (fun b_=>b_ == 0)) + ab.U.length):Nat):Int)))])
         refine wp_loop_ghost eX (tagC (!((ab.at_ 4).S.take 16).all (fun b_=>b_ == 0)) + ab.U.length) (eY bO _ _ (fun w F h_=>h_) gW) ?_
         rintro q_ aq wq dY
         rw [bZ] at dY
         rcases dY with ⟨bH,rfl,la,cM,gX⟩ | ⟨ap,gY,lb,eZ,aK,rfl,hj_,cN,gZ⟩
         ·
          replace cM:∀ w F,la w F → bO w F ∧ True:=fun w F h_=>⟨cM w F h_,trivial⟩
          have hC:=gX.cast (t:=uv 0 ++ (uv (qas (ab.at_ 4).S).length ++ ((qas (ab.at_ 4).S) ++ bn))) (by rw [cK,qfH bH]; simp only [List.append_assoc])
          refine wp_seq (wp_seq (qbI [ac,ah,ag,af,ak,aj,al,ao,au,ar,aw,aB,(33,.v (.int .u32 (((tagC (!((ab.at_ 4).S.take 16).all (fun b_=>b_ == 0)) + ab.U.length):Nat):Int))),(174,.v (.bool (decide ((((tagC (!((ab.at_ 4).S.take 16).all (fun b_=>b_ == 0)) + ab.U.length):Nat):Int) > 0))))] hC fun _ dZ=>qaa ?_))
          refine qbw dZ.env_ (b:=decide ((((tagC (!((ab.at_ 4).S.take 16).all (fun b_=>b_ == 0)) + ab.U.length):Nat):Int) > 0)) kz (decide_eq_true (by rw [qdh bH]; omega)) ?_
          refine wp_skip (qaa (wp_seq (wp_block (wp_seq (qdj (d:=177) [ac,ah,ag,af,ak,aj,al,ao,au,ar,aw,aB,(33,.v (.int .u32 (((tagC (!((ab.at_ 4).S.take 16).all (fun b_=>b_ == 0)) + ab.U.length):Nat):Int))),(34,.v (.int .u32 0))] dZ ((show qcY _ _ _ (uv (qas (ab.at_ 4).S).length ++ ((qas (ab.at_ 4).S) ++ bn)) (.int .u32 0) from @pUv 0 (by decide) (uv (qas (ab.at_ 4).S).length ++ ((qas (ab.at_ 4).S) ++ bn)))) Tryz.call58 fun _ _ hJ=>?_)))))
          refine qaa (wp_seq (qbI [ac,ah,ag,af,ak,aj,al,ao,au,ar,aw,aB,(33,.v (.int .u32 (((tagC (!((ab.at_ 4).S.take 16).all (fun b_=>b_ == 0)) + ab.U.length):Nat):Int))),(34,.v (.int .u32 0)),(178,.v (.int .u32 0))] hJ fun _ hK=>?_))
          refine qaa (wp_block (wp_seq (qbI [ac,ah,ag,af,ak,aj,al,ao,au,ar,aw,aB,(33,.v (.int .u32 (((tagC (!((ab.at_ 4).S.take 16).all (fun b_=>b_ == 0)) + ab.U.length):Nat):Int))),(34,.v (.int .u32 0)),(187,.v (.bool true))] hK fun _ d5=>qaa ?_)))
          refine qbw d5.env_ (b:=true) kz (rfl) ?_
          refine wp_seq (qaq [0,1,2,3,4,5] kz ?_)
          refine qam (qfJ (d:=189) d5 (pUv ((qas (ab.at_ 4).S).length) (qnk _) ((qas (ab.at_ 4).S) ++ bn)) Tryz.call58 fun _ _ hZ=>?_)
          refine qcV [1] [2,3,4,5] [ac,ah,ag,af,ak,aj,al,ao,au,ar,aw,aB,(33,.v (.int .u32 (((tagC (!((ab.at_ 4).S.take 16).all (fun b_=>b_ == 0)) + ab.U.length):Nat):Int))),(190,.v (.int .i64 (IntKind.i64.wrap (((qas (ab.at_ 4).S).length:Nat):Int))))] hZ fun _ ia=>?_
          refine qam (qkO (d:=191) (q:=(IntKind.i64.wrap (((qas (ab.at_ 4).S).length:Nat):Int))) (X:=qas (ab.at_ 4).S) (rest:=bn) ia (by have h_:(qas (ab.at_ 4).S).length < 4294967296:=(qnk _); first | exact wrap_i64 (by omega) (by omega) | rfl) (qha _ _) Tryz.call60 fun ib lc _ _ d6 ic=>?_)
          let d7:Nat × SV:=(192,.v (.agg #[.slice ib ((qas (ab.at_ 4).S).length) ((qas (ab.at_ 4).S).length),.bool false]))
          refine qcV [3] [4,5] [ac,ah,ag,af,ak,aj,al,ao,au,ar,aw,aB,(33,.v (.int .u32 (((tagC (!((ab.at_ 4).S.take 16).all (fun b_=>b_ == 0)) + ab.U.length):Nat):Int))),d7] ic fun _ ig=>?_
          refine qam (qg9 (d:=35) [av,aN] ig fun e9 _ _ hb_b278 ii=>?_)
          have ij:=(ii.tbEq (tb':=[aA,qa5 aG 3 (.agg #[ay,av,ae]) ((lst (T.at_ 3)).length) (aF + 1),aD,qa5 az 23 (.agg #[ai,ai,am,ai,ae,am,aa,aa,aa,aa,aa,aa,aa,aa,aa,aa,aa,aa,aa,aa,aa,aa,ae]) ((lst (aC.at_ 1)).length) (ax + 1),aT,⟨e9,0,[av,aN],true⟩]) rfl).pk (env':=[ac,ah,ag,af,ak,aj,al,ao,au,ar,aw,aB,(33,.v (.int .u32 (((tagC (!((ab.at_ 4).S.take 16).all (fun b_=>b_ == 0)) + ab.U.length):Nat):Int))),d7,(35,.p 6 0)])
          refine qam (qfe [aA,qa5 aG 3 (.agg #[ay,av,ae]) ((lst (T.at_ 3)).length) (aF + 1),aD,qa5 az 23 (.agg #[ai,ai,am,ai,ae,am,aa,aa,aa,aa,aa,aa,aa,aa,aa,aa,aa,aa,aa,aa,aa,aa,ae]) ((lst (aC.at_ 1)).length) (ax + 1),aT,⟨e9,0,[.slice ib ((qas (ab.at_ 4).S).length) ((qas (ab.at_ 4).S).length),aN],true⟩] 5 ij fun _ ik=>?_)
          refine qae ?_
          have d8:=ik.pk (env':=[ac,ah,ag,af,ak,aj,al,ao,au,ar,aw,aB,(33,.v (.int .u32 (((tagC (!((ab.at_ 4).S.take 16).all (fun b_=>b_ == 0)) + ab.U.length):Nat):Int))),(35,.p 6 0)])
          obtain ⟨il,im,io,d9⟩:=RS.nest (tb:=[aA,qa5 aG 3 (.agg #[ay,av,ae]) ((lst (T.at_ 3)).length) (aF + 1),aD,qa5 az 23 (.agg #[ai,ai,am,ai,ae,am,aa,aa,aa,aa,aa,aa,aa,aa,aa,aa,aa,aa,aa,aa,aa,aa,ae]) ((lst (aC.at_ 1)).length) (ax + 1),aT]) (si:=qas (ab.at_ 4).S) d8 (fun w F h_=>(d6 _ _ h_).2)
          let bw:Ob:=⟨aR,0,[.slice il im io,.bool false],true⟩
          let aZ:Nat × SV:=(7,.p 6 0)
          have ea:=((d9.tbEq (tb':=[aA,qa5 aG 3 (.agg #[ay,av,ae]) ((lst (T.at_ 3)).length) (aF + 1),aD,qa5 az 23 (.agg #[ai,ai,am,ai,ae,am,aa,aa,aa,aa,aa,aa,aa,aa,aa,aa,aa,aa,aa,aa,aa,aa,ae]) ((lst (aC.at_ 1)).length) (ax + 1),aT,bw]) rfl).envEq (env':=[ac,aZ,ag,af,ak,aj,al,ao,au,ar,aw,aB,(33,.v (.int .u32 (((tagC (!((ab.at_ 4).S.take 16).all (fun b_=>b_ == 0)) + ab.U.length):Nat):Int))),(35,.p 0 0)]) kz).cast (t:=(qas (ab.at_ 4).S) ++ ([]:Bs)) (List.append_nil _).symm
          obtain ⟨lD,eb,ip⟩:∃ P',(∀ w F,P' w F → (lc w F ∧ RdS w F il im io bn)) ∧ RS w (fun b o=>b = bv ∧ o < 6) F 255 e9 [aA,qa5 aG 3 (.agg #[ay,av,ae]) ((lst (T.at_ 3)).length) (aF + 1),aD,qa5 az 23 (.agg #[ai,ai,am,ai,ae,am,aa,aa,aa,aa,aa,aa,aa,aa,aa,aa,aa,aa,aa,aa,aa,aa,ae]) ((lst (aC.at_ 1)).length) (ax + 1),aT,bw] [ac,aZ,ag,af,ak,aj,al,ao,au,ar,aw,aB,(33,.v (.int .u32 (((tagC (!((ab.at_ 4).S.take 16).all (fun b_=>b_ == 0)) + ab.U.length):Nat):Int))),(35,.p 0 0)] P' ((qas (ab.at_ 4).S) ++ ([]:Bs)) _ _:=⟨_,fun _ _ h=>h,ea⟩
          clear d8 d9 ea
          refine qaa (wp_seq (qaq [0,1,2] kz ?_))
          refine qam (qfJ (d:=193) ip (qnA (ab.at_ 4).S _) Tryz.call61 fun _ _ iq=>?_)
          refine qam (qg9 (d:=36) [aa,aa,aa,aa,aa,aa,aa,aa,aa,aa,aa,aa,aa,aa,aa,aa] iq fun ir _ _ hb_b293 iu=>?_)
          have iv:=(iu.tbEq (tb':=[aA,qa5 aG 3 (.agg #[ay,av,ae]) ((lst (T.at_ 3)).length) (aF + 1),aD,qa5 az 23 (.agg #[ai,ai,am,ai,ae,am,aa,aa,aa,aa,aa,aa,aa,aa,aa,aa,aa,aa,aa,aa,aa,aa,ae]) ((lst (aC.at_ 1)).length) (ax + 1),aT,bw,⟨ir,0,[aa,aa,aa,aa,aa,aa,aa,aa,aa,aa,aa,aa,aa,aa,aa,aa],true⟩]) rfl).pk (env':=[ac,aZ,ag,af,ak,aj,al,ao,au,ar,aw,aB,(33,.v (.int .u32 (((tagC (!((ab.at_ 4).S.take 16).all (fun b_=>b_ == 0)) + ab.U.length):Nat):Int))),(35,.p 0 0),(193,.v (.agg #[qag ((qas (ab.at_ 4).S).getD 0 0),qag ((qas (ab.at_ 4).S).getD 1 0),qag ((qas (ab.at_ 4).S).getD 2 0),qag ((qas (ab.at_ 4).S).getD 3 0),qag ((qas (ab.at_ 4).S).getD 4 0),qag ((qas (ab.at_ 4).S).getD 5 0),qag ((qas (ab.at_ 4).S).getD 6 0),qag ((qas (ab.at_ 4).S).getD 7 0),qag ((qas (ab.at_ 4).S).getD 8 0),qag ((qas (ab.at_ 4).S).getD 9 0),qag ((qas (ab.at_ 4).S).getD 10 0),qag ((qas (ab.at_ 4).S).getD 11 0),qag ((qas (ab.at_ 4).S).getD 12 0),qag ((qas (ab.at_ 4).S).getD 13 0),qag ((qas (ab.at_ 4).S).getD 14 0),qag ((qas (ab.at_ 4).S).getD 15 0)])),(36,.p 7 0)])
          let ec:Ob:=⟨ir,0,[qag ((qas (ab.at_ 4).S).getD 0 0),qag ((qas (ab.at_ 4).S).getD 1 0),qag ((qas (ab.at_ 4).S).getD 2 0),qag ((qas (ab.at_ 4).S).getD 3 0),qag ((qas (ab.at_ 4).S).getD 4 0),qag ((qas (ab.at_ 4).S).getD 5 0),qag ((qas (ab.at_ 4).S).getD 6 0),qag ((qas (ab.at_ 4).S).getD 7 0),qag ((qas (ab.at_ 4).S).getD 8 0),qag ((qas (ab.at_ 4).S).getD 9 0),qag ((qas (ab.at_ 4).S).getD 10 0),qag ((qas (ab.at_ 4).S).getD 11 0),qag ((qas (ab.at_ 4).S).getD 12 0),qag ((qas (ab.at_ 4).S).getD 13 0),qag ((qas (ab.at_ 4).S).getD 14 0),qag ((qas (ab.at_ 4).S).getD 15 0)],true⟩
          refine qam (qfe [aA,qa5 aG 3 (.agg #[ay,av,ae]) ((lst (T.at_ 3)).length) (aF + 1),aD,qa5 az 23 (.agg #[ai,ai,am,ai,ae,am,aa,aa,aa,aa,aa,aa,aa,aa,aa,aa,aa,aa,aa,aa,aa,aa,ae]) ((lst (aC.at_ 1)).length) (ax + 1),aT,bw,ec] 6 iv fun _ iw=>?_)
          refine qae ?_
          have ix:=iw.pk (env':=[ac,aZ,ag,af,ak,aj,al,ao,au,ar,aw,aB,(33,.v (.int .u32 (((tagC (!((ab.at_ 4).S.take 16).all (fun b_=>b_ == 0)) + ab.U.length):Nat):Int))),(35,.p 0 0),(36,.p 7 0)])
          refine qaa (wp_seq ?_)
          let cO:Ob:=⟨az,ax * 23,[.int .i32 (IntKind.i32.wrap (ab.at_ 0).N),.int .i32 (IntKind.i32.wrap (ab.at_ 1).N),.int .i64 (IntKind.i64.wrap ((ab.at_ 2).at_ 0).N),.int .i32 (IntKind.i32.wrap ((ab.at_ 2).at_ 1).N),.map aU,.int .i64 (IntKind.i64.wrap (ab.at_ 3).N),qag ((qas (ab.at_ 4).S).getD 0 0),qag ((qas (ab.at_ 4).S).getD 1 0),qag ((qas (ab.at_ 4).S).getD 2 0),qag ((qas (ab.at_ 4).S).getD 3 0),qag ((qas (ab.at_ 4).S).getD 4 0),qag ((qas (ab.at_ 4).S).getD 5 0),qag ((qas (ab.at_ 4).S).getD 6 0),qag ((qas (ab.at_ 4).S).getD 7 0),qag ((qas (ab.at_ 4).S).getD 8 0),qag ((qas (ab.at_ 4).S).getD 9 0),qag ((qas (ab.at_ 4).S).getD 10 0),qag ((qas (ab.at_ 4).S).getD 11 0),qag ((qas (ab.at_ 4).S).getD 12 0),qag ((qas (ab.at_ 4).S).getD 13 0),qag ((qas (ab.at_ 4).S).getD 14 0),qag ((qas (ab.at_ 4).S).getD 15 0),.map none],true⟩
          refine qdL [aA,qa5 aG 3 (.agg #[ay,av,ae]) ((lst (T.at_ 3)).length) (aF + 1),aD,qa5 az 23 (.agg #[ai,ai,am,ai,ae,am,aa,aa,aa,aa,aa,aa,aa,aa,aa,aa,aa,aa,aa,aa,aa,aa,ae]) ((lst (aC.at_ 1)).length) (ax + 1),cO,bw,ec] 4 [ac,aZ,ag,af,ak,aj,al,ao,au,ar,aw,aB,(33,.v (.int .u32 (((tagC (!((ab.at_ 4).S.take 16).all (fun b_=>b_ == 0)) + ab.U.length):Nat):Int))),(35,.p 0 0)] ix fun _ _ iy=>?_
          have iz:=RS.dropT (tb:=[aA,qa5 aG 3 (.agg #[ay,av,ae]) ((lst (T.at_ 3)).length) (aF + 1),aD,qa5 az 23 (.agg #[ai,ai,am,ai,ae,am,aa,aa,aa,aa,aa,aa,aa,aa,aa,aa,aa,aa,aa,aa,aa,aa,ae]) ((lst (aC.at_ 1)).length) (ax + 1),cO,bw]) iy hb_b293 kz
          refine qaa (wp_seq (qaq [0,1] kz (qam (qeV (d:=198) iz qf8 Tryz.call48 fun _ iA=>?_))))
          refine qcV [1] [] [ac,aZ,ag,af,ak,aj,al,ao,au,ar,aw,aB,(33,.v (.int .u32 (((tagC (!((ab.at_ 4).S.take 16).all (fun b_=>b_ == 0)) + ab.U.length):Nat):Int))),(37,.v (.nilIface))] iA fun _ iB=>qae ?_
          refine qaa (wp_seq (qbI [ac,aZ,ag,af,ak,aj,al,ao,au,ar,aw,aB,(33,.v (.int .u32 (((tagC (!((ab.at_ 4).S.take 16).all (fun b_=>b_ == 0)) + ab.U.length):Nat):Int))),(37,.v (.nilIface)),(200,.v (.bool false))] iB fun _ ee=>qaa ?_))
          refine qau ee.env_ (b:=false) kz (rfl) ?_
          refine wp_skip (qaw (qaw (qaa (qbI [ac,aZ,ag,af,ak,aj,al,ao,au,ar,aw,aB,(33,.v (.int .u32 (IntKind.u32.wrap ((((tagC (!((ab.at_ 4).S.take 16).all (fun b_=>b_ == 0)) + ab.U.length):Nat):Int) - 1))))] ee fun _ iC=>?_))))
          refine qaa ?_
          have iD:=RS.unnest (tb:=[aA,qa5 aG 3 (.agg #[ay,av,ae]) ((lst (T.at_ 3)).length) (aF + 1),aD,qa5 az 23 (.agg #[ai,ai,am,ai,ae,am,aa,aa,aa,aa,aa,aa,aa,aa,aa,aa,aa,aa,aa,aa,aa,aa,ae]) ((lst (aC.at_ 1)).length) (ax + 1),cO]) (so:=bn) iC (fun w F h_=>(eb _ _ h_).2) hb_b278 kz
          have d_:IntKind.u32.wrap ((((tagC (!((ab.at_ 4).S.take 16).all (fun b_=>b_ == 0)) + ab.U.length):Nat):Int) - 1) = ((ab.U.length:Nat):Int):=qhd (by rw [qdh bH]) (by have t0_:=qg1 (!((ab.at_ 4).S.take 16).all (fun b_=>b_ == 0)); have hu_:=e152_U.2.1; omega)
          have iE:=(iD.envEq (env':=[ac,ah,ag,af,ak,aj,al,ao,au,ar,aw,aB,(33,.v (.int .u32 ((ab.U.length:Nat):Int)))]) (by first | rfl | (rw [d_]; rfl))).pk (env':=[ac,ah,ag,af,ak,aj,al,ao,au,ar,aw,aB,(33,.v (.int .u32 ((ab.U.length:Nat):Int)))])
          exact ⟨ab.U.length,by rw [qdh bH]; omega,cL (dvO none (qas (ab.at_ 4).S) 0) _ _ _ (fun w F h_=>⟨(cM _ _ (d6 _ _ (eb _ _ h_).1).1).1,⟨qd7 _,⟨(fun _=>rfl),(fun e2_=>by rw [if_pos (by exact aY),bH] at e2_; cases e2_)⟩⟩⟩) iE⟩
         refine wp_seq (wp_seq (qhR [ac,ah,ag,af,ak,aj,al,ao,au,ar,aw,aB,(33,.v (.int .u32 ((ab.U.length - aK:Nat):Int))),(174,.v (.bool (decide (((ab.U.length - aK:Nat):Int) > 0))))] gZ fun _ b8=>qaa ?_))
         refine qaA b8.env_ (b:=decide (((ab.U.length - aK:Nat):Int) > 0)) kz (fun cP=>?_) (fun cP=>?_)
         ·
          have hlt_:aK < ab.U.length:=by have:=of_decide_eq_true cP; omega
          obtain ⟨⟨k_,x_⟩,hu_⟩:∃ y,ab.U[aK]? = some y:=⟨_,List.getElem?_eq_getElem hlt_⟩
          have hk_:=(qdF e152r) _ (List.mem_of_getElem? hu_)
          have hx_:=e152_U.2.2 _ (List.mem_of_getElem? hu_)
          have hn_:=e152_K _ (List.mem_of_getElem? hu_)
          dsimp only at hk_ hx_ hn_
          obtain ⟨kk_,rfl⟩:∃ kk:Nat,k_ = (kk:Int):=⟨k_.toNat,(Int.toNat_of_nonneg hk_.1).symm⟩
          refine wp_skip (qaa (wp_seq (wp_block (wp_seq ?_))))
          have iF:=b8.cast (t:=uv kk_ ++ (uv x_.length ++ (x_ ++ (qbp (ab.U.drop (aK + 1)) ++ bk)))) (qfu hu_ bk)
          refine qaq [0,1] kz ?_
          refine qam (qkP (d:=177) (vs:=[]) (Qv:=fun v _ _=>v = .int .u32 ((kk_:Nat):Int)) iF (qcA kk_ (by omega) _) rfl Tryz.call58 fun v_ _ _ hv_ iG=>?_)
          subst hv_
          let bI:Nat × SV:=(9,.v (.bool (decide (v ≥ 0))))
          let bx:Nat × SV:=(34,.v (.int .u32 ((kk_:Nat):Int)))
          refine qmu [1] [] [ac,ah,bI,af,ak,aj,al,ao,au,ar,aw,aB,(33,.v (.int .u32 ((ab.U.length - aK:Nat):Int))),bx] iG fun _ iH=>qae (qaa ?_)
          refine wp_seq (qhR [ac,ah,bI,af,ak,aj,al,ao,au,ar,aw,aB,(33,.v (.int .u32 ((ab.U.length - aK:Nat):Int))),bx,(178,.v (.int .u32 ((kk_:Nat):Int)))] iH fun _ iI=>qaa (wp_block ?_))
          refine wp_seq (qhR [ac,ah,bI,af,ak,aj,al,ao,au,ar,aw,aB,(33,.v (.int .u32 ((ab.U.length - aK:Nat):Int))),bx,(187,.v (.bool (((kk_:Nat):Int) == 0)))] iI fun _ cQ=>qaa ?_)
          refine qau cQ.env_ (b:=((kk_:Nat):Int) == 0) kz (by simp only [beq_eq_false_iff_ne,ne_eq]; omega) ?_
          let cR:Nat × SV:=(18,.v (.pointer (some ⟨aG,aF * 3,none⟩)))
          let cS:Nat × SV:=(25,.v (.pointer (some ⟨az,ax * 23,none⟩)))
          have hE_:=(((((cQ.env_.recast 7 (.p 0 0) (.v (.pointer (some ⟨aR,0,none⟩))) rfl rfl trivial).recast 10 (.p 1 0) (.v (.pointer (some ⟨bv,0,none⟩))) rfl rfl trivial).recast 18 (.p 3 0) (.v (.pointer (some ⟨aG,aF * 3,none⟩))) rfl rfl trivial).recast 25 (.p 5 0) (.v (.pointer (some ⟨az,ax * 23,none⟩))) rfl rfl trivial).pick (ks:=[2,7,9,10,14,15,16,18,21,22,23,25,33,34]) (env':=[ac,bq,bI,bt,ak,aj,al,cR,au,ar,aw,cS,(33,.v (.int .u32 ((ab.U.length - aK:Nat):Int))),bx]) kz).cutTb 0 kz
          refine qdz (fun _=>True) 8 kz ?_
          let ef:Nat × SV:=(181,.v (.pointer (some ⟨az,ax * 23 + 22,none⟩)))
          refine qaY [0,1,2,3] [ac,bq,bI,bt,ak,aj,al,cR,au,ar,aw,cS,(33,.v (.int .u32 ((ab.U.length - aK:Nat):Int))),bx,ef,(182,.v (.int .u32 ((kk_:Nat):Int)))] 4 (qah (qah (qac (qac (qah (qac (qah (qac (qac (qah (qac (qac (qah (qac (qac (qah (qac (qac qai)))))))))))))))))) (fun w_ _=>qhc w_) trivial hE_ fun _ hE1_=>?_
          refine qaJ (i:=4) kz (qfM (d:=183) (vs:=[]) (Qv:=fun v _ _=>v = .int .u32 ((x_.length:Nat):Int)) cQ.drew hE1_ (qcA x_.length hx_ _) rfl Tryz.call58 (fun v_ _ _ hv_ iJ hE2_=>⟨fun _=>trivial,?_⟩) kz)
          subst hv_
          refine qaY [5] [ac,bq,(9,.v (.bool (decide (v ≥ 0)))),bt,ak,aj,al,cR,au,ar,aw,cS,(33,.v (.int .u32 ((ab.U.length - aK:Nat):Int))),bx,ef,(182,.v (.int .u32 ((kk_:Nat):Int))),(184,.v (.int .i64 (IntKind.i64.wrap ((x_.length:Nat):Int))))] 2 (qah (qah (qac (qac (qah (qac (qah (qac (qac (qah (qac (qac (qah (qac (qac (qah (qac (qac qai)))))))))))))))))) (fun w_ _=>qhc w_) trivial hE2_ fun _ hE3_=>?_
          refine qaJ (i:=6) kz (qfM (d:=185) (vs':=[.int .i64 (IntKind.i64.wrap ((x_.length:Nat):Int))]) (X:=x_) (vs:=[.int .i64 ((x_.length:Nat):Int)]) (Qv:=fun v w' F'=>∃ A2,v = .slice A2 x_.length x_.length ∧ Octs w' F' A2 x_.length x_) iJ hE3_ (qha x_ _) (by rw [wrap_i64 (by omega) (by omega)]) Tryz.call60 (fun v_ _ _ hv_ iK hE4_=>⟨fun _=>trivial,?_⟩) kz)
          obtain ⟨A2_,rfl,hx2_⟩:=hv_
          refine qaJ (i:=7) kz (qkQ (d:=186) (k:=4) (off:=22) iK hE4_ e152_U.1 hu_ hx2_ hk_ (fun r_ _ _ iL hE6_=>⟨fun _=>trivial,?_⟩) Tryz.call59 rfl rfl rfl kz)
          refine qaW kz (qaw (qaw (qaa ?_))) _
          let eg:Ob:=⟨bv,0,[.int .i16 v,.pointer none,.int .i32 (IntKind.i32.wrap (T.at_ 1).N),.int .i32 (IntKind.i32.wrap (T.at_ 2).N),.slice none 0 0,.map none],true⟩
          let eh:Ob:=⟨az,ax * 23,[.int .i32 (IntKind.i32.wrap (ab.at_ 0).N),.int .i32 (IntKind.i32.wrap (ab.at_ 1).N),.int .i64 (IntKind.i64.wrap ((ab.at_ 2).at_ 0).N),.int .i32 (IntKind.i32.wrap ((ab.at_ 2).at_ 1).N),.map aU,.int .i64 (IntKind.i64.wrap (ab.at_ 3).N),qag (ap.o.getD 0 0),qag (ap.o.getD 1 0),qag (ap.o.getD 2 0),qag (ap.o.getD 3 0),qag (ap.o.getD 4 0),qag (ap.o.getD 5 0),qag (ap.o.getD 6 0),qag (ap.o.getD 7 0),qag (ap.o.getD 8 0),qag (ap.o.getD 9 0),qag (ap.o.getD 10 0),qag (ap.o.getD 11 0),qag (ap.o.getD 12 0),qag (ap.o.getD 13 0),qag (ap.o.getD 14 0),qag (ap.o.getD 15 0),.map (some r_)],true⟩
          have hE7_:EnvOk 255 (rdo aR none 0 0 :: [eg,qa5 aG 3 (.agg #[ay,av,ae]) ((lst (T.at_ 3)).length) (aF + 1),aD,qa5 az 23 (.agg #[ai,ai,am,ai,ae,am,aa,aa,aa,aa,aa,aa,aa,aa,aa,aa,aa,aa,aa,aa,aa,aa,ae]) ((lst (aC.at_ 1)).length) (ax + 1),eh]) [ac,ah,(9,.v (.bool (decide (v ≥ 0)))),af,ak,aj,al,ao,au,ar,aw,aB,(33,.v (.int .u32 ((ab.U.length - aK:Nat):Int)))] _:=(((((hE6_.retable (rdo aR none 0 0 :: [eg,qa5 aG 3 (.agg #[ay,av,ae]) ((lst (T.at_ 3)).length) (aF + 1),aD,qa5 az 23 (.agg #[ai,ai,am,ai,ae,am,aa,aa,aa,aa,aa,aa,aa,aa,aa,aa,aa,aa,aa,aa,aa,aa,ae]) ((lst (aC.at_ 1)).length) (ax + 1),eh])).recast 7 (.v (.pointer (some ⟨aR,0,none⟩))) (.p 0 0) rfl rfl (Nat.le_of_ble_eq_true (n:=1) rfl)).recast 10 (.v (.pointer (some ⟨bv,0,none⟩))) (.p 1 0) rfl rfl (Nat.le_of_ble_eq_true (n:=2) rfl)).recast 18 (.v (.pointer (some ⟨aG,aF * 3,none⟩))) (.p 3 0) rfl rfl (Nat.le_of_ble_eq_true (n:=4) rfl)).recast 25 (.v (.pointer (some ⟨az,ax * 23,none⟩))) (.p 5 0) rfl rfl (Nat.le_of_ble_eq_true (n:=6) rfl)).pk
          have iM:=iL.env0 hE7_
          refine qhR [ac,ah,(9,.v (.bool (decide (v ≥ 0)))),af,ak,aj,al,ao,au,ar,aw,aB,(33,.v (.int .u32 (IntKind.u32.wrap (((ab.U.length - aK:Nat):Int) - 1))))] iM fun _ ei=>qaa ?_
          rw [show IntKind.u32.wrap (((ab.U.length - aK:Nat):Int) - 1) = ((ab.U.length - (aK + 1):Nat):Int) from qhd (by omega) (by have hu2_:=e152_U.2.1; omega)] at ei
          refine ⟨ab.U.length - (aK + 1),by omega,?_⟩
          rw [bZ]
          exact .inr (⟨ap,gY,lb,some r_,aK + 1,rfl,by omega,cN,ei⟩)
         obtain rfl:aK = ab.U.length:=by have:=of_decide_eq_false cP; omega
         rw [List.take_length,List.drop_length] at b8
         obtain ⟨lE,cU,iN⟩:∃ P',(∀ w F,P' w F → (gY w F ∧ MapR w F eZ ab.U)) ∧ RS w (fun b o=>b = bv ∧ o < 6) F 255 aR [aA,qa5 aG 3 (.agg #[ay,av,ae]) ((lst (T.at_ 3)).length) (aF + 1),aD,qa5 az 23 (.agg #[ai,ai,am,ai,ae,am,aa,aa,aa,aa,aa,aa,aa,aa,aa,aa,aa,aa,aa,aa,aa,aa,ae]) ((lst (aC.at_ 1)).length) (ax + 1),⟨az,ax * 23,[aO,aS,aX,bg,.map aU,bY,qag (ap.o.getD 0 0),qag (ap.o.getD 1 0),qag (ap.o.getD 2 0),qag (ap.o.getD 3 0),qag (ap.o.getD 4 0),qag (ap.o.getD 5 0),qag (ap.o.getD 6 0),qag (ap.o.getD 7 0),qag (ap.o.getD 8 0),qag (ap.o.getD 9 0),qag (ap.o.getD 10 0),qag (ap.o.getD 11 0),qag (ap.o.getD 12 0),qag (ap.o.getD 13 0),qag (ap.o.getD 14 0),qag (ap.o.getD 15 0),.map eZ],true⟩] [ac,ah,ag,af,ak,aj,al,ao,au,ar,aw,aB,(33,.v (.int .u32 ((ab.U.length - ab.U.length:Nat):Int))),(174,.v (.bool (decide (((ab.U.length - ab.U.length:Nat):Int) > 0))))] P' bk _ _:=⟨_,fun _ _ h=>h,(b8.finish e152_U.1 (qdF e152r)).cast rfl⟩
         refine wp_exit (qay (qay (qaQ (qaa ?_))))
         exact ⟨ap,eZ,ab.U,_,fun w F h_=>⟨(cN _ _ (cU _ _ h_).1).1,(cN _ _ (cU _ _ h_).1).2,⟨⟨(cU _ _ h_).2,e152_U.2.1,e152_U.2.2⟩,⟨(fun _=>rfl),(fun e_=>by rw [aY] at e_; cases e_)⟩⟩⟩,iN.pk (env':=bX)⟩
        have iO:=cJ.cast (t:=[] ++ bk) (by rw [if_neg (by rw [aY]; decide)])
        have iP:=iO.cast (t:=bk) rfl
        refine wp_skip (qaa ?_)
        exact ⟨(dvO none (List.replicate 16 0) 0),none,[],_,fun w F h_=>⟨h_,⟨rfl,⟨(fun e_=>by rw [if_neg (by rw [aY]; decide)] at e_; cases e_),fun _=>rfl⟩⟩,⟨⟨MapR.nil _ _,Nat.zero_le _,fun _ h=>by cases h⟩,⟨(fun e_=>by rw [aY] at e_; cases e_),fun _=>rfl⟩⟩⟩,iP.pk (env':=bX)⟩
       rintro _ _ ⟨aI,dj,bP,lF,aM,iQ⟩
       refine qaw (qaa (qbI [ac,ah,ag,af,ak,aj,al,ao,au,ar,(23,.v (.int .i32 (IntKind.i32.wrap (((ax:Nat):Int) + 1))))] iQ fun _ iR=>?_))
       refine qaa ?_
       let ej:Env:=[(2,.v (.bool false)),(7,.p 0 0),(9,.v (.bool (decide (v ≥ 0)))),(10,.p 1 0),(14,.v (.slice (some ⟨aG,0,none⟩) ((lst (T.at_ 3)).length) bA)),(15,.v (.int .i32 (((lst (T.at_ 3)).length:Nat):Int))),(16,.v (.int .i32 ((aF:Nat):Int))),(18,.p 3 0),(21,.v (.slice (some ⟨az,0,none⟩) ((lst (aC.at_ 1)).length) bf)),(22,.v (.int .i32 (((lst (aC.at_ 1)).length:Nat):Int))),(23,.v (.int .i32 ((ax + 1:Nat):Int)))]
       have iS:=(iR.envEq (env':=ej) (by rw [qiZ (by have:=e96_1; omega)])).pk (env':=ej)
       exact (RS.thing (tb:=[aA,qa5 aG 3 (.agg #[ay,av,ae]) ((lst (T.at_ 3)).length) (aF + 1),aD]) (z:=.agg #[ai,ai,am,ai,ae,am,aa,aa,aa,aa,aa,aa,aa,aa,aa,aa,aa,aa,aa,aa,aa,aa,ae]) (D:=(dvP dj bP [dvN (IntKind.i32.wrap (ab.at_ 0).N),dvN (IntKind.i32.wrap (ab.at_ 1).N),(dvP aU bN [dvN (IntKind.i64.wrap ((ab.at_ 2).at_ 0).N),dvN (IntKind.i32.wrap ((ab.at_ 2).at_ 1).N)]),dvN (IntKind.i64.wrap (ab.at_ 3).N),aI])) (iS.cast dK) hg_g133 cG qbh cE rfl (fun w F h_=>⟨(dJ _ _ (bu _ _ (aM _ _ h_).1).1).1,(dJ _ _ (bu _ _ (aM _ _ h_).1).1).2,⟨(trivial),(trivial),(⟨(trivial),(trivial),(bu _ _ (aM _ _ h_).1).2.1.1,(bu _ _ (aM _ _ h_).1).2.1.2.1,(bu _ _ (aM _ _ h_).1).2.1.2.2,trivial⟩),(trivial),((aM _ _ h_).2.1.1),(aM _ _ h_).2.2.1.1,(aM _ _ h_).2.2.1.2.1,(aM _ _ h_).2.2.1.2.2,trivial⟩,⟨(rfl),(rfl),(⟨(rfl),(rfl),(bu _ _ (aM _ _ h_).1).2.2,trivial⟩),(rfl),((aM _ _ h_).2.1.2),(aM _ _ h_).2.2.2,trivial⟩⟩) kz)
      refine wp_seq (wp_seq (qbI [ac,ah,ag,af,ak,aj,al,ao,au,ar,(23,.v (.int .i32 (((lst (aC.at_ 1)).length:Nat):Int))),(126,.v (.bool (decide ((((lst (aC.at_ 1)).length:Nat):Int) < (((lst (aC.at_ 1)).length:Nat):Int)))))] fW fun _ ek=>qaa ?_))
      refine qau ek.env_ (b:=decide ((((lst (aC.at_ 1)).length:Nat):Int) < (((lst (aC.at_ 1)).length:Nat):Int))) kz (decide_eq_false (by omega)) ?_
      refine wp_exit (qay (qay (qaQ (qaa ?_))))
      obtain ⟨ld,iT⟩:=RS.listEnd (tb:=[aA,qa5 aG 3 (.agg #[ay,av,ae]) ((lst (T.at_ 3)).length) (aF + 1),aD]) (c:=bf) (ek.pk (env':=[ac,ah,ag,af,ak,aj,al,ao,au])) hg_g133 qbh cE hcap_g133 (by have:=e96_1; omega) hn_g133 kz
      exact ⟨dvL (some ⟨az,0,none⟩) (lst (aC.at_ 1)).length bf ld,_,fun w F h_=>⟨h_.1,⟨h_.2.1,Nat.le_trans e96_1 (by decide),h_.2.2.1⟩,⟨rfl,h_.2.2.2⟩⟩,iT⟩
     refine wp_skip (qaa (wp_seq (qbI [ac,ah,ag,af,ak,aj,al,ao,bE,ar,cC] cB fun _ iU=>?_)))
     refine qaa (wp_block (qiX (wp_seq (wp_seq (qbI [ac,ah,ag,af,ak,aj,al,ao,bE,ar,cC,(126,.v (.bool (decide (0 < (((lst (aC.at_ 1)).length:Nat):Int)))))] iU fun _ em=>qaa ?_)))))
     refine qau em.env_ (b:=decide (0 < (((lst (aC.at_ 1)).length:Nat):Int))) kz (decide_eq_false (by have h_:=of_decide_eq_false bW; omega)) ?_
     refine wp_exit (qay (qay (qaQ (qaa ?_))))
     have hz_:(lst (aC.at_ 1)).length = 0:=by have h_:=of_decide_eq_false bW; omega
     exact ⟨dvL none 0 0 (fun _=>dv0),_,fun w F h_=>⟨h_,⟨Slots.nil _ _ _ _,Nat.zero_le _,fun _ h=>absurd h (Nat.not_lt_zero _)⟩,⟨hz_.symm,fun _ h=>absurd h (Nat.not_lt_zero _)⟩⟩,(em.cast (t:=dA) (by rw [List.eq_nil_of_length_eq_zero hz_]; rfl)).pk (env':=cA)⟩
    rintro _ _ ⟨aE,lf,cd,iV⟩
    refine wp_seq (qbI [ac,ah,ag,af,ak,aj,al,ao,(20,.v (.slice aE.A aE.l aE.c))] iV fun _ iW=>?_)
    refine qaa ?_
    let cV:Value:=.string (bs (aC.at_ 0).S)
    let cW:Value:=.slice aE.A aE.l aE.c
    refine qdL [aA,qa5 aG 3 (.agg #[ay,av,ae]) ((lst (T.at_ 3)).length) (aF + 1),⟨aG,aF * 3,[cV,cW,ae],true⟩] 2 bV iW fun _ _ iX=>?_
    refine qaa ?_
    have iY:=iX.cast fw
    refine qfL (Mid:=fun a_ w_=>∃ (dp:Option Nat) (bQ:List (Int × Bs)) (P':qcb),(∀ w F,P' w F → lf w F ∧ (MapR w F dp bQ ∧ bQ.length ≤ 1000000 ∧ ∀ x ∈ bQ,x.2.length < 4294967296) ∧ ((decide (v ≥ 0)) = true → bQ = aC.U) ∧ ((decide (v ≥ 0)) = false → bQ = [])) ∧ RS w (fun b o=>b = bv ∧ o < 6) F 255 aR [aA,qa5 aG 3 (.agg #[ay,av,ae]) ((lst (T.at_ 3)).length) (aF + 1),⟨aG,aF * 3,[cV,cW,.map dp],true⟩] bD P' fu a_ w_) ?_ ?_
    ·
     refine wp_seq (qbI [ac,ah,ag,af,ak,aj,al,ao,(207,.v (.bool (decide (v ≥ 0))))] iY fun _ cX=>qaa ?_)
     refine qaA cX.env_ (b:=decide (v ≥ 0)) kz (fun bJ=>?_) (fun bJ=>?_)
     ·
      have iZ:=cX.cast (t:=((uv aC.U.length) ++ (qbp aC.U)) ++ fu) (by rw [if_pos bJ])
      refine qaq [0,1,2,3,4] kz ?_
      refine qcV [0] [1,2,3,4] [ac,ah,ag,af,ak,aj,al,(208,.p 3 0)] iZ fun _ i6=>?_
      refine qam (qis (d:=209) i6 (qnd aC.U e96_U (qdF e96r) _) (fun _=>MvF.tags _ _) Tryz.call57 fun fa lG _ _ eo i7=>?_)
      refine qcV [2,3] [4] [ac,ah,ag,af,ak,aj,al,(209,.v (.agg #[.map fa])),(211,.p 3 2)] i7 fun _ ja=>?_
      refine qam (qfe [aA,qa5 aG 3 (.agg #[ay,av,ae]) ((lst (T.at_ 3)).length) (aF + 1),⟨aG,aF * 3,[cV,cW,.map fa],true⟩] 2 ja fun _ jb=>?_)
      refine qae ?_
      have jc:=jb.pk (env':=bD)
      refine qaa ?_
      exact ⟨fa,aC.U,_,fun w F h_=>⟨(eo _ _ h_).1,⟨(eo _ _ h_).2,e96_U.2.1,e96_U.2.2⟩,⟨fun _=>rfl,(fun e_=>by rw [bJ] at e_; cases e_)⟩⟩,jc.pk (env':=bD)⟩
     have jd:=cX.cast (t:=[] ++ fu) (by rw [if_neg (by rw [bJ]; decide)])
     have je:=jd.cast (t:=fu) rfl
     refine wp_skip (qaa ?_)
     exact ⟨none,[],_,fun w F h_=>⟨h_,⟨MapR.nil _ _,Nat.zero_le _,fun _ h=>by cases h⟩,⟨(fun e_=>by rw [bJ] at e_; cases e_),fun _=>rfl⟩⟩,je.pk (env':=bD)⟩
    rintro _ _ ⟨dp,bQ,lH,ba,jf⟩
    refine qaw (qaa (qbI [ac,ah,ag,af,ak,aj,(16,.v (.int .i32 (IntKind.i32.wrap (((aF:Nat):Int) + 1))))] jf fun _ jg=>?_))
    refine qaa ?_
    let eu:Env:=[(2,.v (.bool false)),(7,.p 0 0),(9,.v (.bool (decide (v ≥ 0)))),(10,.p 1 0),(14,.v (.slice (some ⟨aG,0,none⟩) ((lst (T.at_ 3)).length) bA)),(15,.v (.int .i32 (((lst (T.at_ 3)).length:Nat):Int))),(16,.v (.int .i32 ((aF + 1:Nat):Int)))]
    have jh:=(jg.envEq (env':=eu) (by rw [qiZ (by have:=e38_3; omega)])).pk (env':=eu)
    exact (RS.thing (tb:=[aA]) (z:=.agg #[ay,av,ae]) (D:=(dvP dp bQ [dvS (bs (aC.at_ 0).S),aE])) (jh.cast fv) hg_g77 eV qbB dy rfl (fun w F h_=>⟨(ft _ _ (cd _ _ (ba _ _ h_).1).1).1,(ft _ _ (cd _ _ (ba _ _ h_).1).1).2,⟨(by show ByteArray.size (bs _) ≤ 1000000; rw [qg0]; exact Nat.le_trans e96_0 (by decide)),((cd _ _ (ba _ _ h_).1).2.1),(ba _ _ h_).2.1.1,(ba _ _ h_).2.1.2.1,(ba _ _ h_).2.1.2.2,trivial⟩,⟨(rfl),((cd _ _ (ba _ _ h_).1).2.2),(ba _ _ h_).2.2,trivial⟩⟩) kz)
   refine wp_seq (wp_seq (qbI [ac,ah,ag,af,ak,aj,(16,.v (.int .i32 (((lst (T.at_ 3)).length:Nat):Int))),(86,.v (.bool (decide ((((lst (T.at_ 3)).length:Nat):Int) < (((lst (T.at_ 3)).length:Nat):Int)))))] kP fun _ ev=>qaa ?_))
   refine qau ev.env_ (b:=decide ((((lst (T.at_ 3)).length:Nat):Int) < (((lst (T.at_ 3)).length:Nat):Int))) kz (decide_eq_false (by omega)) ?_
   refine wp_exit (qay (qay (qaQ (qaa ?_))))
   obtain ⟨lg,ji⟩:=RS.listEnd (tb:=[aA]) (c:=bA) (ev.pk (env':=[ac,ah,ag,af,ak])) hg_g77 qbB dy hcap_g77 (by have:=e38_3; omega) hn_g77 kz
   exact ⟨dvL (some ⟨aG,0,none⟩) (lst (T.at_ 3)).length bA lg,_,fun w F h_=>⟨h_.1,⟨h_.2.1,Nat.le_trans e38_3 (by decide),h_.2.2.1⟩,⟨rfl,h_.2.2.2⟩⟩,ji⟩
  refine wp_skip (qaa (wp_seq (qbI [ac,ah,ag,af,bC,aj,cz] eU fun _ jj=>?_)))
  refine qaa (wp_block (qiX (wp_seq (wp_seq (qbI [ac,ah,ag,af,bC,aj,cz,(86,.v (.bool (decide (0 < (((lst (T.at_ 3)).length:Nat):Int)))))] jj fun _ ew=>qaa ?_)))))
  refine qau ew.env_ (b:=decide (0 < (((lst (T.at_ 3)).length:Nat):Int))) kz (decide_eq_false (by have h_:=of_decide_eq_false di; omega)) ?_
  refine wp_exit (qay (qay (qaQ (qaa ?_))))
  have hz_:(lst (T.at_ 3)).length = 0:=by have h_:=of_decide_eq_false di; omega
  exact ⟨dvL none 0 0 (fun _=>dv0),_,fun w F h_=>⟨h_,⟨Slots.nil _ _ _ _,Nat.zero_le _,fun _ h=>absurd h (Nat.not_lt_zero _)⟩,⟨hz_.symm,fun _ h=>absurd h (Nat.not_lt_zero _)⟩⟩,(ew.cast (t:=du) (by rw [List.eq_nil_of_length_eq_zero hz_]; rfl)).pk (env':=cw)⟩
 rintro _ _ ⟨aJ,fb,jk,lh⟩
 refine wp_seq (qbI [ac,ah,ag,af,(13,.v (.slice aJ.A aJ.l aJ.c))] lh fun _ jl=>?_)
 refine qaa ?_
 let bh:Ob:=⟨bv,0,[.int .i16 v,.pointer none,.int .i32 (IntKind.i32.wrap (T.at_ 1).N),.int .i32 (IntKind.i32.wrap (T.at_ 2).N),.slice aJ.A aJ.l aJ.c,.map none],true⟩
 refine qdL [bh] 0 bU jl fun _ _ jm=>?_
 refine qaa (wp_seq ?_)
 have jn:=jm.cast fk
 let ce:Value:=.int .i32 (IntKind.i32.wrap (T.at_ 2).N)
 let cg:Value:=.slice aJ.A aJ.l aJ.c
 refine qfL (Mid:=fun a_ w_=>∃ (bo:DV) (dq:Option Nat) (bR:List (Int × Bs)) (P':qcb),(∀ w F,P' w F → fb w F ∧ (((∀ ad,bo.A = some ad → ∃ b o,ad = ⟨b,o,none⟩ ∧ AtF w F b o [.string bo.s]) ∧ bo.s.size ≤ 1000000) ∧ ((((if (decide (v ≥ 0)) = true then (!(T.at_ 0).null) else false)) = true → (bo.s = bs (qaS (T.at_ 0)) ∧ bo.A.isNone = (T.at_ 0).null)) ∧ (((if (decide (v ≥ 0)) = true then (!(T.at_ 0).null) else false)) = false → (bo.s = ByteArray.empty ∧ bo.A = none)))) ∧ (MapR w F dq bR ∧ bR.length ≤ 1000000 ∧ ∀ x ∈ bR,x.2.length < 4294967296) ∧ ((decide (v ≥ 0)) = true → bR = T.U) ∧ ((decide (v ≥ 0)) = false → bR = [])) ∧ RS w (fun b o=>b = bv ∧ o < 6) F 255 aR [⟨bv,0,[aV,.pointer bo.A,bB,ce,cg,.map dq],true⟩] [ah] P' ([]:Bs) a_ w_) ?_ ?_
 ·
  refine wp_seq (qbI [ac,ah,ag,af,(217,.v (.bool (decide (v ≥ 0))))] jn fun _ cY=>qaa ?_)
  refine qaA cY.env_ (b:=decide (v ≥ 0)) kz (fun aP=>?_) (fun aP=>?_)
  ·
   have jo:=cY.cast (t:=((uv (tagC (!(T.at_ 0).null) + T.U.length)) ++ ((tagP (!(T.at_ 0).null) 0 (if (decide (v ≥ 0)) = true then (if (T.at_ 0).null = true then uv 0 else uv ((qaS (T.at_ 0)).length + 1) ++ (qaS (T.at_ 0))) else (if (T.at_ 0).null = true then be 2 (-1) else be 2 (qaS (T.at_ 0)).length ++ (qaS (T.at_ 0))))) ++ (qbp T.U))) ++ ([]:Bs)) (by rw [if_pos aP])
   obtain ⟨bp,ey⟩:∃ R,R = qbp T.U ++ ([]:Bs):=⟨_,rfl⟩
   obtain ⟨dr,cZ⟩:∃ R,R = tagP (!(T.at_ 0).null) 0 (if (decide (v ≥ 0)) = true then (if (T.at_ 0).null = true then uv 0 else uv ((qaS (T.at_ 0)).length + 1) ++ (qaS (T.at_ 0))) else (if (T.at_ 0).null = true then be 2 (-1) else be 2 (qaS (T.at_ 0)).length ++ (qaS (T.at_ 0)))) ++ bp:=⟨_,rfl⟩
   have jp:=jo.cast (t:=uv (tagC (!(T.at_ 0).null) + T.U.length) ++ dr) (by rw [cZ,ey]; simp only [List.append_assoc])
   refine wp_seq (qdj (d:=218) [ac,ah,ag,af,(38,.v (.int .u32 (((tagC (!(T.at_ 0).null) + T.U.length):Nat):Int)))] jp (pUv (tagC (!(T.at_ 0).null) + T.U.length) (by have t0_:=qg1 (!(T.at_ 0).null); have hu_:=e38_U.2.1; omega) _) Tryz.call58 fun _ _ jq=>?_)
   refine qaa (wp_block ?_)
   obtain ⟨fe,cm⟩:∃ I:Nat → Act → World → Prop,I = (fun q_ a_ w_=>((!(T.at_ 0).null) = true ∧ q_ = (tagC (!(T.at_ 0).null) + T.U.length) ∧ ∃ (P':qcb),(∀ w F,P' w F → fb w F) ∧ RS w (fun b o=>b = bv ∧ o < 6) F 255 aR [bh] [ac,ah,ag,af,(38,.v (.int .u32 (((tagC (!(T.at_ 0).null) + T.U.length):Nat):Int)))] P' dr a_ w_) ∨ (∃ (aH:DV) (P':qcb) (w1_:World) (m_:Option Nat) (j_:Nat),q_ = T.U.length - j_ ∧ j_ ≤ T.U.length ∧ (∀ w F,P' w F → fb w F ∧ (((∀ ad,aH.A = some ad → ∃ b o,ad = ⟨b,o,none⟩ ∧ AtF w F b o [.string aH.s]) ∧ aH.s.size ≤ 1000000) ∧ ((((if (decide (v ≥ 0)) = true then (!(T.at_ 0).null) else false)) = true → (aH.s = bs (qaS (T.at_ 0)) ∧ aH.A.isNone = (T.at_ 0).null)) ∧ (((if (decide (v ≥ 0)) = true then (!(T.at_ 0).null) else false)) = false → (aH.s = ByteArray.empty ∧ aH.A = none))))) ∧ TU w w1_ (fun b o=>b = bv ∧ o < 6) F 255 aR [⟨bv,0,[aV,.pointer aH.A,bB,ce,cg,ae],true⟩] [⟨bv,0,[aV,.pointer aH.A,bB,ce,cg,.map m_],true⟩] [ac,ah,ag,af,(38,.v (.int .u32 ((T.U.length - j_:Nat):Int)))] P' (qbp (T.U.drop j_) ++ ([]:Bs)) m_ (T.U.take j_) a_ w_)):=⟨_,rfl⟩
   have c5:∀ (aH:DV) (P':qcb) (a_:Act) (w_:World),(∀ w F,P' w F → fb w F ∧ (((∀ ad,aH.A = some ad → ∃ b o,ad = ⟨b,o,none⟩ ∧ AtF w F b o [.string aH.s]) ∧ aH.s.size ≤ 1000000) ∧ ((((if (decide (v ≥ 0)) = true then (!(T.at_ 0).null) else false)) = true → (aH.s = bs (qaS (T.at_ 0)) ∧ aH.A.isNone = (T.at_ 0).null)) ∧ (((if (decide (v ≥ 0)) = true then (!(T.at_ 0).null) else false)) = false → (aH.s = ByteArray.empty ∧ aH.A = none))))) → RS w (fun b o=>b = bv ∧ o < 6) F 255 aR [⟨bv,0,[.int .i16 v,.pointer aH.A,.int .i32 (IntKind.i32.wrap (T.at_ 1).N),.int .i32 (IntKind.i32.wrap (T.at_ 2).N),.slice aJ.A aJ.l aJ.c,.map none],true⟩] [(2,.v (.bool false)),(7,.p 0 0),(9,.v (.bool (decide (v ≥ 0)))),(10,.p 1 0),(38,.v (.int .u32 ((T.U.length:Nat):Int)))] P' bp a_ w_ → fe T.U.length a_ w_:=by
    intro aH P' a_ w_ hp_ hs_
    have h_:=(TU.start hs_).cast ey
    rw [cm]
    exact .inr (⟨aH,P',w_,none,0,rfl,Nat.zero_le _,hp_,h_⟩)
   have ff:∀ (P':qcb) (a_:Act) (w_:World),(∀ w F,P' w F → fb w F) → RS w (fun b o=>b = bv ∧ o < 6) F 255 aR [⟨bv,0,[.int .i16 v,.pointer none,.int .i32 (IntKind.i32.wrap (T.at_ 1).N),.int .i32 (IntKind.i32.wrap (T.at_ 2).N),.slice aJ.A aJ.l aJ.c,.map none],true⟩] [(2,.v (.bool false)),(7,.p 0 0),(9,.v (.bool (decide (v ≥ 0)))),(10,.p 1 0),(38,.v (.int .u32 (((tagC (!(T.at_ 0).null) + T.U.length):Nat):Int)))] P' dr a_ w_ → fe (tagC (!(T.at_ 0).null) + T.U.length) a_ w_:=by
    intro P' a_ w_ hp_ hs_
    rcases Bool.eq_false_or_eq_true (!(T.at_ 0).null) with bK | bK
    ·
     rw [cm]
     exact .inl ⟨bK,rfl,P',hp_,hs_⟩
    have e_:(tagC (!(T.at_ 0).null) + T.U.length) = T.U.length:=by rw [qg2 bK,Nat.zero_add]
    have f_:dr = bp:=by rw [cZ,qfs bK]; rfl
    have g_:=c5 (dvT none ByteArray.empty) P' a_ w_ (fun w F h_=>⟨(hp_ w F h_),⟨⟨(fun _ h=>(by cases h)),Nat.zero_le _⟩,⟨(fun e2_=>by rw [if_pos (by exact aP),bK] at e2_; cases e2_),fun _=>⟨rfl,rfl⟩⟩⟩⟩) ((hs_.cast f_).envEq (env':=[ac,ah,ag,af,(38,.v (.int .u32 ((T.U.length:Nat):Int)))]) (by rw [e_]))
    rw [e_]
    exact g_
   have jr:=jq.pk (env':=[ac,ah,ag,af,(38,.v (.int .u32 (((tagC (!(T.at_ 0).null) + T.U.length):Nat):Int)))])
   refine wp_loop_ghost fe (tagC (!(T.at_ 0).null) + T.U.length) (ff fb _ _ (fun w F h_=>h_) jr) ?_
   rintro q_ aq wq ez
   rw [cm] at ez
   rcases ez with ⟨bL,rfl,li,da,js⟩ | ⟨aH,jt,lj,fg,aL,rfl,hj_,db,ju⟩
   ·
    replace da:∀ w F,li w F → fb w F ∧ True:=fun w F h_=>⟨da w F h_,trivial⟩
    have jv:=js.cast (t:=uv 0 ++ (uv (if (decide (v ≥ 0)) = true then (if (T.at_ 0).null = true then uv 0 else uv ((qaS (T.at_ 0)).length + 1) ++ (qaS (T.at_ 0))) else (if (T.at_ 0).null = true then be 2 (-1) else be 2 (qaS (T.at_ 0)).length ++ (qaS (T.at_ 0)))).length ++ ((if (decide (v ≥ 0)) = true then (if (T.at_ 0).null = true then uv 0 else uv ((qaS (T.at_ 0)).length + 1) ++ (qaS (T.at_ 0))) else (if (T.at_ 0).null = true then be 2 (-1) else be 2 (qaS (T.at_ 0)).length ++ (qaS (T.at_ 0)))) ++ bp))) (by rw [cZ,qfH bL]; simp only [List.append_assoc])
    refine wp_seq (wp_seq (qbI [ac,ah,ag,af,(38,.v (.int .u32 (((tagC (!(T.at_ 0).null) + T.U.length):Nat):Int))),(220,.v (.bool (decide ((((tagC (!(T.at_ 0).null) + T.U.length):Nat):Int) > 0))))] jv fun _ eB=>qaa ?_))
    refine qbw eB.env_ (b:=decide ((((tagC (!(T.at_ 0).null) + T.U.length):Nat):Int) > 0)) kz (decide_eq_true (by rw [qdh bL]; omega)) ?_
    refine wp_skip (qaa (wp_seq (wp_block (wp_seq ?_))))
    let dc:Nat × SV:=(39,.v (.int .u32 0))
    refine qdj (d:=223) [ac,ah,ag,af,(38,.v (.int .u32 (((tagC (!(T.at_ 0).null) + T.U.length):Nat):Int))),dc] eB ((show qcY _ _ _ (uv (if (decide (v ≥ 0)) = true then (if (T.at_ 0).null = true then uv 0 else uv ((qaS (T.at_ 0)).length + 1) ++ (qaS (T.at_ 0))) else (if (T.at_ 0).null = true then be 2 (-1) else be 2 (qaS (T.at_ 0)).length ++ (qaS (T.at_ 0)))).length ++ ((if (decide (v ≥ 0)) = true then (if (T.at_ 0).null = true then uv 0 else uv ((qaS (T.at_ 0)).length + 1) ++ (qaS (T.at_ 0))) else (if (T.at_ 0).null = true then be 2 (-1) else be 2 (qaS (T.at_ 0)).length ++ (qaS (T.at_ 0)))) ++ bp)) (.int .u32 0) from @pUv 0 (by decide) (uv (if (decide (v ≥ 0)) = true then (if (T.at_ 0).null = true then uv 0 else uv ((qaS (T.at_ 0)).length + 1) ++ (qaS (T.at_ 0))) else (if (T.at_ 0).null = true then be 2 (-1) else be 2 (qaS (T.at_ 0)).length ++ (qaS (T.at_ 0)))).length ++ ((if (decide (v ≥ 0)) = true then (if (T.at_ 0).null = true then uv 0 else uv ((qaS (T.at_ 0)).length + 1) ++ (qaS (T.at_ 0))) else (if (T.at_ 0).null = true then be 2 (-1) else be 2 (qaS (T.at_ 0)).length ++ (qaS (T.at_ 0)))) ++ bp)))) Tryz.call58 fun _ _ jw=>?_
    refine qaa (wp_seq (qbI [ac,ah,ag,af,(38,.v (.int .u32 (((tagC (!(T.at_ 0).null) + T.U.length):Nat):Int))),dc,(224,.v (.int .u32 0))] jw fun _ jx=>?_))
    refine qaa (wp_block (wp_seq (qbI [ac,ah,ag,af,(38,.v (.int .u32 (((tagC (!(T.at_ 0).null) + T.U.length):Nat):Int))),dc,(233,.v (.bool true))] jx fun _ eC=>qaa ?_)))
    refine qbw eC.env_ (b:=true) kz (rfl) ?_
    refine wp_seq (qaq [0,1,2,3,4,5] kz ?_)
    refine qam (qfJ (d:=235) eC (pUv ((if (decide (v ≥ 0)) = true then (if (T.at_ 0).null = true then uv 0 else uv ((qaS (T.at_ 0)).length + 1) ++ (qaS (T.at_ 0))) else (if (T.at_ 0).null = true then be 2 (-1) else be 2 (qaS (T.at_ 0)).length ++ (qaS (T.at_ 0)))).length) (qnl e38_0) ((if (decide (v ≥ 0)) = true then (if (T.at_ 0).null = true then uv 0 else uv ((qaS (T.at_ 0)).length + 1) ++ (qaS (T.at_ 0))) else (if (T.at_ 0).null = true then be 2 (-1) else be 2 (qaS (T.at_ 0)).length ++ (qaS (T.at_ 0)))) ++ bp)) Tryz.call58 fun _ _ jy=>?_)
    refine qcV [1] [2,3,4,5] [ac,ah,ag,af,(38,.v (.int .u32 (((tagC (!(T.at_ 0).null) + T.U.length):Nat):Int))),(236,.v (.int .i64 (IntKind.i64.wrap (((if (decide (v ≥ 0)) = true then (if (T.at_ 0).null = true then uv 0 else uv ((qaS (T.at_ 0)).length + 1) ++ (qaS (T.at_ 0))) else (if (T.at_ 0).null = true then be 2 (-1) else be 2 (qaS (T.at_ 0)).length ++ (qaS (T.at_ 0)))).length:Nat):Int))))] jy fun _ jz=>?_
    refine qam (qkO (d:=237) (q:=(IntKind.i64.wrap (((if (decide (v ≥ 0)) = true then (if (T.at_ 0).null = true then uv 0 else uv ((qaS (T.at_ 0)).length + 1) ++ (qaS (T.at_ 0))) else (if (T.at_ 0).null = true then be 2 (-1) else be 2 (qaS (T.at_ 0)).length ++ (qaS (T.at_ 0)))).length:Nat):Int))) (X:=if (decide (v ≥ 0)) = true then (if (T.at_ 0).null = true then uv 0 else uv ((qaS (T.at_ 0)).length + 1) ++ (qaS (T.at_ 0))) else (if (T.at_ 0).null = true then be 2 (-1) else be 2 (qaS (T.at_ 0)).length ++ (qaS (T.at_ 0)))) (rest:=bp) jz (by have h_:(if (decide (v ≥ 0)) = true then (if (T.at_ 0).null = true then uv 0 else uv ((qaS (T.at_ 0)).length + 1) ++ (qaS (T.at_ 0))) else (if (T.at_ 0).null = true then be 2 (-1) else be 2 (qaS (T.at_ 0)).length ++ (qaS (T.at_ 0)))).length < 4294967296:=(qnl e38_0); first | exact wrap_i64 (by omega) (by omega) | rfl) (qha _ _) Tryz.call60 fun fh lm _ _ eD jA=>?_)
    refine qcV [3] [4,5] [ac,ah,ag,af,(38,.v (.int .u32 (((tagC (!(T.at_ 0).null) + T.U.length):Nat):Int))),(238,.v (.agg #[.slice fh ((if (decide (v ≥ 0)) = true then (if (T.at_ 0).null = true then uv 0 else uv ((qaS (T.at_ 0)).length + 1) ++ (qaS (T.at_ 0))) else (if (T.at_ 0).null = true then be 2 (-1) else be 2 (qaS (T.at_ 0)).length ++ (qaS (T.at_ 0)))).length) ((if (decide (v ≥ 0)) = true then (if (T.at_ 0).null = true then uv 0 else uv ((qaS (T.at_ 0)).length + 1) ++ (qaS (T.at_ 0))) else (if (T.at_ 0).null = true then be 2 (-1) else be 2 (qaS (T.at_ 0)).length ++ (qaS (T.at_ 0)))).length),aN]))] jA fun _ jB=>?_
    refine qam (qg9 (d:=40) [av,aN] jB fun fi _ _ hb_b412 jC=>?_)
    have jD:=(jC.tbEq (tb':=[bh,⟨fi,0,[av,aN],true⟩]) rfl).pk (env':=[ac,ah,ag,af,(38,.v (.int .u32 (((tagC (!(T.at_ 0).null) + T.U.length):Nat):Int))),(238,.v (.agg #[.slice fh ((if (decide (v ≥ 0)) = true then (if (T.at_ 0).null = true then uv 0 else uv ((qaS (T.at_ 0)).length + 1) ++ (qaS (T.at_ 0))) else (if (T.at_ 0).null = true then be 2 (-1) else be 2 (qaS (T.at_ 0)).length ++ (qaS (T.at_ 0)))).length) ((if (decide (v ≥ 0)) = true then (if (T.at_ 0).null = true then uv 0 else uv ((qaS (T.at_ 0)).length + 1) ++ (qaS (T.at_ 0))) else (if (T.at_ 0).null = true then be 2 (-1) else be 2 (qaS (T.at_ 0)).length ++ (qaS (T.at_ 0)))).length),aN])),(40,.p 2 0)])
    refine qam (qfe [bh,⟨fi,0,[.slice fh ((if (decide (v ≥ 0)) = true then (if (T.at_ 0).null = true then uv 0 else uv ((qaS (T.at_ 0)).length + 1) ++ (qaS (T.at_ 0))) else (if (T.at_ 0).null = true then be 2 (-1) else be 2 (qaS (T.at_ 0)).length ++ (qaS (T.at_ 0)))).length) ((if (decide (v ≥ 0)) = true then (if (T.at_ 0).null = true then uv 0 else uv ((qaS (T.at_ 0)).length + 1) ++ (qaS (T.at_ 0))) else (if (T.at_ 0).null = true then be 2 (-1) else be 2 (qaS (T.at_ 0)).length ++ (qaS (T.at_ 0)))).length),aN],true⟩] 1 jD fun _ jE=>?_)
    refine qae ?_
    have eE:=jE.pk (env':=[ac,ah,ag,af,(38,.v (.int .u32 (((tagC (!(T.at_ 0).null) + T.U.length):Nat):Int))),(40,.p 2 0)])
    obtain ⟨jF,jG,jH,eF⟩:=RS.nest (tb:=[bh]) (si:=if (decide (v ≥ 0)) = true then (if (T.at_ 0).null = true then uv 0 else uv ((qaS (T.at_ 0)).length + 1) ++ (qaS (T.at_ 0))) else (if (T.at_ 0).null = true then be 2 (-1) else be 2 (qaS (T.at_ 0)).length ++ (qaS (T.at_ 0)))) eE (fun w F h_=>(eD _ _ h_).2)
    let de:Ob:=⟨aR,0,[.slice jF jG jH,.bool false],true⟩
    let aQ:Nat × SV:=(7,.p 2 0)
    let bj:Nat × SV:=(40,.p 0 0)
    have eG:=((eF.tbEq (tb':=[bh,de]) rfl).envEq (env':=[ac,aQ,ag,af,(38,.v (.int .u32 (((tagC (!(T.at_ 0).null) + T.U.length):Nat):Int))),bj]) kz).cast (t:=(if (decide (v ≥ 0)) = true then (if (T.at_ 0).null = true then uv 0 else uv ((qaS (T.at_ 0)).length + 1) ++ (qaS (T.at_ 0))) else (if (T.at_ 0).null = true then be 2 (-1) else be 2 (qaS (T.at_ 0)).length ++ (qaS (T.at_ 0)))) ++ ([]:Bs)) (List.append_nil _).symm
    obtain ⟨lI,eH,jI⟩:∃ P',(∀ w F,P' w F → (lm w F ∧ RdS w F jF jG jH bp)) ∧ RS w (fun b o=>b = bv ∧ o < 6) F 255 fi [bh,de] [ac,aQ,ag,af,(38,.v (.int .u32 (((tagC (!(T.at_ 0).null) + T.U.length):Nat):Int))),bj] P' ((if (decide (v ≥ 0)) = true then (if (T.at_ 0).null = true then uv 0 else uv ((qaS (T.at_ 0)).length + 1) ++ (qaS (T.at_ 0))) else (if (T.at_ 0).null = true then be 2 (-1) else be 2 (qaS (T.at_ 0)).length ++ (qaS (T.at_ 0)))) ++ ([]:Bs)) _ _:=⟨_,fun _ _ h=>h,eG⟩
    clear eE eF eG
    have jJ:=jI.cast (t:=(if (T.at_ 0).null = true then uv 0 else uv ((qaS (T.at_ 0)).length + 1) ++ (qaS (T.at_ 0))) ++ ([]:Bs)) (by rw [if_pos (by exact aP)])
    refine qaa (wp_seq (qbI [ac,aQ,ag,af,(38,.v (.int .u32 (((tagC (!(T.at_ 0).null) + T.U.length):Nat):Int))),bj] jJ fun _ jK=>?_))
    refine qaa (wp_seq (wp_seq (qbI [ac,aQ,ag,af,(38,.v (.int .u32 (((tagC (!(T.at_ 0).null) + T.U.length):Nat):Int))),bj,(239,.v (.bool (decide (v ≥ 0))))] jK fun _ eI=>qaa ?_)))
    refine qbw eI.env_ (b:=decide (v ≥ 0)) kz (aP) ?_
    refine wp_seq (qbI [ac,aQ,ag,af,(38,.v (.int .u32 (((tagC (!(T.at_ 0).null) + T.U.length):Nat):Int))),bj,(240,.v (.bool false))] eI fun _ eJ=>qaa ?_)
    refine qau eJ.env_ (b:=false) kz (rfl) ?_
    refine qnu (d:=242) (fun dt=>[ac,aQ,ag,af,(38,.v (.int .u32 (((tagC (!(T.at_ 0).null) + T.U.length):Nat):Int))),bj,(41,.v (.pointer dt))]) eJ (qdO (T.at_ 0).null (qaS (T.at_ 0)) e38_0 _) (fun _=>(MvF.text _ _).and (MvF.is _)) Tryz.call63 fun dt lJ _ _ cq jL=>?_
    refine qaa (wp_seq ?_)
    let eK:Ob:=⟨bv,0,[.int .i16 v,.pointer dt,.int .i32 (IntKind.i32.wrap (T.at_ 1).N),.int .i32 (IntKind.i32.wrap (T.at_ 2).N),.slice aJ.A aJ.l aJ.c,.map none],true⟩
    refine qdL [eK,de] 0 [ac,aQ,ag,af,(38,.v (.int .u32 (((tagC (!(T.at_ 0).null) + T.U.length):Nat):Int))),bj] jL fun _ _ jM=>?_
    refine qaa (wp_seq (qaq [0,1] kz (qam (qeV (d:=250) jM qf8 Tryz.call48 fun _ jN=>?_))))
    refine qcV [1] [] [ac,aQ,ag,af,(38,.v (.int .u32 (((tagC (!(T.at_ 0).null) + T.U.length):Nat):Int))),(42,.v (.nilIface))] jN fun _ jO=>qae ?_
    refine qaa (wp_seq (qbI [ac,aQ,ag,af,(38,.v (.int .u32 (((tagC (!(T.at_ 0).null) + T.U.length):Nat):Int))),(42,.v (.nilIface)),(252,.v (.bool false))] jO fun _ eM=>qaa ?_))
    refine qau eM.env_ (b:=false) kz (rfl) ?_
    refine wp_skip (qaw (qaw (qaa (qbI [ac,aQ,ag,af,(38,.v (.int .u32 (IntKind.u32.wrap ((((tagC (!(T.at_ 0).null) + T.U.length):Nat):Int) - 1))))] eM fun _ jP=>?_))))
    refine qaa ?_
    have jQ:=RS.unnest (tb:=[eK]) (so:=bp) jP (fun w F h_=>(eH _ _ (cq _ _ h_).1).2) hb_b412 kz
    have d_:IntKind.u32.wrap ((((tagC (!(T.at_ 0).null) + T.U.length):Nat):Int) - 1) = ((T.U.length:Nat):Int):=qhd (by rw [qdh bL]) (by have t0_:=qg1 (!(T.at_ 0).null); have hu_:=e38_U.2.1; omega)
    have jR:=(jQ.envEq (env':=[ac,ah,ag,af,(38,.v (.int .u32 ((T.U.length:Nat):Int)))]) (by first | rfl | (rw [d_]; rfl))).pk (env':=[ac,ah,ag,af,(38,.v (.int .u32 ((T.U.length:Nat):Int)))])
    exact ⟨T.U.length,by rw [qdh bL]; omega,c5 (dvT dt (bs (qaS (T.at_ 0)))) _ _ _ (fun w F h_=>⟨(da _ _ (eD _ _ (eH _ _ (cq _ _ h_).1).1).1).1,⟨⟨(cq _ _ h_).2.1,by show ByteArray.size (bs _) ≤ 1000000; rw [qg0]; exact Nat.le_trans e38_0 (by decide)⟩,⟨(fun _=>⟨rfl,(cq _ _ h_).2.2⟩),(fun e2_=>by rw [if_pos (by exact aP),bL] at e2_; cases e2_)⟩⟩⟩) jR⟩
   refine wp_seq (wp_seq (qhR [ac,ah,ag,af,(38,.v (.int .u32 ((T.U.length - aL:Nat):Int))),(220,.v (.bool (decide (((T.U.length - aL:Nat):Int) > 0))))] ju fun _ cr=>qaa ?_))
   refine qaA cr.env_ (b:=decide (((T.U.length - aL:Nat):Int) > 0)) kz (fun df=>?_) (fun df=>?_)
   ·
    have hlt_:aL < T.U.length:=by have:=of_decide_eq_true df; omega
    obtain ⟨⟨k_,x_⟩,hu_⟩:∃ y,T.U[aL]? = some y:=⟨_,List.getElem?_eq_getElem hlt_⟩
    have hk_:=(qdF e38r) _ (List.mem_of_getElem? hu_)
    have hx_:=e38_U.2.2 _ (List.mem_of_getElem? hu_)
    have hn_:=e38_K _ (List.mem_of_getElem? hu_)
    dsimp only at hk_ hx_ hn_
    obtain ⟨kk_,rfl⟩:∃ kk:Nat,k_ = (kk:Int):=⟨k_.toNat,(Int.toNat_of_nonneg hk_.1).symm⟩
    refine wp_skip (qaa (wp_seq (wp_block (wp_seq ?_))))
    have jS:=cr.cast (t:=uv kk_ ++ (uv x_.length ++ (x_ ++ (qbp (T.U.drop (aL + 1)) ++ ([]:Bs))))) (qfu hu_ ([]:Bs))
    refine qaq [0,1] kz ?_
    refine qam (qkP (d:=223) (vs:=[]) (Qv:=fun v _ _=>v = .int .u32 ((kk_:Nat):Int)) jS (qcA kk_ (by omega) _) rfl Tryz.call58 fun v_ _ _ hv_ jT=>?_)
    subst hv_
    let bM:Nat × SV:=(9,.v (.bool (decide (v ≥ 0))))
    let bz:Nat × SV:=(39,.v (.int .u32 ((kk_:Nat):Int)))
    refine qmu [1] [] [ac,ah,bM,af,(38,.v (.int .u32 ((T.U.length - aL:Nat):Int))),bz] jT fun _ jU=>qae (qaa ?_)
    refine wp_seq (qhR [ac,ah,bM,af,(38,.v (.int .u32 ((T.U.length - aL:Nat):Int))),bz,(224,.v (.int .u32 ((kk_:Nat):Int)))] jU fun _ jV=>qaa (wp_block ?_))
    refine wp_seq (qhR [ac,ah,bM,af,(38,.v (.int .u32 ((T.U.length - aL:Nat):Int))),bz,(233,.v (.bool (((kk_:Nat):Int) == 0)))] jV fun _ dg=>qaa ?_)
    refine qau dg.env_ (b:=((kk_:Nat):Int) == 0) kz (by simp only [beq_eq_false_iff_ne,ne_eq]; omega) ?_
    have hE_:=(((dg.env_.recast 7 (.p 0 0) (.v (.pointer (some ⟨aR,0,none⟩))) rfl rfl trivial).recast 10 (.p 1 0) (.v (.pointer (some ⟨bv,0,none⟩))) rfl rfl trivial).pick (ks:=[2,7,9,10,38,39]) (env':=[ac,bq,bM,bt,(38,.v (.int .u32 ((T.U.length - aL:Nat):Int))),bz]) kz).cutTb 0 kz
    refine qdz (fun _=>True) 8 kz ?_
    let eN:Nat × SV:=(227,.v (.pointer (some ⟨bv,5,none⟩)))
    let eO:Nat × SV:=(228,.v (.int .u32 ((kk_:Nat):Int)))
    refine qaY [0,1,2,3] [ac,bq,bM,bt,(38,.v (.int .u32 ((T.U.length - aL:Nat):Int))),bz,eN,eO] 4 (qah (qah (qac (qac (qah (qac (qac qai))))))) (fun w_ _=>qhc w_) trivial hE_ fun _ hE1_=>?_
    refine qaJ (i:=4) kz (qfM (d:=229) (vs:=[]) (Qv:=fun v _ _=>v = .int .u32 ((x_.length:Nat):Int)) dg.drew hE1_ (qcA x_.length hx_ _) rfl Tryz.call58 (fun v_ _ _ hv_ jW hE2_=>⟨fun _=>trivial,?_⟩) kz)
    subst hv_
    refine qaY [5] [ac,bq,(9,.v (.bool (decide (v ≥ 0)))),bt,(38,.v (.int .u32 ((T.U.length - aL:Nat):Int))),bz,eN,eO,(230,.v (.int .i64 (IntKind.i64.wrap ((x_.length:Nat):Int))))] 2 (qah (qah (qac (qac (qah (qac (qac qai))))))) (fun w_ _=>qhc w_) trivial hE2_ fun _ hE3_=>?_
    refine qaJ (i:=6) kz (qfM (d:=231) (vs':=[.int .i64 (IntKind.i64.wrap ((x_.length:Nat):Int))]) (X:=x_) (vs:=[.int .i64 ((x_.length:Nat):Int)]) (Qv:=fun v w' F'=>∃ A2,v = .slice A2 x_.length x_.length ∧ Octs w' F' A2 x_.length x_) jW hE3_ (qha x_ _) (by rw [wrap_i64 (by omega) (by omega)]) Tryz.call60 (fun v_ _ _ hv_ jX hE4_=>⟨fun _=>trivial,?_⟩) kz)
    obtain ⟨A2_,rfl,hx2_⟩:=hv_
    refine qaJ (i:=7) kz (qkQ (d:=232) (k:=0) (off:=5) jX hE4_ e38_U.1 hu_ hx2_ hk_ (fun r_ _ _ jY hE6_=>⟨fun _=>trivial,?_⟩) Tryz.call59 rfl rfl rfl kz)
    refine qaW kz (qaw (qaw (qaa ?_))) _
    let eP:Ob:=⟨bv,0,[.int .i16 v,.pointer aH.A,.int .i32 (IntKind.i32.wrap (T.at_ 1).N),.int .i32 (IntKind.i32.wrap (T.at_ 2).N),.slice aJ.A aJ.l aJ.c,.map (some r_)],true⟩
    have hE7_:EnvOk 255 (rdo aR none 0 0 :: [eP]) [ac,ah,(9,.v (.bool (decide (v ≥ 0)))),af,(38,.v (.int .u32 ((T.U.length - aL:Nat):Int)))] _:=(((hE6_.retable (rdo aR none 0 0 :: [eP])).recast 7 (.v (.pointer (some ⟨aR,0,none⟩))) (.p 0 0) rfl rfl (Nat.le_of_ble_eq_true (n:=1) rfl)).recast 10 (.v (.pointer (some ⟨bv,0,none⟩))) (.p 1 0) rfl rfl (Nat.le_of_ble_eq_true (n:=2) rfl)).pk
    have jZ:=jY.env0 hE7_
    refine qhR [ac,ah,(9,.v (.bool (decide (v ≥ 0)))),af,(38,.v (.int .u32 (IntKind.u32.wrap (((T.U.length - aL:Nat):Int) - 1))))] jZ fun _ eQ=>qaa ?_
    rw [show IntKind.u32.wrap (((T.U.length - aL:Nat):Int) - 1) = ((T.U.length - (aL + 1):Nat):Int) from qhd (by omega) (by have hu2_:=e38_U.2.1; omega)] at eQ
    refine ⟨T.U.length - (aL + 1),by omega,?_⟩
    rw [cm]
    exact .inr (⟨aH,jt,lj,some r_,aL + 1,rfl,by omega,db,eQ⟩)
   obtain rfl:aL = T.U.length:=by have:=of_decide_eq_false df; omega
   rw [List.take_length,List.drop_length] at cr
   obtain ⟨lK,dh,j0⟩:∃ P',(∀ w F,P' w F → (jt w F ∧ MapR w F fg T.U)) ∧ RS w (fun b o=>b = bv ∧ o < 6) F 255 aR [⟨bv,0,[aV,.pointer aH.A,bB,ce,cg,.map fg],true⟩] [ac,ah,ag,af,(38,.v (.int .u32 ((T.U.length - T.U.length:Nat):Int))),(220,.v (.bool (decide (((T.U.length - T.U.length:Nat):Int) > 0))))] P' ([]:Bs) _ _:=⟨_,fun _ _ h=>h,(cr.finish e38_U.1 (qdF e38r)).cast rfl⟩
   refine wp_exit (qay (qay (qaQ (qaa ?_))))
   exact ⟨aH,fg,T.U,_,fun w F h_=>⟨(db _ _ (dh _ _ h_).1).1,(db _ _ (dh _ _ h_).1).2,⟨⟨(dh _ _ h_).2,e38_U.2.1,e38_U.2.2⟩,⟨(fun _=>rfl),(fun e_=>by rw [aP] at e_; cases e_)⟩⟩⟩,j0.pk (env':=[ah])⟩
  have j1:=cY.cast (t:=[] ++ ([]:Bs)) (by rw [if_neg (by rw [aP]; decide)])
  have j2:=j1.cast (t:=([]:Bs)) rfl
  refine wp_skip (qaa ?_)
  exact ⟨(dvT none ByteArray.empty),none,[],_,fun w F h_=>⟨h_,⟨⟨(fun _ h=>(by cases h)),Nat.zero_le _⟩,⟨(fun e_=>by rw [if_neg (by rw [aP]; decide)] at e_; cases e_),fun _=>⟨rfl,rfl⟩⟩⟩,⟨⟨MapR.nil _ _,Nat.zero_le _,fun _ h=>by cases h⟩,⟨(fun e_=>by rw [aP] at e_; cases e_),fun _=>rfl⟩⟩⟩,j2.pk (env':=[ah])⟩
 rintro _ _ ⟨bo,dq,bR,lL,bd,j3⟩
 refine qaa (wp_seq (qaq [0,1] kz (qam (qeV (d:=254) j3 qf8 Tryz.call48 fun _ j4=>?_))))
 refine qcV [1] [] [(6,.v (.nilIface))] j4 fun _ eR=>qae ?_
 refine qaa (wp_ret ?_)
 obtain ⟨A_,m_,c_,hW_,hr_,hE_,hP_⟩:=eR.open_
 refine qaD hE_ hW_.cells (v:=.nilIface) kz ?_
 have h_:=eR.mv.mono qeE hP_
 refine ⟨(dvP dq bR [bo,dvN (IntKind.i32.wrap (T.at_ 1).N),dvN (IntKind.i32.wrap (T.at_ 2).N),aJ]),rfl,Str.of hW_ 1 rfl,?_,?_,hW_.step⟩
 ·unfold qbv
  exact ⟨((bd _ _ h_).2.1.1),(trivial),(trivial),((jk _ _ (bd _ _ h_).1).2.1),(bd _ _ h_).2.2.1.1,(bd _ _ h_).2.2.1.2.1,(bd _ _ h_).2.2.1.2.2,trivial⟩
 unfold qbW
 exact ⟨((bd _ _ h_).2.1.2),(rfl),(rfl),((jk _ _ (bd _ _ h_).1).2.2),(bd _ _ h_).2.2.2,trivial⟩
theorem qa4:qg3 qbv:=by
 intro w w' F F' M d hs hM hF h
 unfold qbv at h ⊢
 obtain ⟨⟨g0,g0l⟩,g1,g2,⟨g3,g3l,g3e⟩,t1,t2,t3,_⟩:=h
 exact ⟨⟨fun ad hA=>by
  obtain ⟨b,o,h1,h2⟩:=g0 ad hA
  exact ⟨b,o,h1,h2.move hs hM hF⟩,g0l⟩,g1,g2,⟨g3.move hs hM hF,g3l,fun i hi=>qbB _ hs hM hF (g3e i hi)⟩,t1.move hs hM hF,t2,t3,trivial⟩
theorem qb7 (v:Int) (D:DV) (T:Tree) (h:qbd v D T):(be 8 ((D.f 0).n)) ++ ((be 4 ((D.f 1).n)) ++ (if (decide (v ≥ 0)) = true then (uv D.u.length) ++ (qbp D.u) else [])) = qaO v T:=by
 unfold qbd at h
 obtain ⟨r0_,r1_,rU_,_⟩:=h
 unfold qaO
 exact qff (by rw [r0_]; exact qf1 _) (qff (by rw [r1_]) ((if_c (fun hc_=>by rw [(rU_.1 hc_)]))))
theorem qcx (v:Int) (D:DV) (T:Tree) (h:qaU v D T):(be 4 ((D.f 0).n)) ++ ((be 4 ((D.f 1).n)) ++ (((be 8 (((D.f 2).f 0).n)) ++ ((be 4 (((D.f 2).f 1).n)) ++ (if (decide (v ≥ 0)) = true then (uv (D.f 2).u.length) ++ (qbp (D.f 2).u) else []))) ++ ((be 8 ((D.f 3).n)) ++ (if (decide (v ≥ 0)) = true then (uv (tagC (!(D.f 4).o.all fun b_=>b_ == 0) + D.u.length)) ++ ((tagP (!(D.f 4).o.all fun b_=>b_ == 0) 0 ((D.f 4).o)) ++ (qbp D.u)) else [])))) = qav v T:=by
 unfold qaU at h
 obtain ⟨r0_,r1_,r2_,r3_,r4_,rU_,_⟩:=h
 unfold qav
 exact qff (by rw [r0_]) (qff (by rw [r1_]) (qff (qb7 v _ _ r2_) (qff (by rw [r3_]; exact qf1 _) ((if_c (fun hc_=>qkx (rU_.1 hc_) (by
   cases h_:(!((T.at_ 4).S.take 16).all (fun b_=>b_ == 0)) with
   | true=>have p_:=r4_.1 (by rw [if_pos hc_]; exact h_); exact ⟨by rw [p_,qio]; exact h_,fun _=>by rw [p_]⟩
   | false=>have p_:=r4_.2 (by rw [if_pos hc_]; exact h_); exact ⟨by rw [p_]; rfl,fun h=>by cases h⟩)))))))
theorem qdd (v:Int) (D:DV) (T:Tree) (h:qbg v D T):(if (decide (v ≥ 0)) = true then (uv ((D.f 0).s.size + 1) ++ sb (D.f 0).s) else (be 2 (D.f 0).s.size ++ sb (D.f 0).s)) ++ (((if (decide (v ≥ 0)) = true then (uv ((D.f 1).l + 1)) else (be 4 (D.f 1).l)) ++ ((List.range (D.f 1).l).flatMap fun aa=>(be 4 ((((D.f 1).f aa).f 0).n)) ++ ((be 4 ((((D.f 1).f aa).f 1).n)) ++ (((be 8 (((((D.f 1).f aa).f 2).f 0).n)) ++ ((be 4 (((((D.f 1).f aa).f 2).f 1).n)) ++ (if (decide (v ≥ 0)) = true then (uv (((D.f 1).f aa).f 2).u.length) ++ (qbp (((D.f 1).f aa).f 2).u) else []))) ++ ((be 8 ((((D.f 1).f aa).f 3).n)) ++ (if (decide (v ≥ 0)) = true then (uv (tagC (!(((D.f 1).f aa).f 4).o.all fun b_=>b_ == 0) + ((D.f 1).f aa).u.length)) ++ ((tagP (!(((D.f 1).f aa).f 4).o.all fun b_=>b_ == 0) 0 ((((D.f 1).f aa).f 4).o)) ++ (qbp ((D.f 1).f aa).u)) else [])))))) ++ (if (decide (v ≥ 0)) = true then (uv D.u.length) ++ (qbp D.u) else [])) = qaF v T:=by
 unfold qbg at h
 obtain ⟨r0_,r1_,rU_,_⟩:=h
 unfold qaF
 exact qff (by simp only [r0_,qmT,qg0]) (qff (qff (by simp only [r1_.1]) (qiR r1_.1 (fun i hi=>qcx v _ _ (r1_.2 i hi)))) ((if_c (fun hc_=>by rw [(rU_.1 hc_)]))))
theorem qdQ (v:Int) (D:DV) (T:Tree) (h:qbW v D T):qab v D = qak v T:=by
 unfold qbW at h
 obtain ⟨r0_,r1_,r2_,r3_,rU_,_⟩:=h
 rw [qcM]
 unfold qab qcf
 exact qff (by rw [r1_]) (qff (by rw [r2_]) (qff (qff (by simp only [r3_.1]) (qiR r3_.1 (fun i hi=>qdd v _ _ (r3_.2 i hi)))) (qff (if_c (fun hc_=>qkx (rU_.1 hc_) (by
   cases h_:(!(T.at_ 0).null) with
   | true=>have p_:=r0_.1 (by rw [if_pos hc_]; exact h_); exact ⟨by rw [p_.2]; exact h_,fun _=>by simp only [p_.1,p_.2,qmT,qg0]⟩
   | false=>have p_:=r0_.2 (by rw [if_pos hc_]; exact h_); exact ⟨by rw [p_.2]; rfl,fun h=>by cases h⟩))) (rfl))))
theorem qfg {P:Program} {ops:Array Oper} {Q:Exit → Act → World → Prop} {a:Act} {w:World} {T:World → Prop} {c i j fuel:Nat} {listed:Array Bool} (hr:Region.ready .any ops listed = [i,j]) (h:wpOp P ops Q i (fun a' w'=>(i ≠ c → T w') ∧ qbS P ops Q T c fuel (listed.setIfInBounds i true) a' w') a w)
  (h':wpOp P ops Q j (fun a' w'=>(j ≠ c → T w') ∧ qbS P ops Q T c fuel (listed.setIfInBounds j true) a' w') a w):qbS P ops Q T c (fuel + 1) listed a w:=by
 refine ⟨fun h0=>(by rw [hr] at h0; cases h0),fun q hq=>?_⟩
 rw [hr] at hq
 simp only [List.mem_cons,List.not_mem_nil,or_false] at hq
 rcases hq with rfl | rfl
 ·exact h
 exact h'
end Go.Proofs.YtoclgihkbmaolabGreatDoor.ME
namespace Go.Proofs.YtoclgihkbmaolabGreatDoor.ME
open Go
open Go.RowKit
set_option linter.unusedVariables false
set_option linter.unusedSimpArgs false
set_option maxRecDepth 20000
abbrev z7 (x0) (x1) (x2) (x3) (x4) (x5) (x6) (x7) (x8):=([⟨some ⟨x0,0,none⟩,1,84,1,1,[.iface 123 (.agg #[.func (.func 66) #[] #[x1]])]⟩,brow x2 x3 5 (((([]:Bs) ++ [by8 0,by8 0,by8 0,by8 0] ++ be 2 59 ++ be 2 (IntKind.i16.wrap x4) ++ be 4 x5) ++ (be 2 x6 ++ sb x7) ++ [by8 0]) ++ qab (IntKind.i16.wrap x4) x8)]:List Rw)
abbrev z2 (x0) (x1) (x2) (x3) (x4) (x5) (x6) (x7) (x8):=([⟨some ⟨x0,0,none⟩,1,84,1,1,[.iface 123 (.agg #[.func (.func 66) #[] #[x1]])]⟩,⟨x2,x3,5,1,(((([]:Bs) ++ [by8 0,by8 0,by8 0,by8 0] ++ be 2 59 ++ be 2 (IntKind.i16.wrap x4) ++ be 4 x5) ++ (be 2 x6 ++ sb x7) ++ [by8 0]) ++ qab (IntKind.i16.wrap x4) x8).length,bc (be 4 (IntKind.i32.wrap ((((((([]:Bs) ++ [by8 0,by8 0,by8 0,by8 0] ++ be 2 59 ++ be 2 (IntKind.i16.wrap x4) ++ be 4 x5) ++ (be 2 x6 ++ sb x7) ++ [by8 0]) ++ qab (IntKind.i16.wrap x4) x8).length) - 4:Nat):Int)) ++ (((([]:Bs) ++ [by8 0,by8 0,by8 0,by8 0] ++ be 2 59 ++ be 2 (IntKind.i16.wrap x4) ++ be 4 x5) ++ (be 2 x6 ++ sb x7) ++ [by8 0]) ++ qab (IntKind.i16.wrap x4) x8).drop 4)⟩]:List Rw)
abbrev z3 (x0) (x1) (x2) (x3) (x4) (x5) (x6) (x7) (x8):=([⟨some ⟨x0,0,none⟩,1,84,1,1,[.iface 123 (.agg #[.func (.func 66) #[] #[x1]])]⟩,⟨x2,x3,5,1,(((([]:Bs) ++ [by8 0,by8 0,by8 0,by8 0] ++ be 2 59 ++ be 2 (IntKind.i16.wrap x4) ++ be 4 x5) ++ (be 2 x6 ++ sb x7)) ++ qab (IntKind.i16.wrap x4) x8).length,bc (be 4 (IntKind.i32.wrap ((((((([]:Bs) ++ [by8 0,by8 0,by8 0,by8 0] ++ be 2 59 ++ be 2 (IntKind.i16.wrap x4) ++ be 4 x5) ++ (be 2 x6 ++ sb x7)) ++ qab (IntKind.i16.wrap x4) x8).length) - 4:Nat):Int)) ++ (((([]:Bs) ++ [by8 0,by8 0,by8 0,by8 0] ++ be 2 59 ++ be 2 (IntKind.i16.wrap x4) ++ be 4 x5) ++ (be 2 x6 ++ sb x7)) ++ qab (IntKind.i16.wrap x4) x8).drop 4)⟩]:List Rw)
abbrev z4 (x0) (x1) (x2) (x3) (x4):=([⟨x0,x1,5,1,((([]:Bs) ++ [by8 0,by8 0,by8 0,by8 0] ++ be 2 59 ++ be 2 (IntKind.i16.wrap x2) ++ be 4 x3 ++ be 2 (-1) ++ [by8 0]) ++ qab (IntKind.i16.wrap x2) x4).length,bc (be 4 (IntKind.i32.wrap (((((([]:Bs) ++ [by8 0,by8 0,by8 0,by8 0] ++ be 2 59 ++ be 2 (IntKind.i16.wrap x2) ++ be 4 x3 ++ be 2 (-1) ++ [by8 0]) ++ qab (IntKind.i16.wrap x2) x4).length) - 4:Nat):Int)) ++ ((([]:Bs) ++ [by8 0,by8 0,by8 0,by8 0] ++ be 2 59 ++ be 2 (IntKind.i16.wrap x2) ++ be 4 x3 ++ be 2 (-1) ++ [by8 0]) ++ qab (IntKind.i16.wrap x2) x4).drop 4)⟩]:List Rw)
abbrev z6 (x0) (x1) (x2) (x3) (x4):=([⟨x0,x1,5,1,((([]:Bs) ++ [by8 0,by8 0,by8 0,by8 0] ++ be 2 59 ++ be 2 (IntKind.i16.wrap x2) ++ be 4 x3 ++ be 2 (-1)) ++ qab (IntKind.i16.wrap x2) x4).length,bc (be 4 (IntKind.i32.wrap (((((([]:Bs) ++ [by8 0,by8 0,by8 0,by8 0] ++ be 2 59 ++ be 2 (IntKind.i16.wrap x2) ++ be 4 x3 ++ be 2 (-1)) ++ qab (IntKind.i16.wrap x2) x4).length) - 4:Nat):Int)) ++ ((([]:Bs) ++ [by8 0,by8 0,by8 0,by8 0] ++ be 2 59 ++ be 2 (IntKind.i16.wrap x2) ++ be 4 x3 ++ be 2 (-1)) ++ qab (IntKind.i16.wrap x2) x4).drop 4)⟩]:List Rw)
abbrev z12 (x0) (x1) (x2) (x3):=([⟨some ⟨x0,0,none⟩,1,84,1,1,[.iface 123 (.agg #[.func (.func 66) #[] #[x1]])]⟩,brow x2 x3 5 (([]:Bs) ++ [by8 0,by8 0,by8 0,by8 0] ++ be 2 59)]:List Rw)
abbrev z11 (x0) (x1) (x2) (x3) (x4):=([⟨some ⟨x0,0,none⟩,1,84,1,1,[.iface 123 (.agg #[.func (.func 66) #[] #[x1]])]⟩,brow x2 x3 5 (([]:Bs) ++ [by8 0,by8 0,by8 0,by8 0] ++ be 2 59 ++ be 2 (IntKind.i16.wrap x4))]:List Rw)
abbrev z10 (x0) (x1) (x2) (x3) (x4) (x5):=([⟨some ⟨x0,0,none⟩,1,84,1,1,[.iface 123 (.agg #[.func (.func 66) #[] #[x1]])]⟩,brow x2 x3 5 (([]:Bs) ++ [by8 0,by8 0,by8 0,by8 0] ++ be 2 59 ++ be 2 (IntKind.i16.wrap x4) ++ be 4 x5)]:List Rw)
abbrev z15 (x0) (x1) (x2) (x3) (x4) (x5) (x6) (x7):=([⟨some ⟨x0,0,none⟩,1,84,1,1,[.iface 123 (.agg #[.func (.func 66) #[] #[x1]])]⟩,brow x2 x3 5 ((([]:Bs) ++ [by8 0,by8 0,by8 0,by8 0] ++ be 2 59 ++ be 2 (IntKind.i16.wrap x4) ++ be 4 x5) ++ (be 2 x6 ++ sb x7) ++ [by8 0])]:List Rw)
abbrev z9 (x0) (x1) (x2) (x3) (x4) (x5) (x6) (x7) (x8):=([⟨some ⟨x0,0,none⟩,1,84,1,1,[.iface 123 (.agg #[.func (.func 66) #[] #[x1]])]⟩,brow x2 x3 5 (((([]:Bs) ++ [by8 0,by8 0,by8 0,by8 0] ++ be 2 59 ++ be 2 (IntKind.i16.wrap x4) ++ be 4 x5) ++ (be 2 x6 ++ sb x7)) ++ qab (IntKind.i16.wrap x4) x8)]:List Rw)
abbrev z18 (x0) (x1) (x2) (x3) (x4) (x5) (x6) (x7):=([⟨some ⟨x0,0,none⟩,1,84,1,1,[.iface 123 (.agg #[.func (.func 66) #[] #[x1]])]⟩,brow x2 x3 5 ((([]:Bs) ++ [by8 0,by8 0,by8 0,by8 0] ++ be 2 59 ++ be 2 (IntKind.i16.wrap x4) ++ be 4 x5) ++ (be 2 x6 ++ sb x7))]:List Rw)
set_option maxHeartbeats 4000000 in
theorem qdR (has:Bool) (txt:ByteArray) (num v:Int) (T:Tree) {A2:Option Addr} {c2:Nat} {w:World} {F:Nat → Nat → Prop} (hs_:Octs w F A2 c2 (qak (IntKind.i16.wrap v) T)) (hc:qbl T) (hkey:T.ranged) (htx:txt.size ≤ 32767) (hroom:txt.size + (qak (IntKind.i16.wrap v) T).length + 64 ≤ 1099511627776) :
  Calls Tryz.prog 10 #[.agg #[.bool has,.string txt],.int .i32 num,.int .i64 v,.slice A2 (qak (IntKind.i16.wrap v) T).length c2] w (fun e w'=>∃ A c,e = .returned (.tuple #[.slice A (qbf 59 (IntKind.i16.wrap v) num has (sb txt) (decide ((IntKind.i16.wrap v) ≥ 0)) (qak (IntKind.i16.wrap v) T)).length c,.bool true]) ∧ w'.ownsRow w.heap.size 5 1 (.slice A (qbf 59 (IntKind.i16.wrap v) num has (sb txt) (decide ((IntKind.i16.wrap v) ≥ 0)) (qak (IntKind.i16.wrap v) T)).length c) (qbf 59 (IntKind.i16.wrap v) num has (sb txt) (decide ((IntKind.i16.wrap v) ≥ 0)) (qak (IntKind.i16.wrap v) T)).length (bc (qbf 59 (IntKind.i16.wrap v) num has (sb txt) (decide ((IntKind.i16.wrap v) ≥ 0)) (qak (IntKind.i16.wrap v) T))) ∧ Step w w' Nil):=by
 refine enter (n:=26) Tryz.func10 rfl Tryz.ntmps10 kz fun a hE=>?_
 have hW:=WOk.start w Nil
 have hsm2:=Slots.small hs_
 refine qad [0,1,2] kz ?_
 let bK:Value:=.string txt
 refine qam (qbt hW hE (d:=4) (cs:=[.bool has,bK]) kz fun b1 a2 w3 hb4 hz5 hF6 hW7 hE8=>?_)
 let aK:Nat × SV:=(1,.v (.int .i32 num))
 let cM:Nat × SV:=(2,.v (.int .i64 v))
 let aL:Nat × SV:=(4,.p 0 0)
 refine qaj [1,2] [] [aK,cM,(3,.v (.slice A2 ((qak (IntKind.i16.wrap v) T).length) c2)),aL] hW7 hE8 fun a9 mV=>?_
 refine qae (qaa ?_)
 refine qad [0,1] kz ?_
 refine qam (qa8 mV (f:=15) (vs:=[]) (d:=11) (n':=3) kz Tryz.call15 Tryz.func15 rfl Tryz.ntmps15 kz fun tN mW=>?_)
 refine qat [] hW7 mW fun tO mX=>?_
 refine qad [0] kz ?_
 let bp:Value:=.pointer none
 let cr:Value:=.int .i32 0
 let bq:Value:=.slice none 0 0
 refine qam (qbo hW7 mX (d:=1) (cs:=[.int .i16 0,bp,cr,cr,bq,.map none]) kz fun aC tP tQ ou ov ow fq mY=>?_)
 refine qae (qaa ?_)
 refine qad [0] kz ?_
 let cN:Value:=.pointer (some ⟨aC,0,none⟩)
 refine qam (qa8 mY (f:=24) (vs:=[cN]) (d:=2) (n':=8) kz Tryz.call24 Tryz.func24 rfl Tryz.ntmps24 kz fun tR mZ=>?_)
 have m4:=mZ.recast 0 (.v (.pointer (some ⟨aC,0,none⟩))) (.p 1 0) rfl rfl (Nat.le_of_ble_eq_true (n:=2) rfl)
 refine qad [0,1,2,3] kz ?_
 let bL:Nat × SV:=(0,.p 1 0)
 refine qaj [0,1,2] [3] [bL,(4,.p 1 2)] fq m4 fun tS m5=>?_
 refine qam (qaK fq m5 (oi:=1) (cs:=[.int .i16 0,bp,.int .i32 (-1),cr,bq,.map none]) kz fun tT ox fr m6=>?_)
 refine qae (qaa ?_)
 refine qaq [0,1,2,3] kz ?_
 refine qaj [0,1,2] [3] [(7,.p 1 3)] fr m6 fun tU m7=>?_
 refine qam (qaK fr m7 (oi:=1) (cs:=[.int .i16 0,bp,.int .i32 (-1),.int .i32 2147483647,bq,.map none]) kz fun tV oy cL m8=>?_)
 refine qae (qcl m8 cL.cells (v:=.tuple #[]) kz ?_)
 refine ⟨_,rfl,fun tW m9=>?_⟩
 let aa:Ob:=⟨b1,0,[.bool has,.string txt],true⟩
 let cu:Ob:=⟨aC,0,[.int .i16 0,.pointer none,.int .i32 (-1),.int .i32 2147483647,.slice none 0 0,.map none],true⟩
 have nf:=(EnvOk.places (tb':=[aa,cu]) m9 (show Pl [aa,⟨aC,0,[.int .i16 0,bp,cr,cr,bq,.map none],true⟩] [aa,cu] from ⟨rfl,rfl,⟨rfl,rfl,trivial⟩⟩)).pk (env':=[(2,.v (.tuple #[])),(1,.p 1 0)])
 refine qae (qaa ?_)
 refine qat [bL] cL nf fun tX ng=>?_
 refine wp_ret (qaD ng cL.cells (v:=.pointer (some ⟨aC,0,none⟩)) kz ?_)
 refine ⟨_,rfl,fun tY nh=>?_⟩
 have ni:=(EnvOk.places (tb':=[aa,cu]) nh (show Pl [aa] [aa,cu] from ⟨rfl,rfl,trivial⟩)).pk (env':=[(11,.v (.pointer (some ⟨aC,0,none⟩))),aK,cM,(3,.v (.slice A2 ((qak (IntKind.i16.wrap v) T).length) c2)),aL])
 have nj:=ni.recast 11 (.v (.pointer (some ⟨aC,0,none⟩))) (.p 1 0) rfl rfl (Nat.le_of_ble_eq_true (n:=2) rfl)
 have nk:=nj.pick (ks:=[1,2,3,4,11]) (env':=[aK,cM,(3,.v (.slice A2 ((qak (IntKind.i16.wrap v) T).length) c2)),aL,(11,.p 1 0)]) kz
 let bt:Nat × SV:=(10,.p 1 0)
 refine qaj [1] [] [aK,cM,(3,.v (.slice A2 ((qak (IntKind.i16.wrap v) T).length) c2)),aL,bt] cL nk fun tZ nl=>?_
 refine qae (qaa ?_)
 refine qad [0,1,2,3] kz ?_
 refine qaj [0,1,2] [3] [aK,(3,.v (.slice A2 ((qak (IntKind.i16.wrap v) T).length) c2)),aL,bt,(12,.p 1 0),(14,.v (.int .i16 (IntKind.i16.wrap v)))] cL nl fun t6 np=>?_
 let cO:Value:=.int .i16 (IntKind.i16.wrap v)
 refine qam (qa8 np (f:=19) (vs:=[cN,cO]) (d:=15) (n':=8) kz Tryz.call19 Tryz.func19 rfl Tryz.ntmps19 kz fun t7 nr=>?_)
 have ns:=nr.recast 0 (.v (.pointer (some ⟨aC,0,none⟩))) (.p 1 0) rfl rfl (Nat.le_of_ble_eq_true (n:=2) rfl)
 refine qaq [0,1,2,3,4] kz ?_
 refine qaj [0,1,2,3] [4] [(5,.v (.int .i16 (IntKind.i16.wrap v))),(7,.p 1 0)] cL ns fun t8 nt=>?_
 refine qam (qaK cL nt (oi:=1) (cs:=[cO,bp,.int .i32 (-1),.int .i32 2147483647,bq,.map none]) kz fun ua oz dQ nu=>?_)
 refine qae (qcl nu dQ.cells (v:=.tuple #[]) kz ?_)
 refine ⟨_,rfl,fun ub nv=>?_⟩
 let cP:Ob:=⟨aC,0,[.int .i16 (IntKind.i16.wrap v),.pointer none,.int .i32 (-1),.int .i32 2147483647,.slice none 0 0,.map none],true⟩
 have nw:=(EnvOk.places (tb':=[aa,cP]) nv (show Pl [aa,cu] [aa,cP] from ⟨rfl,rfl,⟨rfl,rfl,trivial⟩⟩)).pk (env':=[(15,.v (.tuple #[])),aK,(3,.v (.slice A2 ((qak (IntKind.i16.wrap v) T).length) c2)),aL,bt,(12,.p 1 0),(14,.v (.int .i16 (IntKind.i16.wrap v)))])
 refine qae (qaa ?_)
 refine wp_seq (qad [0,1,2,3,4] kz ?_)
 refine qaj [0,1] [2,3,4] [aK,aL,bt,(16,.p 1 0),(17,.v (.slice A2 ((qak (IntKind.i16.wrap v) T).length) c2))] dQ nw fun uc nx=>?_
 have dH:=dQ.addNil 5 1
 have oA:=dQ.frNil 5 1
 refine qam (qaI dH nx (k:=0) (d:=18) (t:=24) (e:=5) (size:=1) (bytes:=1) (A:=none) (As:=A2) (m0:=0) (c:=0) (m:=((qak (IntKind.i16.wrap v) T).length)) (cs:=c2) (xs:=[]) (news:=bc (qak (IntKind.i16.wrap v) T)) kz kz rfl (hs_.move dH.step nilM dH.imm).src (hs_.move dH.step nilM dH.imm).cap (by first | omega | (simp only [List.length_append,List.length_cons,List.length_nil,be_length,qb4]; omega) | (simp; omega)) fun dF dG ud ue oB ny nz=>?_)
 have nA:(⟨dF,dG,5,1,0 + (qak (IntKind.i16.wrap v) T).length,[] ++ bc (qak (IntKind.i16.wrap v) T)⟩:Rw) = brow dF dG 5 (qak (IntKind.i16.wrap v) T):=by rw [List.nil_append,Nat.zero_add]
 obtain ⟨dR,oC⟩:=ny.rowEq 0 [brow dF dG 5 (qak (IntKind.i16.wrap v) T)] nA
 have nB:=EnvOk.pick nz (ks:=[1,4,10,16,17,18]) (env':=[aK,aL,bt,(16,.p 1 0),(17,.v (.slice A2 ((qak (IntKind.i16.wrap v) T).length) c2)),(18,.v (.slice dF (0 + (qak (IntKind.i16.wrap v) T).length) dG))]) kz
 have nC:=nB.cast (env':=[aK,aL,bt,(16,.p 1 0),(17,.v (.slice A2 ((qak (IntKind.i16.wrap v) T).length) c2)),(18,.v (.slice dF ((qak (IntKind.i16.wrap v) T).length) dG))]) (by simp only [List.length_append,List.length_cons,List.length_nil,Nat.zero_add])
 refine qam (qa8 nC (f:=20) (vs:=[cN,.slice dF ((qak (IntKind.i16.wrap v) T).length) dG]) (d:=19) (n':=8) kz Tryz.call20 Tryz.func20 rfl Tryz.ntmps20 kz fun uf nD=>?_)
 have nE:=nD.recast 0 (.v (.pointer (some ⟨aC,0,none⟩))) (.p 1 0) rfl rfl (Nat.le_of_ble_eq_true (n:=2) rfl)
 refine qat [bL,(1,.v (.slice dF ((qak (IntKind.i16.wrap v) T).length) dG))] dR nE fun ug nF=>?_
 refine qad [0,1,2,3] kz ?_
 refine qaj [0,1] [2,3] [(5,.p 1 0),(6,.v (.slice dF ((qak (IntKind.i16.wrap v) T).length) dG))] dR nF fun uh nG=>?_
 have nH:=dR.giveUp (G:=F) 0 [] (show _ = some (brow dF dG 5 (qak (IntKind.i16.wrap v) T)) from rfl) (by omega)
 obtain ⟨ft,oD⟩:=dR.cutR 0 []
 refine qam (qal nG (f:=34) (vs:=[cN,.slice dF ((qak (IntKind.i16.wrap v) T).length) dG,.bool false]) (d:=7) kz Tryz.call34 (qdP (IntKind.i16.wrap v) T (Str.of ft 1 rfl) nH (qnp 1 rfl) hc hkey) ?_)
 rintro e_ ui ⟨af,rfl,nI,nJ,bM,fu⟩
 replace bM:=qdQ _ _ _ bM
 let ab:Ob:=⟨aC,0,[.int .i16 (IntKind.i16.wrap v),.pointer ((af.f 0).A),.int .i32 ((af.f 1).n),.int .i32 ((af.f 2).n),.slice ((af.f 3).A) ((af.f 3).l) ((af.f 3).c),.map af.m],true⟩
 obtain ⟨dI,oE,nK⟩:=ft.wrote 1 [aa,ab] rfl fu nI
 have cQ:=qa4 _ (Step.refl _ Nil) nilM nK nJ
 refine ⟨_,rfl,fun uj fv=>?_⟩
 have fw:=(EnvOk.places (tb':=[aa,ab]) fv (show Pl [aa,cP] [aa,ab] from ⟨rfl,rfl,⟨rfl,rfl,trivial⟩⟩)).pk (env':=[(7,.v (.nilIface)),(5,.p 1 0),(6,.v (.slice dF ((qak (IntKind.i16.wrap v) T).length) dG))])
 have hv94l:=congrArg List.length bM
 refine qaj [3] [] [(4,.v (.nilIface))] dI fw fun oF fx=>?_
 refine qae (qaa ?_)
 refine wp_ret (qaD fx dI.cells (v:=.nilIface) kz ?_)
 refine ⟨_,rfl,fun oG fy=>?_⟩
 have fz:=(EnvOk.places (tb':=[aa,ab]) fy (show Pl [aa,cP] [aa,ab] from ⟨rfl,rfl,⟨rfl,rfl,trivial⟩⟩)).pk (env':=[(19,.v (.nilIface)),aK,aL,bt,(16,.p 1 0),(17,.v (.slice A2 ((qak (IntKind.i16.wrap v) T).length) c2)),(18,.v (.slice dF ((qak (IntKind.i16.wrap v) T).length) dG))])
 refine qaj [4] [] [aK,aL,bt,(20,.v (.bool false))] dI fz fun oH dS=>?_
 refine qae (qaa ?_)
 refine qau dS (b:=false) kz rfl ?_
 refine wp_skip (qaa (qad [0,1,2,3,4,5,6] kz ?_))
 let aZ:Nat × SV:=(21,.v (.agg #[.bool has,.string txt]))
 let ba:Nat × SV:=(23,.v (.iface 46 (.pointer (some ⟨aC,0,none⟩))))
 let bd:Nat × SV:=(24,.v (.int .i32 num))
 refine qaj [0,1,2,3] [4,5,6] [aZ,ba,bd] dI dS fun oI fA=>?_
 let dJ:Value:=.iface 46 (.pointer (some ⟨aC,0,none⟩))
 let cv:Value:=.int .i32 num
 refine qam (qa8 fA (f:=21) (vs:=[.agg #[.bool has,bK],dJ,cv]) (d:=25) (n':=20) kz Tryz.call21 Tryz.func21 rfl Tryz.ntmps21 kz fun oJ fB=>?_)
 refine qad [0,1] kz ?_
 refine qam (qbt dI fB (d:=3) (cs:=[.bool has,bK]) kz fun nL oK oL nN nO bu dK fC=>?_)
 let aU:Nat × SV:=(1,.v (.iface 46 (.pointer (some ⟨aC,0,none⟩))))
 let aV:Nat × SV:=(2,.v (.int .i32 num))
 refine qaj [1] [] [aU,aV,(3,.p 2 0)] dK fC fun oM fD=>?_
 refine qae (qaa ?_)
 refine qad [0,1] kz ?_
 refine qam (qa8 fD (f:=35) (vs:=[bq]) (d:=8) (n':=18) kz Tryz.call35 Tryz.func35 rfl Tryz.ntmps35 kz fun oN fE=>?_)
 refine qat [(0,.v (.slice none 0 0))] dK fE fun oO fF=>?_
 refine qad [0,1] kz ?_
 refine qam (qbo dK fF (d:=6) (cs:=[bp]) kz fun dE oP oQ nP nQ bw aD fG=>?_)
 refine qaj [1] [] [(0,.v (.slice none 0 0)),(3,.p 3 0)] aD fG fun oR fH=>?_
 refine qae (qaa ?_)
 refine wp_seq ?_
 let bN:Nat × SV:=(9,.v (.int .i64 0))
 refine qat [(3,.p 3 0),(7,.v (.slice none 0 0)),(8,.v (.int .i64 0)),bN] aD fH fun oS fI=>?_
 refine wp_block (wp_loop_rounds 1 ?_)
 refine qhb (qat [(3,.p 3 0),(7,.v (.slice none 0 0)),(8,.v (.int .i64 0)),bN,(10,.v (.bool false))] aD fI fun oT dT=>?_)
 refine wp_seq (qau dT (b:=false) kz rfl ?_)
 refine wp_exit (qay (qay (qaQ (qaa (qat [(2,.p 3 0)] aD dT fun oU fJ=>?_)))))
 refine wp_ret (qaD fJ aD.cells (v:=.pointer (some ⟨dE,0,none⟩)) kz ?_)
 refine ⟨_,rfl,fun oV fK=>?_⟩
 let ac:Ob:=⟨nL,0,[.bool has,.string txt],true⟩
 let ae:Ob:=⟨dE,0,[.pointer none],true⟩
 have fL:=(EnvOk.places (tb':=[aa,ab,ac,ae]) fK (show Pl [aa,ab,ac] [aa,ab,ac,ae] from ⟨rfl,rfl,⟨rfl,rfl,⟨rfl,rfl,trivial⟩⟩⟩)).pk (env':=[(8,.v (.pointer (some ⟨dE,0,none⟩))),aU,aV,(3,.p 2 0)])
 have fM:=fL.recast 8 (.v (.pointer (some ⟨dE,0,none⟩))) (.p 3 0) rfl rfl (Nat.le_of_ble_eq_true (n:=4) rfl)
 have fN:=fM.pick (ks:=[1,2,3,8]) (env':=[aU,aV,(3,.p 2 0),(8,.p 3 0)]) kz
 refine qaj [1] [] [aU,aV,(3,.p 2 0),(7,.p 3 0)] aD fN fun oW fO=>?_
 refine qae (qaa ?_)
 refine wp_seq (qat [aU,aV,(3,.p 2 0),(7,.p 3 0),(10,.v (.bool has))] aD fO fun oX dL=>?_)
 let aE:Nat × SV:=(17,.v (.iface 46 (.pointer (some ⟨aC,0,none⟩))))
 let aW:Nat × SV:=(18,.v (.int .i32 num))
 let ag:Nat × SV:=(2,.v (.iface 46 (.pointer (some ⟨aC,0,none⟩))))
 let al:Nat × SV:=(3,.v (.int .i32 num))
 let cd:Nat × SV:=(12,.v (.slice none 0 0))
 let cR:Nat × SV:=(15,.v (.iface 46 (.pointer (some ⟨aC,0,none⟩))))
 let az:Nat × SV:=(9,.v (.int .i16 59))
 let cS:Nat × SV:=(41,.v (.iface 46 (.pointer (some ⟨aC,0,none⟩))))
 let aX:Nat × SV:=(11,.v (.int .u8 0))
 let ce:Nat × SV:=(44,.v (.int .u8 0))
 let cU:Nat × SV:=(49,.v (.iface 46 (.pointer (some ⟨aC,0,none⟩))))
 let bx:Nat × SV:=(9,.v (.bool true))
 let aY:Value:=.int .u8 0
 let bz:Value:=.bool true
 refine qaA dL (b:=has) kz (fun bf=>?_) (fun bf=>?_)
 ·
  refine qaq [0,1,2,3,4,5] kz ?_
  let cV:Nat × SV:=(12,.v (.string txt))
  refine qaj [0,1] [2,3,4,5] [aU,aV,cV] aD dL fun oY fP=>?_
  refine qam (qa8 fP (f:=36) (vs:=[bK]) (d:=13) (n':=6) kz Tryz.call36 Tryz.func36 rfl Tryz.ntmps36 kz fun oZ fQ=>?_)
  refine qad [0,1] kz ?_
  refine qam (qbt aD fQ (d:=1) (cs:=[bK]) kz fun bo o5 o6 nR nS cW cX fR=>?_)
  refine qaj [1] [] [(1,.p 4 0)] cX fR fun o7 fS=>?_
  refine qae (qaa ?_)
  refine qad [0,1,2,3] kz ?_
  let ak:Value:=.pointer (some ⟨bo,0,none⟩)
  refine qam (qgT fS (v:=.func (.func 66) #[] #[ak]) (d:=3) kz fun o8 fT=>?_)
  let nT:Value:=.func (.func 66) #[] #[.pointer (some ⟨bo,0,none⟩)]
  refine qaj [1,2,3] [] [(2,.v (.iface 123 (.agg #[.func (.func 66) #[] #[ak]])))] cX fT fun o9 fV=>?_
  refine qae (qaa ?_)
  refine wp_ret (qaD fV cX.cells (v:=.iface 123 (.agg #[.func (.func 66) #[] #[ak]])) kz ?_)
  refine ⟨_,rfl,fun pa fW=>?_⟩
  let ah:Ob:=⟨bo,0,[.string txt],true⟩
  let cw:Nat × SV:=(13,.v (.iface 123 (.agg #[.func (.func 66) #[] #[.pointer (some ⟨bo,0,none⟩)]])))
  have fX:=(EnvOk.places (tb':=[aa,ab,ac,ae,ah]) fW (show Pl [aa,ab,ac,ae] [aa,ab,ac,ae,ah] from ⟨rfl,rfl,⟨rfl,rfl,⟨rfl,rfl,⟨rfl,rfl,trivial⟩⟩⟩⟩)).pk (env':=[cw,aU,aV,cV])
  let nU:Value:=.iface 123 (.agg #[.func (.func 66) #[] #[.pointer (some ⟨bo,0,none⟩)]])
  refine qam (qdy cX fX (e:=84) (size:=1) (len:=1) (cs:=[.iface 123 (.agg #[.func (.func 66) #[] #[ak]])]) (d:=14) kz kz fun ay pb pc nV nW cY dU fY=>?_)
  refine qam (qa8 fY (f:=35) (vs:=[.slice (some ⟨ay,0,none⟩) 1 1]) (d:=15) (n':=18) kz Tryz.call35 Tryz.func35 rfl Tryz.ntmps35 kz fun pd fZ=>?_)
  let dV:Nat × SV:=(0,.v (.slice (some ⟨ay,0,none⟩) 1 1))
  refine qat [dV] dU fZ fun pe f5=>?_
  refine qad [0,1] kz ?_
  refine qam (qbo dU f5 (d:=6) (cs:=[bp]) kz fun cq pf pg nX nY cZ bO f7=>?_)
  let bA:Nat × SV:=(3,.p 5 0)
  refine qaj [1] [] [dV,bA] bO f7 fun ph f8=>?_
  refine qae (qaa ?_)
  refine wp_seq ?_
  let bP:Nat × SV:=(7,.v (.slice (some ⟨ay,0,none⟩) 1 1))
  let bQ:Nat × SV:=(8,.v (.int .i64 1))
  refine qat [bA,bP,bQ,bN] bO f8 fun pi f9=>?_
  refine wp_block (wp_loop_rounds 2 ?_)
  refine qhb (qat [bA,bP,bQ,bN,(10,.v (.bool true))] bO f9 fun pj dW=>?_)
  refine wp_seq (qbw dW (b:=true) kz rfl ?_)
  refine wp_skip (qaa (wp_seq (wp_block (qad [0,1,2] kz ?_))))
  have fi:=qhl (o:=0 * 1) (cs:=[.iface 123 (.agg #[.func (.func 66) #[] #[ak]])]) (bO.own 0 _ rfl) rfl (fun j_ v_ h_=>by simpa using h_)
  refine qam (qaz dW (t:=118) (A:=(some ⟨ay,0,none⟩)) (m:=1) (q:=0) (d:=11) kz (e:=84) (size:=1) (bytes:=16) kz (b:=ay) (o:=0) (j:=0) rfl (rfl) (by omega) fun pl ga=>?_)
  refine qam (qaH ga (t:=84) (b:=ay) (o:=0 + 0 * 1) (d:=12) kz (cs:=[.iface 123 (.agg #[.func (.func 66) #[] #[ak]])]) (v:=.iface 123 (.agg #[.func (.func 66) #[] #[ak]])) kz fi fun pm gb=>?_)
  refine qaj [2] [] [bA,(5,.v (.iface 123 (.agg #[.func (.func 66) #[] #[ak]]))),bP,bQ,bN] bO gb fun pn gc=>?_
  refine qae (qaa ?_)
  refine qaq [0,1,2] kz ?_
  refine qaj [0,1] [2] [bA,bP,bQ,bN,cw,(14,.p 5 0)] bO gc fun po gd=>?_
  let dM:Value:=.pointer (some ⟨cq,0,none⟩)
  refine qam (qcq gd (t := 123) (v := (.agg #[.func (.func 66) #[] #[ak]])) (v' := (.agg #[.func (.func 66) #[] #[ak]])) (name := "pub-mailsack/pub/kmsg.apply") (f := 146) (vs := [dM]) (d := 15) (n' := 8) kz (fun _ => by kernel_rfl) Tryz.call146 Tryz.func146 rfl Tryz.ntmps146 kz fun pp ge => ?_)
  have gg:=ge.recast 1 (.v (.pointer (some ⟨cq,0,none⟩))) (.p 5 0) rfl rfl (Nat.le_of_ble_eq_true (n:=6) rfl)
  refine qad [0] kz ?_
  refine qam (qbt bO gg (d:=2) (cs:=[.func (.func 66) #[] #[ak]]) kz fun nM pq pr nZ n0 c5 dN gh=>?_)
  refine qae (qaa ?_)
  refine qaq [0,1,2,3] kz ?_
  let dX:Nat × SV:=(5,.v (.func (.func 66) #[] #[.pointer (some ⟨bo,0,none⟩)]))
  refine qaj [0,1,2] [3] [dX,(6,.p 5 0)] dN gh fun pt gi=>?_
  refine qam (qa8 gi (f:=66) (vs:=[dM,ak]) (d:=7) (n':=6) kz Tryz.call66 Tryz.func66 rfl Tryz.ntmps66 kz fun pu gj=>?_)
  have gk:=gj.recast 0 (.v (.pointer (some ⟨cq,0,none⟩))) (.p 5 0) rfl rfl (Nat.le_of_ble_eq_true (n:=6) rfl)
  have gl:=gk.recast 1 (.v (.pointer (some ⟨bo,0,none⟩))) (.p 4 0) rfl rfl (Nat.le_of_ble_eq_true (n:=5) rfl)
  refine qaq [0,1,2,3] kz ?_
  refine qaj [0,1,2] [3] [(1,.p 4 0),(5,.p 5 0)] dN gl fun pv gm=>?_
  refine qam (qaK dN gm (oi:=5) (cs:=[ak]) kz fun pw da aJ gn=>?_)
  refine qae (qcl gn aJ.cells (v:=.tuple #[]) kz ?_)
  refine ⟨_,rfl,fun px gp=>?_⟩
  let aj:Ob:=⟨cq,0,[.pointer (some ⟨bo,0,none⟩)],true⟩
  let ai:Ob:=⟨nM,0,[.func (.func 66) #[] #[.pointer (some ⟨bo,0,none⟩)]],true⟩
  let dY:Ob:=⟨cq,0,[.pointer none],true⟩
  have gq:=(EnvOk.places (tb':=[aa,ab,ac,ae,ah,aj,ai]) gp (show Pl [aa,ab,ac,ae,ah,dY,ai] [aa,ab,ac,ae,ah,aj,ai] from ⟨rfl,rfl,⟨rfl,rfl,⟨rfl,rfl,⟨rfl,rfl,⟨rfl,rfl,⟨rfl,rfl,⟨rfl,rfl,trivial⟩⟩⟩⟩⟩⟩⟩)).pk (env':=[(7,.v (.tuple #[])),dX,(6,.p 5 0)])
  refine qae (qcl gq aJ.cells (v:=.tuple #[]) kz ?_)
  refine ⟨_,rfl,fun pz gt=>?_⟩
  have gv:=(EnvOk.places (tb':=[aa,ab,ac,ae,ah,aj,ai]) gt (show Pl [aa,ab,ac,ae,ah,dY] [aa,ab,ac,ae,ah,aj,ai] from ⟨rfl,rfl,⟨rfl,rfl,⟨rfl,rfl,⟨rfl,rfl,⟨rfl,rfl,⟨rfl,rfl,trivial⟩⟩⟩⟩⟩⟩)).pk (env':=[(15,.v (.tuple #[])),bA,bP,bQ,bN,cw,(14,.p 5 0)])
  refine qae (qaw (qaa (qaq [0,1] kz ?_)))
  refine qaj [0,1] [] [bA,bP,bQ,(9,.v (.int .i64 1))] aJ gv fun pA gw=>?_
  refine qae (qaa ?_)
  refine qhb (qat [bA,bP,bQ,(9,.v (.int .i64 1)),(10,.v (.bool false))] aJ gw fun pB dZ=>?_)
  refine wp_seq (qau dZ (b:=false) kz rfl ?_)
  refine wp_exit (qay (qay (qaQ (qaa (qat [(2,.p 5 0)] aJ dZ fun pC gx=>?_)))))
  refine wp_ret (qaD gx aJ.cells (v:=.pointer (some ⟨cq,0,none⟩)) kz ?_)
  refine ⟨_,rfl,fun pD gy=>?_⟩
  let d5:Nat × SV:=(14,.v (.slice (some ⟨ay,0,none⟩) 1 1))
  have gz:=(EnvOk.places (tb':=[aa,ab,ac,ae,ah,aj,ai]) gy (show Pl [aa,ab,ac,ae,ah] [aa,ab,ac,ae,ah,aj,ai] from ⟨rfl,rfl,⟨rfl,rfl,⟨rfl,rfl,⟨rfl,rfl,⟨rfl,rfl,trivial⟩⟩⟩⟩⟩)).pk (env':=[(15,.v (.pointer (some ⟨cq,0,none⟩))),aU,aV,cV,cw,d5])
  have gA:=gz.recast 15 (.v (.pointer (some ⟨cq,0,none⟩))) (.p 5 0) rfl rfl (Nat.le_of_ble_eq_true (n:=6) rfl)
  have gB:=gA.pick (ks:=[1,2,12,13,14,15]) (env':=[aU,aV,cV,cw,d5,(15,.p 5 0)]) kz
  refine qaj [5] [] [aU,aV,(7,.p 5 0)] aJ gB fun pE gC=>?_
  refine qae (qaa ?_)
  refine qad [0,1,2,3,4] kz ?_
  let cz:Nat × SV:=(16,.p 5 0)
  refine qaj [0,1,2] [3,4] [cz,aE,aW] aJ gC fun pF gD=>?_
  refine qam (qa8 gD (f:=37) (vs:=[dM,bq,dJ,cv]) (d:=19) (n':=60) kz Tryz.call37 Tryz.func37 rfl Tryz.ntmps37 kz fun pG gE=>?_)
  have gF:=gE.recast 0 (.v (.pointer (some ⟨cq,0,none⟩))) (.p 5 0) rfl rfl (Nat.le_of_ble_eq_true (n:=6) rfl)
  let aA:Nat × SV:=(0,.p 5 0)
  refine qat [aA,(1,.v (.slice none 0 0)),ag,al] aJ gF fun pH gG=>?_
  refine qad [0,1,2,3] kz ?_
  refine qaj [0] [1,2,3] [aA,ag,al,cd] aJ gG fun pI gH=>?_
  have gI:=aJ.addNil 5 1
  have db:=aJ.frNil 5 1
  refine qby gI gH (k:=1) (e:=5) (size:=1) (len:=4) (cs:=[aY,aY,aY,aY]) (d1:=13) (d:=14) kz (t:=24) (bytes:=1) kz (fun _=>by kernel_rfl) rfl kz (by first | omega | (simp only [List.length_append,List.length_cons,List.length_nil,be_length,qb4]; omega) | (simp; omega)) fun aO aP pJ pK dc gJ ⟨_,gK⟩=>?_
  have gL:(⟨aO,aP,5,1,([]:Bs).length + 4,bc ([]:Bs) ++ [.int .u8 0,.int .u8 0,.int .u8 0,.int .u8 0]⟩:Rw) = brow aO aP 5 (([]:Bs) ++ [by8 0,by8 0,by8 0,by8 0]):=qa6 (by simp only [bc,List.map,qbK]; try rfl) rfl
  obtain ⟨aF,de⟩:=gJ.rowEq 1 [⟨some ⟨ay,0,none⟩,1,84,1,1,[.iface 123 (.agg #[.func (.func 66) #[] #[ak]])]⟩,brow aO aP 5 (([]:Bs) ++ [by8 0,by8 0,by8 0,by8 0])] gL
  have gM:=EnvOk.pick gK (ks:=[0,2,3,12,14]) (env':=[aA,ag,al,cd,(14,.v (.slice aO (([]:Bs).length + 4) aP))]) kz
  have gN:=gM.cast (env':=[aA,ag,al,cd,(14,.v (.slice aO ((([]:Bs) ++ [by8 0,by8 0,by8 0,by8 0]).length) aP))]) (by simp only [List.length_append,List.length_cons,List.length_nil,Nat.zero_add])
  refine qaj [3] [] [aA,(1,.v (.slice aO ((([]:Bs) ++ [by8 0,by8 0,by8 0,by8 0]).length) aP)),ag,al] aF gN fun pL gO=>?_
  refine qae (qaa ?_)
  refine qad [0,1,2] kz ?_
  refine qaj [0] [1,2] [aA,(1,.v (.slice aO ((([]:Bs) ++ [by8 0,by8 0,by8 0,by8 0]).length) aP)),ag,al,cR] aF gO fun pM gP=>?_
  refine qam (qcq gP (t := 46) (v := (.pointer (some ⟨aC, 0, none⟩))) (v' := (.pointer (some ⟨aC, 0, none⟩))) (name := "Key") (f := 99) (vs := []) (d := 16) (n' := 3) kz (fun _ => by kernel_rfl) Tryz.call99 Tryz.func99 rfl Tryz.ntmps99 kz fun pN gQ => ?_)
  have gR:=gQ.recast 0 (.v (.pointer (some ⟨aC,0,none⟩))) (.p 1 0) rfl rfl (Nat.le_of_ble_eq_true (n:=2) rfl)
  refine qat [] aF gR fun pO gS=>?_
  refine qat [(2,.v (.int .i16 59))] aF gS fun pP gT=>?_
  refine wp_ret (qaD gT aF.cells (v:=.int .i16 59) kz ?_)
  refine ⟨_,rfl,fun pQ gU=>?_⟩
  have gV:=(EnvOk.places (tb':=[aa,ab,ac,ae,ah,aj,ai]) gU (show Pl [aa,ab,ac,ae,ah,aj,ai] [aa,ab,ac,ae,ah,aj,ai] from ⟨rfl,rfl,⟨rfl,rfl,⟨rfl,rfl,⟨rfl,rfl,⟨rfl,rfl,⟨rfl,rfl,⟨rfl,rfl,trivial⟩⟩⟩⟩⟩⟩⟩)).pk (env':=[(16,.v (.int .i16 59)),aA,(1,.v (.slice aO ((([]:Bs) ++ [by8 0,by8 0,by8 0,by8 0]).length) aP)),ag,al,cR])
  refine qaj [2] [] [aA,(1,.v (.slice aO ((([]:Bs) ++ [by8 0,by8 0,by8 0,by8 0]).length) aP)),ag,al,az] aF gV fun pR gW=>?_
  refine qae (qaa ?_)
  refine qad [0,1,2] kz ?_
  refine qaj [0] [1,2] [aA,(1,.v (.slice aO ((([]:Bs) ++ [by8 0,by8 0,by8 0,by8 0]).length) aP)),ag,al,az,aE] aF gW fun pS gX=>?_
  refine qam (qcq gX (t := 46) (v := (.pointer (some ⟨aC, 0, none⟩))) (v' := (.pointer (some ⟨aC, 0, none⟩))) (name := "GetVersion") (f := 97) (vs := []) (d := 18) (n' := 7) kz (fun _ => by kernel_rfl) Tryz.call97 Tryz.func97 rfl Tryz.ntmps97 kz fun pT gY => ?_)
  have gZ:=gY.recast 0 (.v (.pointer (some ⟨aC,0,none⟩))) (.p 1 0) rfl rfl (Nat.le_of_ble_eq_true (n:=2) rfl)
  refine qat [bL] aF gZ fun pU hC=>?_
  refine qat [(2,.v (.int .i16 (IntKind.i16.wrap v)))] aF hC fun pV hJ=>?_
  refine wp_ret (qaD hJ aF.cells (v:=.int .i16 (IntKind.i16.wrap v)) kz ?_)
  refine ⟨_,rfl,fun pW hK=>?_⟩
  have hZ:=(EnvOk.places (tb':=[aa,ab,ac,ae,ah,aj,ai]) hK (show Pl [aa,ab,ac,ae,ah,aj,ai] [aa,ab,ac,ae,ah,aj,ai] from ⟨rfl,rfl,⟨rfl,rfl,⟨rfl,rfl,⟨rfl,rfl,⟨rfl,rfl,⟨rfl,rfl,⟨rfl,rfl,trivial⟩⟩⟩⟩⟩⟩⟩)).pk (env':=[(18,.v (.int .i16 (IntKind.i16.wrap v))),aA,(1,.v (.slice aO ((([]:Bs) ++ [by8 0,by8 0,by8 0,by8 0]).length) aP)),ag,al,az,aE])
  refine qaj [2] [] [aA,(1,.v (.slice aO ((([]:Bs) ++ [by8 0,by8 0,by8 0,by8 0]).length) aP)),ag,al,az,(10,.v (.int .i16 (IntKind.i16.wrap v)))] aF hZ fun pX ia=>?_
  refine qae (qaa ?_)
  refine qad [0,1,2,3] kz ?_
  refine qaj [0,1] [2,3] [aA,ag,al,az,(10,.v (.int .i16 (IntKind.i16.wrap v))),(19,.v (.slice aO ((([]:Bs) ++ [by8 0,by8 0,by8 0,by8 0]).length) aP)),(20,.v (.int .i16 59))] aF ia fun pY ib=>?_
  refine qam (qal ib (f:=67) (vs:=[.slice aO ((([]:Bs) ++ [by8 0,by8 0,by8 0,by8 0]).length) aP,.int .i16 59]) (d:=21) kz Tryz.call67 (qcn aO aP (([]:Bs) ++ [by8 0,by8 0,by8 0,by8 0]) 59 _ (aF.own 1 _ rfl) (by first | omega | (simp only [List.length_append,List.length_cons,List.length_nil,be_length,qb4]; omega) | (simp; omega))) ?_)
  rintro e_ pZ ⟨cA,cB,rfl,ic,d6,d7⟩
  refine ⟨_,rfl,fun p5 ig=>?_⟩
  have df:WOk _ _ _ _ (z12 ay ak cA cB):=aF.grow (k:=1) rfl d6 ic d7
  have dg:Fr _ [aa,ab,ac,ae,ah,aj,ai] [⟨some ⟨ay,0,none⟩,1,84,1,1,[.iface 123 (.agg #[.func (.func 66) #[] #[ak]])]⟩,brow aO aP 5 (([]:Bs) ++ [by8 0,by8 0,by8 0,by8 0])] _ [aa,ab,ac,ae,ah,aj,ai] (z12 ay ak cA cB):=Fr.grow _ (k:=1) (r':=(brow cA cB 5 (([]:Bs) ++ [by8 0,by8 0,by8 0,by8 0] ++ be 2 59))) rfl d6 d7
  refine qaj [3] [] [aA,(1,.v (.slice cA ((([]:Bs) ++ [by8 0,by8 0,by8 0,by8 0] ++ be 2 59).length) cB)),ag,al,az,(10,.v (.int .i16 (IntKind.i16.wrap v)))] df ig fun p6 ii=>?_
  refine qae (qaa ?_)
  refine qad [0,1,2,3] kz ?_
  refine qaj [0,1] [2,3] [aA,ag,al,az,(10,.v (.int .i16 (IntKind.i16.wrap v))),(22,.v (.slice cA ((([]:Bs) ++ [by8 0,by8 0,by8 0,by8 0] ++ be 2 59).length) cB)),(23,.v (.int .i16 (IntKind.i16.wrap v)))] df ii fun p7 ij=>?_
  refine qam (qal ij (f:=67) (vs:=[.slice cA ((([]:Bs) ++ [by8 0,by8 0,by8 0,by8 0] ++ be 2 59).length) cB,cO]) (d:=24) kz Tryz.call67 (qcn cA cB (([]:Bs) ++ [by8 0,by8 0,by8 0,by8 0] ++ be 2 59) (IntKind.i16.wrap v) _ (df.own 1 _ rfl) (by first | omega | (simp only [List.length_append,List.length_cons,List.length_nil,be_length,qb4]; omega) | (simp; omega))) ?_)
  rintro e_ p8 ⟨cC,cE,rfl,ik,d8,d9⟩
  refine ⟨_,rfl,fun p9 il=>?_⟩
  have dh:WOk _ _ _ _ (z11 ay ak cC cE v):=df.grow (k:=1) rfl d8 ik d9
  have di:Fr _ [aa,ab,ac,ae,ah,aj,ai] (z12 ay ak cA cB) _ [aa,ab,ac,ae,ah,aj,ai] (z11 ay ak cC cE v):=Fr.grow _ (k:=1) (r':=(brow cC cE 5 (([]:Bs) ++ [by8 0,by8 0,by8 0,by8 0] ++ be 2 59 ++ be 2 (IntKind.i16.wrap v)))) rfl d8 d9
  refine qaj [3] [] [aA,(1,.v (.slice cC ((([]:Bs) ++ [by8 0,by8 0,by8 0,by8 0] ++ be 2 59 ++ be 2 (IntKind.i16.wrap v)).length) cE)),ag,al,az,(10,.v (.int .i16 (IntKind.i16.wrap v)))] dh il fun qa im=>?_
  refine qae (qaa ?_)
  refine qad [0,1,2,3] kz ?_
  refine qaj [0,1] [2,3] [aA,ag,az,(10,.v (.int .i16 (IntKind.i16.wrap v))),(25,.v (.slice cC ((([]:Bs) ++ [by8 0,by8 0,by8 0,by8 0] ++ be 2 59 ++ be 2 (IntKind.i16.wrap v)).length) cE)),(26,.v (.int .i32 num))] dh im fun qb io=>?_
  refine qam (qal io (f:=68) (vs:=[.slice cC ((([]:Bs) ++ [by8 0,by8 0,by8 0,by8 0] ++ be 2 59 ++ be 2 (IntKind.i16.wrap v)).length) cE,cv]) (d:=27) kz Tryz.call68 (qcd cC cE (([]:Bs) ++ [by8 0,by8 0,by8 0,by8 0] ++ be 2 59 ++ be 2 (IntKind.i16.wrap v)) num _ (dh.own 1 _ rfl) (by first | omega | (simp only [List.length_append,List.length_cons,List.length_nil,be_length,qb4]; omega) | (simp; omega))) ?_)
  rintro e_ qc ⟨bg,bh,rfl,ip,ea,eb⟩
  refine ⟨_,rfl,fun qd iq=>?_⟩
  have bj:WOk _ _ _ _ (z10 ay ak bg bh v num):=dh.grow (k:=1) rfl ea ip eb
  have dj:Fr _ [aa,ab,ac,ae,ah,aj,ai] (z11 ay ak cC cE v) _ [aa,ab,ac,ae,ah,aj,ai] (z10 ay ak bg bh v num):=Fr.grow _ (k:=1) (r':=(brow bg bh 5 (([]:Bs) ++ [by8 0,by8 0,by8 0,by8 0] ++ be 2 59 ++ be 2 (IntKind.i16.wrap v) ++ be 4 num))) rfl ea eb
  refine qaj [3] [] [aA,(1,.v (.slice bg ((([]:Bs) ++ [by8 0,by8 0,by8 0,by8 0] ++ be 2 59 ++ be 2 (IntKind.i16.wrap v) ++ be 4 num).length) bh)),ag,az,(10,.v (.int .i16 (IntKind.i16.wrap v)))] bj iq fun qe ir=>?_
  refine qae (qaa ?_)
  refine wp_seq (qat [aA,(1,.v (.slice bg ((([]:Bs) ++ [by8 0,by8 0,by8 0,by8 0] ++ be 2 59 ++ be 2 (IntKind.i16.wrap v) ++ be 4 num).length) bh)),ag,(33,.v (.bool false))] bj ir fun qf ec=>?_)
  refine qau ec (b:=false) kz rfl ?_
  refine wp_skip (qaa (qad [0,1,2,3,4,5,6] kz ?_))
  let ee:Nat × SV:=(39,.v (.pointer (some ⟨bo,0,none⟩)))
  refine qaj [0,1,2,3,4] [5,6] [ag,(35,.v (.slice bg ((([]:Bs) ++ [by8 0,by8 0,by8 0,by8 0] ++ be 2 59 ++ be 2 (IntKind.i16.wrap v) ++ be 4 num).length) bh)),ee] bj ec fun qg iu=>?_
  refine qam (qa8 iu (f:=69) (vs:=[.slice bg ((([]:Bs) ++ [by8 0,by8 0,by8 0,by8 0] ++ be 2 59 ++ be 2 (IntKind.i16.wrap v) ++ be 4 num).length) bh,ak]) (d:=40) (n':=14) kz Tryz.call69 Tryz.func69 rfl Tryz.ntmps69 kz fun qh iv=>?_)
  let ef:Nat × SV:=(1,.v (.pointer (some ⟨bo,0,none⟩)))
  refine qat [(0,.v (.slice bg ((([]:Bs) ++ [by8 0,by8 0,by8 0,by8 0] ++ be 2 59 ++ be 2 (IntKind.i16.wrap v) ++ be 4 num).length) bh)),ef] bj iv fun qi iw=>?_
  refine wp_seq (qat [(0,.v (.slice bg ((([]:Bs) ++ [by8 0,by8 0,by8 0,by8 0] ++ be 2 59 ++ be 2 (IntKind.i16.wrap v) ++ be 4 num).length) bh)),ef,(6,.v (.bool false))] bj iw fun qj eg=>?_)
  refine qau eg (b:=false) kz rfl ?_
  refine wp_skip (qaa (qad [0,1,2,3,4,5] kz ?_))
  refine qaj [0,1,2] [3,4,5] [(9,.v (.slice bg ((([]:Bs) ++ [by8 0,by8 0,by8 0,by8 0] ++ be 2 59 ++ be 2 (IntKind.i16.wrap v) ++ be 4 num).length) bh)),(11,.v (.pointer (some ⟨bo,0,none⟩)))] bj eg fun qk ix=>?_
  have fj:=(Str.of bj 4 rfl).atF.at_
  refine qam (qaH ix (t:=9) (b:=bo) (o:=0) (d:=12) kz (cs:=[bK]) (v:=.string txt) kz fj fun ql iy=>?_)
  refine qam (qal iy (f:=77) (vs:=[.slice bg ((([]:Bs) ++ [by8 0,by8 0,by8 0,by8 0] ++ be 2 59 ++ be 2 (IntKind.i16.wrap v) ++ be 4 num).length) bh,bK]) (d:=13) kz Tryz.call77 (qdD txt bg bh (([]:Bs) ++ [by8 0,by8 0,by8 0,by8 0] ++ be 2 59 ++ be 2 (IntKind.i16.wrap v) ++ be 4 num) _ (bj.own 1 _ rfl) (by first | omega | (simp only [List.length_append,List.length_cons,List.length_nil,be_length,qb4]; omega) | (simp; omega))) ?_)
  rintro e_ qm ⟨aQ,aR,rfl,iz,eh,ei⟩
  refine ⟨_,rfl,fun qn iA=>?_⟩
  have aG:WOk _ _ _ _ (z18 ay ak aQ aR v num txt.size txt):=bj.grow (k:=1) rfl eh iz ei
  have dl:=Fr.grow [aa,ab,ac,ae,ah,aj,ai] (k:=1) (rs:=(z10 ay ak bg bh v num)) (r':=(brow aQ aR 5 ((([]:Bs) ++ [by8 0,by8 0,by8 0,by8 0] ++ be 2 59 ++ be 2 (IntKind.i16.wrap v) ++ be 4 num) ++ (be 2 txt.size ++ sb txt)))) rfl eh ei
  refine qaj [5] [] [(4,.v (.slice aQ (((([]:Bs) ++ [by8 0,by8 0,by8 0,by8 0] ++ be 2 59 ++ be 2 (IntKind.i16.wrap v) ++ be 4 num) ++ (be 2 txt.size ++ sb txt)).length) aR))] aG iA fun qo iB=>?_
  refine qae (qaa ?_)
  refine wp_ret (qaD iB aG.cells (v:=.slice aQ (((([]:Bs) ++ [by8 0,by8 0,by8 0,by8 0] ++ be 2 59 ++ be 2 (IntKind.i16.wrap v) ++ be 4 num) ++ (be 2 txt.size ++ sb txt)).length) aR) kz ?_)
  refine ⟨_,rfl,fun qp iC=>?_⟩
  have iD:=(EnvOk.places (tb':=[aa,ab,ac,ae,ah,aj,ai]) iC (show Pl [aa,ab,ac,ae,ah,aj,ai] [aa,ab,ac,ae,ah,aj,ai] from ⟨rfl,rfl,⟨rfl,rfl,⟨rfl,rfl,⟨rfl,rfl,⟨rfl,rfl,⟨rfl,rfl,⟨rfl,rfl,trivial⟩⟩⟩⟩⟩⟩⟩)).pk (env':=[(40,.v (.slice aQ (((([]:Bs) ++ [by8 0,by8 0,by8 0,by8 0] ++ be 2 59 ++ be 2 (IntKind.i16.wrap v) ++ be 4 num) ++ (be 2 txt.size ++ sb txt)).length) aR)),ag,(35,.v (.slice bg ((([]:Bs) ++ [by8 0,by8 0,by8 0,by8 0] ++ be 2 59 ++ be 2 (IntKind.i16.wrap v) ++ be 4 num).length) bh)),ee])
  refine qaj [6] [] [(1,.v (.slice aQ (((([]:Bs) ++ [by8 0,by8 0,by8 0,by8 0] ++ be 2 59 ++ be 2 (IntKind.i16.wrap v) ++ be 4 num) ++ (be 2 txt.size ++ sb txt)).length) aR)),ag] aG iD fun qq iE=>?_
  refine qae (qaa ?_)
  refine wp_seq (qad [0,1] kz ?_)
  refine qaj [0] [1] [(1,.v (.slice aQ (((([]:Bs) ++ [by8 0,by8 0,by8 0,by8 0] ++ be 2 59 ++ be 2 (IntKind.i16.wrap v) ++ be 4 num) ++ (be 2 txt.size ++ sb txt)).length) aR)),ag,cS] aG iE fun qr iF=>?_
  refine qam (qcq iF (t := 46) (v := (.pointer (some ⟨aC, 0, none⟩))) (v' := (.pointer (some ⟨aC, 0, none⟩))) (name := "IsFlexible") (f := 98) (vs := []) (d := 42) (n' := 8) kz (fun _ => by kernel_rfl) Tryz.call98 Tryz.func98 rfl Tryz.ntmps98 kz fun qs iG => ?_)
  have iH:=iG.recast 0 (.v (.pointer (some ⟨aC,0,none⟩))) (.p 1 0) rfl rfl (Nat.le_of_ble_eq_true (n:=2) rfl)
  refine qat [bL] aG iH fun qt iI=>?_
  refine qat [(2,.v (.bool (decide ((IntKind.i16.wrap v) ≥ 0))))] aG iI fun qu iJ=>?_
  refine wp_ret (qaD iJ aG.cells (v:=.bool (decide ((IntKind.i16.wrap v) ≥ 0))) kz ?_)
  refine ⟨_,rfl,fun qv iK=>?_⟩
  have dO:=(EnvOk.places (tb':=[aa,ab,ac,ae,ah,aj,ai]) iK (show Pl [aa,ab,ac,ae,ah,aj,ai] [aa,ab,ac,ae,ah,aj,ai] from ⟨rfl,rfl,⟨rfl,rfl,⟨rfl,rfl,⟨rfl,rfl,⟨rfl,rfl,⟨rfl,rfl,⟨rfl,rfl,trivial⟩⟩⟩⟩⟩⟩⟩)).pk (env':=[(42,.v (.bool (decide ((IntKind.i16.wrap v) ≥ 0)))),(1,.v (.slice aQ (((([]:Bs) ++ [by8 0,by8 0,by8 0,by8 0] ++ be 2 59 ++ be 2 (IntKind.i16.wrap v) ++ be 4 num) ++ (be 2 txt.size ++ sb txt)).length) aR)),ag,cS])
  refine qae (qaa ?_)
  refine qaA dO (b:=decide ((IntKind.i16.wrap v) ≥ 0)) kz (fun bR=>?_) (fun bR=>?_)
  ·
   have n4:=of_decide_eq_true bR
   refine qat [(1,.v (.slice aQ (((([]:Bs) ++ [by8 0,by8 0,by8 0,by8 0] ++ be 2 59 ++ be 2 (IntKind.i16.wrap v) ++ be 4 num) ++ (be 2 txt.size ++ sb txt)).length) aR)),ag,aX] aG dO fun qw iL=>?_
   refine qad [0,1,2,3,4] kz ?_
   refine qaj [0,1] [2,3,4] [ag,aX,(43,.v (.slice aQ (((([]:Bs) ++ [by8 0,by8 0,by8 0,by8 0] ++ be 2 59 ++ be 2 (IntKind.i16.wrap v) ++ be 4 num) ++ (be 2 txt.size ++ sb txt)).length) aR)),ce] aG iL fun qx iM=>?_
   refine qby aG iM (k:=1) (e:=5) (size:=1) (len:=1) (cs:=[aY]) (d1:=45) (d:=46) kz (t:=24) (bytes:=1) kz (fun _=>by kernel_rfl) rfl kz (by first | omega | (simp only [List.length_append,List.length_cons,List.length_nil,be_length,qb4]; omega) | (simp; omega)) fun bS bT qy qz ej iN ⟨_,iO⟩=>?_
   have iP:(⟨bS,bT,5,1,((([]:Bs) ++ [by8 0,by8 0,by8 0,by8 0] ++ be 2 59 ++ be 2 (IntKind.i16.wrap v) ++ be 4 num) ++ (be 2 txt.size ++ sb txt)).length + 1,bc ((([]:Bs) ++ [by8 0,by8 0,by8 0,by8 0] ++ be 2 59 ++ be 2 (IntKind.i16.wrap v) ++ be 4 num) ++ (be 2 txt.size ++ sb txt)) ++ [.int .u8 0]⟩:Rw) = brow bS bT 5 ((([]:Bs) ++ [by8 0,by8 0,by8 0,by8 0] ++ be 2 59 ++ be 2 (IntKind.i16.wrap v) ++ be 4 num) ++ (be 2 txt.size ++ sb txt) ++ [by8 0]):=qa6 (by simp only [bc,List.map,qbK]; try rfl) rfl
   obtain ⟨cg,ek⟩:=iN.rowEq 1 (z15 ay ak bS bT v num txt.size txt) iP
   have iQ:=EnvOk.pick iO (ks:=[2,11,43,44,46]) (env':=[ag,aX,(43,.v (.slice aQ (((([]:Bs) ++ [by8 0,by8 0,by8 0,by8 0] ++ be 2 59 ++ be 2 (IntKind.i16.wrap v) ++ be 4 num) ++ (be 2 txt.size ++ sb txt)).length) aR)),ce,(46,.v (.slice bS (((([]:Bs) ++ [by8 0,by8 0,by8 0,by8 0] ++ be 2 59 ++ be 2 (IntKind.i16.wrap v) ++ be 4 num) ++ (be 2 txt.size ++ sb txt)).length + 1) bT))]) kz
   have iR:=iQ.cast (env':=[ag,aX,(43,.v (.slice aQ (((([]:Bs) ++ [by8 0,by8 0,by8 0,by8 0] ++ be 2 59 ++ be 2 (IntKind.i16.wrap v) ++ be 4 num) ++ (be 2 txt.size ++ sb txt)).length) aR)),ce,(46,.v (.slice bS (((([]:Bs) ++ [by8 0,by8 0,by8 0,by8 0] ++ be 2 59 ++ be 2 (IntKind.i16.wrap v) ++ be 4 num) ++ (be 2 txt.size ++ sb txt) ++ [by8 0]).length) bT))]) (by simp only [List.length_append,List.length_cons,List.length_nil,Nat.zero_add])
   refine qaj [4] [] [(1,.v (.slice bS (((([]:Bs) ++ [by8 0,by8 0,by8 0,by8 0] ++ be 2 59 ++ be 2 (IntKind.i16.wrap v) ++ be 4 num) ++ (be 2 txt.size ++ sb txt) ++ [by8 0]).length) bT)),ag,aX] cg iR fun qA iS=>?_
   refine qae (qaa ?_)
   refine qat [(1,.v (.slice bS (((([]:Bs) ++ [by8 0,by8 0,by8 0,by8 0] ++ be 2 59 ++ be 2 (IntKind.i16.wrap v) ++ be 4 num) ++ (be 2 txt.size ++ sb txt) ++ [by8 0]).length) bT)),ag,(48,.v (.bool false))] cg iS fun qB em=>?_
   refine qau em (b:=false) kz rfl ?_
   refine wp_skip (qaa (qad [0,1,2,3] kz ?_))
   refine qaj [0,1] [2,3] [cU,(50,.v (.slice bS (((([]:Bs) ++ [by8 0,by8 0,by8 0,by8 0] ++ be 2 59 ++ be 2 (IntKind.i16.wrap v) ++ be 4 num) ++ (be 2 txt.size ++ sb txt) ++ [by8 0]).length) bT))] cg em fun qC iT=>?_
   have iU:=(qa4 _ (((((((((((((((bu.trans bw).trans cW).trans cY).trans cZ).trans c5).trans da).trans db).trans dc).trans de).trans dg).trans di).trans dj).trans dl).trans ej).trans ek).step immM (((((((((((((((bu.trans bw).trans cW).trans cY).trans cZ).trans c5).trans da).trans db).trans dc).trans de).trans dg).trans di).trans dj).trans dl).trans ej).trans ek).to' cQ)
   have fk:=cg.strImm (G:=F) 1 rfl
   have hk_:=qa4 _ (Step.refl _ Nil) nilM (fun b o h_ _=>qg6 h_) iU
   refine qam (qdc iT (t := 46) (v := (.pointer (some ⟨aC, 0, none⟩))) (v' := (.pointer (some ⟨aC, 0, none⟩))) (name := "AppendTo") (f := 96) (vs := [.slice bS (((([] : Bs) ++ [by8 0, by8 0, by8 0, by8 0] ++ be 2 59 ++ be 2 (IntKind.i16.wrap v) ++ be 4 num) ++ (be 2 txt.size ++ sb txt) ++ [by8 0]).length) bT]) (d := 51) kz (fun _ => by kernel_rfl) Tryz.call96 (qb1 (IntKind.i16.wrap v) af aC 0 bS bT ((([] : Bs) ++ [by8 0, by8 0, by8 0, by8 0] ++ be 2 59 ++ be 2 (IntKind.i16.wrap v) ++ be 4 num) ++ (be 2 txt.size ++ sb txt) ++ [by8 0]) _ _ fk hk_ (qg4 1 rfl) (cg.own 1 _ rfl) (by first | omega | (simp only [List.length_append, List.length_cons, List.length_nil, be_length, qb4]; omega) | (simp; omega))) ?_)
   rintro e_ qD ⟨am,ao,rfl,iV,eo,eu⟩
   refine ⟨_,rfl,fun qE iW=>?_⟩
   have ev:WOk _ _ _ _ (z7 ay ak am ao v num txt.size txt af):=cg.grow (k:=1) rfl eo iV eu
   have n5:=Fr.grow [aa,ab,ac,ae,ah,aj,ai] (k:=1) (rs:=(z15 ay ak bS bT v num txt.size txt)) (r':=(brow am ao 5 (((([]:Bs) ++ [by8 0,by8 0,by8 0,by8 0] ++ be 2 59 ++ be 2 (IntKind.i16.wrap v) ++ be 4 num) ++ (be 2 txt.size ++ sb txt) ++ [by8 0]) ++ qab (IntKind.i16.wrap v) af))) rfl eo eu
   refine qaj [3] [] [(1,.v (.slice am ((((([]:Bs) ++ [by8 0,by8 0,by8 0,by8 0] ++ be 2 59 ++ be 2 (IntKind.i16.wrap v) ++ be 4 num) ++ (be 2 txt.size ++ sb txt) ++ [by8 0]) ++ qab (IntKind.i16.wrap v) af).length) ao))] ev iW fun qF iX=>?_
   refine qae (qaa ?_)
   refine qbu 7 kz ev fun qG n8 dp bU=>?_
   refine qaY [0,2] [(1,.v (.slice am ((((([]:Bs) ++ [by8 0,by8 0,by8 0,by8 0] ++ be 2 59 ++ be 2 (IntKind.i16.wrap v) ++ be 4 num) ++ (be 2 txt.size ++ sb txt) ++ [by8 0]) ++ qab (IntKind.i16.wrap v) af).length) ao)),(52,.v (.slice am ((((([]:Bs) ++ [by8 0,by8 0,by8 0,by8 0] ++ be 2 59 ++ be 2 (IntKind.i16.wrap v) ++ be 4 num) ++ (be 2 txt.size ++ sb txt) ++ [by8 0]) ++ qab (IntKind.i16.wrap v) af).length) ao)),(54,.v (.slice am ((((([]:Bs) ++ [by8 0,by8 0,by8 0,by8 0] ++ be 2 59 ++ be 2 (IntKind.i16.wrap v) ++ be 4 num) ++ (be 2 txt.size ++ sb txt) ++ [by8 0]) ++ qab (IntKind.i16.wrap v) af).length) ao))] 5 (qac qai) (fun _ h=>h.cells) bU iX fun qH ew=>?_
   refine qfg (i:=1) (j:=3) kz ?_ ?_
   ·
    refine (qbL ew (t:=24) (A:=am) (m:=(((([]:Bs) ++ [by8 0,by8 0,by8 0,by8 0] ++ be 2 59 ++ be 2 (IntKind.i16.wrap v) ++ be 4 num) ++ (be 2 txt.size ++ sb txt) ++ [by8 0]) ++ qab (IntKind.i16.wrap v) af).length) (cp:=ao) (q:=0) (d:=53) (j:=0) kz (e:=5) (size:=1) (bytes:=1) kz (rfl) (by omega) fun qI iY=>?_)
    refine ⟨fun _=>bU,?_⟩
    refine qaJ (i:=3) kz (qbE iY (t:=24) (A:=am) (m:=((((([]:Bs) ++ [by8 0,by8 0,by8 0,by8 0] ++ be 2 59 ++ be 2 (IntKind.i16.wrap v) ++ be 4 num) ++ (be 2 txt.size ++ sb txt) ++ [by8 0]) ++ qab (IntKind.i16.wrap v) af).length)) (cp:=ao) (q:=4) (d:=55) (j:=4) kz (e:=5) (bytes:=1) kz (rfl) (by first | omega | (simp only [List.length_append,List.length_cons,List.length_nil]; omega)) fun qJ iZ=>?_)
    refine ⟨fun _=>bU,?_⟩
    refine qaY [4,5] [(1,.v (.slice am ((((([]:Bs) ++ [by8 0,by8 0,by8 0,by8 0] ++ be 2 59 ++ be 2 (IntKind.i16.wrap v) ++ be 4 num) ++ (be 2 txt.size ++ sb txt) ++ [by8 0]) ++ qab (IntKind.i16.wrap v) af).length) ao)),(53,.v (.slice am 0 ao)),(57,.v (.int .i32 (IntKind.i32.wrap ((((((([]:Bs) ++ [by8 0,by8 0,by8 0,by8 0] ++ be 2 59 ++ be 2 (IntKind.i16.wrap v) ++ be 4 num) ++ (be 2 txt.size ++ sb txt) ++ [by8 0]) ++ qab (IntKind.i16.wrap v) af).length) - 4:Nat):Int))))] 1 (qac qai) (fun _ h=>h.cells) bU iZ fun qK i6=>?_
    refine qaJ (i:=6) kz (qal i6 (f:=68) (vs:=[.slice am 0 ao,.int .i32 (IntKind.i32.wrap ((((((([]:Bs) ++ [by8 0,by8 0,by8 0,by8 0] ++ be 2 59 ++ be 2 (IntKind.i16.wrap v) ++ be 4 num) ++ (be 2 txt.size ++ sb txt) ++ [by8 0]) ++ qab (IntKind.i16.wrap v) af).length) - 4:Nat):Int))]) (d:=58) kz Tryz.call68 (qbP (IntKind.i32.wrap ((((((([]:Bs) ++ [by8 0,by8 0,by8 0,by8 0] ++ be 2 59 ++ be 2 (IntKind.i16.wrap v) ++ be 4 num) ++ (be 2 txt.size ++ sb txt) ++ [by8 0]) ++ qab (IntKind.i16.wrap v) af).length) - 4:Nat):Int)) am ao (((([]:Bs) ++ [by8 0,by8 0,by8 0,by8 0] ++ be 2 59 ++ be 2 (IntKind.i16.wrap v) ++ be 4 num) ++ (be 2 txt.size ++ sb txt) ++ [by8 0]) ++ qab (IntKind.i16.wrap v) af) _ (dp.own 1 _ rfl) (by simp only [List.length_append,List.length_cons,List.length_nil]; omega)) ?_)
    rintro e_ qL ⟨rfl,i7,ey⟩
    refine ⟨_,rfl,fun qM ja=>?_⟩
    have bB:WOk _ _ _ _ (z2 ay ak am ao v num txt.size txt af):=dp.grow (k:=1) (r':=⟨am,ao,5,1,(((([]:Bs) ++ [by8 0,by8 0,by8 0,by8 0] ++ be 2 59 ++ be 2 (IntKind.i16.wrap v) ++ be 4 num) ++ (be 2 txt.size ++ sb txt) ++ [by8 0]) ++ qab (IntKind.i16.wrap v) af).length,bc (be 4 (IntKind.i32.wrap ((((((([]:Bs) ++ [by8 0,by8 0,by8 0,by8 0] ++ be 2 59 ++ be 2 (IntKind.i16.wrap v) ++ be 4 num) ++ (be 2 txt.size ++ sb txt) ++ [by8 0]) ++ qab (IntKind.i16.wrap v) af).length) - 4:Nat):Int)) ++ (((([]:Bs) ++ [by8 0,by8 0,by8 0,by8 0] ++ be 2 59 ++ be 2 (IntKind.i16.wrap v) ++ be 4 num) ++ (be 2 txt.size ++ sb txt) ++ [by8 0]) ++ qab (IntKind.i16.wrap v) af).drop 4)⟩) rfl ey i7 (fun g' hg'=>.inl hg')
    have jb:=Fr.grow [aa,ab,ac,ae,ah,aj,ai] (k:=1) (rs:=(z7 ay ak am ao v num txt.size txt af)) (r':=⟨am,ao,5,1,(((([]:Bs) ++ [by8 0,by8 0,by8 0,by8 0] ++ be 2 59 ++ be 2 (IntKind.i16.wrap v) ++ be 4 num) ++ (be 2 txt.size ++ sb txt) ++ [by8 0]) ++ qab (IntKind.i16.wrap v) af).length,bc (be 4 (IntKind.i32.wrap ((((((([]:Bs) ++ [by8 0,by8 0,by8 0,by8 0] ++ be 2 59 ++ be 2 (IntKind.i16.wrap v) ++ be 4 num) ++ (be 2 txt.size ++ sb txt) ++ [by8 0]) ++ qab (IntKind.i16.wrap v) af).length) - 4:Nat):Int)) ++ (((([]:Bs) ++ [by8 0,by8 0,by8 0,by8 0] ++ be 2 59 ++ be 2 (IntKind.i16.wrap v) ++ be 4 num) ++ (be 2 txt.size ++ sb txt) ++ [by8 0]) ++ qab (IntKind.i16.wrap v) af).drop 4)⟩) rfl ey (fun g' hg'=>.inl hg')
    have jc:=TT.ofW jb bB
    refine ⟨fun _=>jc,?_⟩
    refine qaW kz ?_ _
    refine qaa (qat [(8,.v (.slice am ((((([]:Bs) ++ [by8 0,by8 0,by8 0,by8 0] ++ be 2 59 ++ be 2 (IntKind.i16.wrap v) ++ be 4 num) ++ (be 2 txt.size ++ sb txt) ++ [by8 0]) ++ qab (IntKind.i16.wrap v) af).length) ao))] bB ja fun qN jd=>?_)
    refine wp_ret (qaD jd bB.cells (v:=.slice am ((((([]:Bs) ++ [by8 0,by8 0,by8 0,by8 0] ++ be 2 59 ++ be 2 (IntKind.i16.wrap v) ++ be 4 num) ++ (be 2 txt.size ++ sb txt) ++ [by8 0]) ++ qab (IntKind.i16.wrap v) af).length) ao) kz ?_)
    refine ⟨_,rfl,fun qO je=>?_⟩
    have jf:=(EnvOk.places (tb':=[aa,ab,ac,ae,ah,aj,ai]) je (show Pl [aa,ab,ac,ae,ah,aj,ai] [aa,ab,ac,ae,ah,aj,ai] from ⟨rfl,rfl,⟨rfl,rfl,⟨rfl,rfl,⟨rfl,rfl,⟨rfl,rfl,⟨rfl,rfl,⟨rfl,rfl,trivial⟩⟩⟩⟩⟩⟩⟩)).pk (env':=[(19,.v (.slice am ((((([]:Bs) ++ [by8 0,by8 0,by8 0,by8 0] ++ be 2 59 ++ be 2 (IntKind.i16.wrap v) ++ be 4 num) ++ (be 2 txt.size ++ sb txt) ++ [by8 0]) ++ qab (IntKind.i16.wrap v) af).length) ao)),cz,aE,aW])
    refine qaj [4] [] [(6,.v (.slice am ((((([]:Bs) ++ [by8 0,by8 0,by8 0,by8 0] ++ be 2 59 ++ be 2 (IntKind.i16.wrap v) ++ be 4 num) ++ (be 2 txt.size ++ sb txt) ++ [by8 0]) ++ qab (IntKind.i16.wrap v) af).length) ao))] bB jf fun qP jg=>?_
    refine qae (qaa ?_)
    refine wp_ret (qaD jg bB.cells (v:=.slice am ((((([]:Bs) ++ [by8 0,by8 0,by8 0,by8 0] ++ be 2 59 ++ be 2 (IntKind.i16.wrap v) ++ be 4 num) ++ (be 2 txt.size ++ sb txt) ++ [by8 0]) ++ qab (IntKind.i16.wrap v) af).length) ao) kz ?_)
    refine ⟨_,rfl,fun qQ jh=>?_⟩
    have ji:=(EnvOk.places (tb':=[aa,ab,ac,ae,ah,aj,ai]) jh (show Pl [aa,ab] [aa,ab,ac,ae,ah,aj,ai] from ⟨rfl,rfl,⟨rfl,rfl,trivial⟩⟩)).pk (env':=[(25,.v (.slice am ((((([]:Bs) ++ [by8 0,by8 0,by8 0,by8 0] ++ be 2 59 ++ be 2 (IntKind.i16.wrap v) ++ be 4 num) ++ (be 2 txt.size ++ sb txt) ++ [by8 0]) ++ qab (IntKind.i16.wrap v) af).length) ao)),aZ,ba,bd])
    refine qaj [5,6] [] [(8,.v (.slice am ((((([]:Bs) ++ [by8 0,by8 0,by8 0,by8 0] ++ be 2 59 ++ be 2 (IntKind.i16.wrap v) ++ be 4 num) ++ (be 2 txt.size ++ sb txt) ++ [by8 0]) ++ qab (IntKind.i16.wrap v) af).length) ao)),bx] bB ji fun qR jj=>?_
    refine qae (qaa ?_)
    refine wp_ret (qaD jj bB.cells (v:=.tuple #[.slice am ((((([]:Bs) ++ [by8 0,by8 0,by8 0,by8 0] ++ be 2 59 ++ be 2 (IntKind.i16.wrap v) ++ be 4 num) ++ (be 2 txt.size ++ sb txt) ++ [by8 0]) ++ qab (IntKind.i16.wrap v) af).length) ao,bz]) kz ?_)
    have jk:be 4 (IntKind.i32.wrap ((((((([]:Bs) ++ [by8 0,by8 0,by8 0,by8 0] ++ be 2 59 ++ be 2 (IntKind.i16.wrap v) ++ be 4 num) ++ (be 2 txt.size ++ sb txt) ++ [by8 0]) ++ qab (IntKind.i16.wrap v) af).length) - 4:Nat):Int)) ++ (((([]:Bs) ++ [by8 0,by8 0,by8 0,by8 0] ++ be 2 59 ++ be 2 (IntKind.i16.wrap v) ++ be 4 num) ++ (be 2 txt.size ++ sb txt) ++ [by8 0]) ++ qab (IntKind.i16.wrap v) af).drop 4 = (qbf 59 (IntKind.i16.wrap v) num has (sb txt) (decide ((IntKind.i16.wrap v) ≥ 0)) (qab (IntKind.i16.wrap v) af)):=qcS (R:=outB 59 (IntKind.i16.wrap v) num has (sb txt) (decide ((IntKind.i16.wrap v) ≥ 0)) (qab (IntKind.i16.wrap v) af)) (by simp [outB,qeC,qb4,bf,bR])
    exact qcT bB (k:=1) rfl (jk.trans (by rw [bM])) (by simp only [List.length_append,List.length_cons,List.length_nil]; omega)
   refine (qbE ew (t:=24) (A:=am) (m:=((((([]:Bs) ++ [by8 0,by8 0,by8 0,by8 0] ++ be 2 59 ++ be 2 (IntKind.i16.wrap v) ++ be 4 num) ++ (be 2 txt.size ++ sb txt) ++ [by8 0]) ++ qab (IntKind.i16.wrap v) af).length)) (cp:=ao) (q:=4) (d:=55) (j:=4) kz (e:=5) (bytes:=1) kz (rfl) (by first | omega | (simp only [List.length_append,List.length_cons,List.length_nil]; omega)) fun qS jl=>?_)
   refine ⟨fun _=>bU,?_⟩
   refine qaY [4,5] [(1,.v (.slice am ((((([]:Bs) ++ [by8 0,by8 0,by8 0,by8 0] ++ be 2 59 ++ be 2 (IntKind.i16.wrap v) ++ be 4 num) ++ (be 2 txt.size ++ sb txt) ++ [by8 0]) ++ qab (IntKind.i16.wrap v) af).length) ao)),(52,.v (.slice am ((((([]:Bs) ++ [by8 0,by8 0,by8 0,by8 0] ++ be 2 59 ++ be 2 (IntKind.i16.wrap v) ++ be 4 num) ++ (be 2 txt.size ++ sb txt) ++ [by8 0]) ++ qab (IntKind.i16.wrap v) af).length) ao)),(57,.v (.int .i32 (IntKind.i32.wrap ((((((([]:Bs) ++ [by8 0,by8 0,by8 0,by8 0] ++ be 2 59 ++ be 2 (IntKind.i16.wrap v) ++ be 4 num) ++ (be 2 txt.size ++ sb txt) ++ [by8 0]) ++ qab (IntKind.i16.wrap v) af).length) - 4:Nat):Int))))] 2 (qac qai) (fun _ h=>h.cells) bU jl fun qT jm=>?_
   refine qaJ (i:=1) kz (qbL jm (t:=24) (A:=am) (m:=(((([]:Bs) ++ [by8 0,by8 0,by8 0,by8 0] ++ be 2 59 ++ be 2 (IntKind.i16.wrap v) ++ be 4 num) ++ (be 2 txt.size ++ sb txt) ++ [by8 0]) ++ qab (IntKind.i16.wrap v) af).length) (cp:=ao) (q:=0) (d:=53) (j:=0) kz (e:=5) (size:=1) (bytes:=1) kz (rfl) (by omega) fun qU jn=>?_)
   refine ⟨fun _=>bU,?_⟩
   refine qaJ (i:=6) kz (qal jn (f:=68) (vs:=[.slice am 0 ao,.int .i32 (IntKind.i32.wrap ((((((([]:Bs) ++ [by8 0,by8 0,by8 0,by8 0] ++ be 2 59 ++ be 2 (IntKind.i16.wrap v) ++ be 4 num) ++ (be 2 txt.size ++ sb txt) ++ [by8 0]) ++ qab (IntKind.i16.wrap v) af).length) - 4:Nat):Int))]) (d:=58) kz Tryz.call68 (qbP (IntKind.i32.wrap ((((((([]:Bs) ++ [by8 0,by8 0,by8 0,by8 0] ++ be 2 59 ++ be 2 (IntKind.i16.wrap v) ++ be 4 num) ++ (be 2 txt.size ++ sb txt) ++ [by8 0]) ++ qab (IntKind.i16.wrap v) af).length) - 4:Nat):Int)) am ao (((([]:Bs) ++ [by8 0,by8 0,by8 0,by8 0] ++ be 2 59 ++ be 2 (IntKind.i16.wrap v) ++ be 4 num) ++ (be 2 txt.size ++ sb txt) ++ [by8 0]) ++ qab (IntKind.i16.wrap v) af) _ (dp.own 1 _ rfl) (by simp only [List.length_append,List.length_cons,List.length_nil]; omega)) ?_)
   rintro e_ qV ⟨rfl,jo,ez⟩
   refine ⟨_,rfl,fun qW jp=>?_⟩
   have bC:WOk _ _ _ _ (z2 ay ak am ao v num txt.size txt af):=dp.grow (k:=1) (r':=⟨am,ao,5,1,(((([]:Bs) ++ [by8 0,by8 0,by8 0,by8 0] ++ be 2 59 ++ be 2 (IntKind.i16.wrap v) ++ be 4 num) ++ (be 2 txt.size ++ sb txt) ++ [by8 0]) ++ qab (IntKind.i16.wrap v) af).length,bc (be 4 (IntKind.i32.wrap ((((((([]:Bs) ++ [by8 0,by8 0,by8 0,by8 0] ++ be 2 59 ++ be 2 (IntKind.i16.wrap v) ++ be 4 num) ++ (be 2 txt.size ++ sb txt) ++ [by8 0]) ++ qab (IntKind.i16.wrap v) af).length) - 4:Nat):Int)) ++ (((([]:Bs) ++ [by8 0,by8 0,by8 0,by8 0] ++ be 2 59 ++ be 2 (IntKind.i16.wrap v) ++ be 4 num) ++ (be 2 txt.size ++ sb txt) ++ [by8 0]) ++ qab (IntKind.i16.wrap v) af).drop 4)⟩) rfl ez jo (fun g' hg'=>.inl hg')
   have jq:=Fr.grow [aa,ab,ac,ae,ah,aj,ai] (k:=1) (rs:=(z7 ay ak am ao v num txt.size txt af)) (r':=⟨am,ao,5,1,(((([]:Bs) ++ [by8 0,by8 0,by8 0,by8 0] ++ be 2 59 ++ be 2 (IntKind.i16.wrap v) ++ be 4 num) ++ (be 2 txt.size ++ sb txt) ++ [by8 0]) ++ qab (IntKind.i16.wrap v) af).length,bc (be 4 (IntKind.i32.wrap ((((((([]:Bs) ++ [by8 0,by8 0,by8 0,by8 0] ++ be 2 59 ++ be 2 (IntKind.i16.wrap v) ++ be 4 num) ++ (be 2 txt.size ++ sb txt) ++ [by8 0]) ++ qab (IntKind.i16.wrap v) af).length) - 4:Nat):Int)) ++ (((([]:Bs) ++ [by8 0,by8 0,by8 0,by8 0] ++ be 2 59 ++ be 2 (IntKind.i16.wrap v) ++ be 4 num) ++ (be 2 txt.size ++ sb txt) ++ [by8 0]) ++ qab (IntKind.i16.wrap v) af).drop 4)⟩) rfl ez (fun g' hg'=>.inl hg')
   have jr:=TT.ofW jq bC
   refine ⟨fun _=>jr,?_⟩
   refine qaW kz ?_ _
   refine qaa (qat [(8,.v (.slice am ((((([]:Bs) ++ [by8 0,by8 0,by8 0,by8 0] ++ be 2 59 ++ be 2 (IntKind.i16.wrap v) ++ be 4 num) ++ (be 2 txt.size ++ sb txt) ++ [by8 0]) ++ qab (IntKind.i16.wrap v) af).length) ao))] bC jp fun qX js=>?_)
   refine wp_ret (qaD js bC.cells (v:=.slice am ((((([]:Bs) ++ [by8 0,by8 0,by8 0,by8 0] ++ be 2 59 ++ be 2 (IntKind.i16.wrap v) ++ be 4 num) ++ (be 2 txt.size ++ sb txt) ++ [by8 0]) ++ qab (IntKind.i16.wrap v) af).length) ao) kz ?_)
   refine ⟨_,rfl,fun qY jt=>?_⟩
   have ju:=(EnvOk.places (tb':=[aa,ab,ac,ae,ah,aj,ai]) jt (show Pl [aa,ab,ac,ae,ah,aj,ai] [aa,ab,ac,ae,ah,aj,ai] from ⟨rfl,rfl,⟨rfl,rfl,⟨rfl,rfl,⟨rfl,rfl,⟨rfl,rfl,⟨rfl,rfl,⟨rfl,rfl,trivial⟩⟩⟩⟩⟩⟩⟩)).pk (env':=[(19,.v (.slice am ((((([]:Bs) ++ [by8 0,by8 0,by8 0,by8 0] ++ be 2 59 ++ be 2 (IntKind.i16.wrap v) ++ be 4 num) ++ (be 2 txt.size ++ sb txt) ++ [by8 0]) ++ qab (IntKind.i16.wrap v) af).length) ao)),cz,aE,aW])
   refine qaj [4] [] [(6,.v (.slice am ((((([]:Bs) ++ [by8 0,by8 0,by8 0,by8 0] ++ be 2 59 ++ be 2 (IntKind.i16.wrap v) ++ be 4 num) ++ (be 2 txt.size ++ sb txt) ++ [by8 0]) ++ qab (IntKind.i16.wrap v) af).length) ao))] bC ju fun qZ jv=>?_
   refine qae (qaa ?_)
   refine wp_ret (qaD jv bC.cells (v:=.slice am ((((([]:Bs) ++ [by8 0,by8 0,by8 0,by8 0] ++ be 2 59 ++ be 2 (IntKind.i16.wrap v) ++ be 4 num) ++ (be 2 txt.size ++ sb txt) ++ [by8 0]) ++ qab (IntKind.i16.wrap v) af).length) ao) kz ?_)
   refine ⟨_,rfl,fun q0 jw=>?_⟩
   have jx:=(EnvOk.places (tb':=[aa,ab,ac,ae,ah,aj,ai]) jw (show Pl [aa,ab] [aa,ab,ac,ae,ah,aj,ai] from ⟨rfl,rfl,⟨rfl,rfl,trivial⟩⟩)).pk (env':=[(25,.v (.slice am ((((([]:Bs) ++ [by8 0,by8 0,by8 0,by8 0] ++ be 2 59 ++ be 2 (IntKind.i16.wrap v) ++ be 4 num) ++ (be 2 txt.size ++ sb txt) ++ [by8 0]) ++ qab (IntKind.i16.wrap v) af).length) ao)),aZ,ba,bd])
   refine qaj [5,6] [] [(8,.v (.slice am ((((([]:Bs) ++ [by8 0,by8 0,by8 0,by8 0] ++ be 2 59 ++ be 2 (IntKind.i16.wrap v) ++ be 4 num) ++ (be 2 txt.size ++ sb txt) ++ [by8 0]) ++ qab (IntKind.i16.wrap v) af).length) ao)),bx] bC jx fun q4 jy=>?_
   refine qae (qaa ?_)
   refine wp_ret (qaD jy bC.cells (v:=.tuple #[.slice am ((((([]:Bs) ++ [by8 0,by8 0,by8 0,by8 0] ++ be 2 59 ++ be 2 (IntKind.i16.wrap v) ++ be 4 num) ++ (be 2 txt.size ++ sb txt) ++ [by8 0]) ++ qab (IntKind.i16.wrap v) af).length) ao,bz]) kz ?_)
   have jz:be 4 (IntKind.i32.wrap ((((((([]:Bs) ++ [by8 0,by8 0,by8 0,by8 0] ++ be 2 59 ++ be 2 (IntKind.i16.wrap v) ++ be 4 num) ++ (be 2 txt.size ++ sb txt) ++ [by8 0]) ++ qab (IntKind.i16.wrap v) af).length) - 4:Nat):Int)) ++ (((([]:Bs) ++ [by8 0,by8 0,by8 0,by8 0] ++ be 2 59 ++ be 2 (IntKind.i16.wrap v) ++ be 4 num) ++ (be 2 txt.size ++ sb txt) ++ [by8 0]) ++ qab (IntKind.i16.wrap v) af).drop 4 = (qbf 59 (IntKind.i16.wrap v) num has (sb txt) (decide ((IntKind.i16.wrap v) ≥ 0)) (qab (IntKind.i16.wrap v) af)):=qcS (R:=outB 59 (IntKind.i16.wrap v) num has (sb txt) (decide ((IntKind.i16.wrap v) ≥ 0)) (qab (IntKind.i16.wrap v) af)) (by simp [outB,qeC,qb4,bf,bR])
   exact qcT bC (k:=1) rfl (jz.trans (by rw [bM])) (by simp only [List.length_append,List.length_cons,List.length_nil]; omega)
  have oa:=of_decide_eq_false bR
  refine wp_skip (qaa (qad [0,1,2,3] kz ?_))
  refine qaj [0,1] [2,3] [cU,(50,.v (.slice aQ (((([]:Bs) ++ [by8 0,by8 0,by8 0,by8 0] ++ be 2 59 ++ be 2 (IntKind.i16.wrap v) ++ be 4 num) ++ (be 2 txt.size ++ sb txt)).length) aR))] aG dO fun q5 jA=>?_
  have jB:=(qa4 _ (((((((((((((bu.trans bw).trans cW).trans cY).trans cZ).trans c5).trans da).trans db).trans dc).trans de).trans dg).trans di).trans dj).trans dl).step immM (((((((((((((bu.trans bw).trans cW).trans cY).trans cZ).trans c5).trans da).trans db).trans dc).trans de).trans dg).trans di).trans dj).trans dl).to' cQ)
  have fl:=aG.strImm (G:=F) 1 rfl
  have hk_:=qa4 _ (Step.refl _ Nil) nilM (fun b o h_ _=>qg6 h_) jB
  refine qam (qdc jA (t := 46) (v := (.pointer (some ⟨aC, 0, none⟩))) (v' := (.pointer (some ⟨aC, 0, none⟩))) (name := "AppendTo") (f := 96) (vs := [.slice aQ (((([] : Bs) ++ [by8 0, by8 0, by8 0, by8 0] ++ be 2 59 ++ be 2 (IntKind.i16.wrap v) ++ be 4 num) ++ (be 2 txt.size ++ sb txt)).length) aR]) (d := 51) kz (fun _ => by kernel_rfl) Tryz.call96 (qb1 (IntKind.i16.wrap v) af aC 0 aQ aR ((([] : Bs) ++ [by8 0, by8 0, by8 0, by8 0] ++ be 2 59 ++ be 2 (IntKind.i16.wrap v) ++ be 4 num) ++ (be 2 txt.size ++ sb txt)) _ _ fl hk_ (qg4 1 rfl) (aG.own 1 _ rfl) (by first | omega | (simp only [List.length_append, List.length_cons, List.length_nil, be_length, qb4]; omega) | (simp; omega))) ?_)
  rintro e_ q6 ⟨ap,ar,rfl,jC,eB,eC⟩
  refine ⟨_,rfl,fun q7 jD=>?_⟩
  have eD:WOk _ _ _ _ (z9 ay ak ap ar v num txt.size txt af):=aG.grow (k:=1) rfl eB jC eC
  have od:=Fr.grow [aa,ab,ac,ae,ah,aj,ai] (k:=1) (rs:=(z18 ay ak aQ aR v num txt.size txt)) (r':=(brow ap ar 5 (((([]:Bs) ++ [by8 0,by8 0,by8 0,by8 0] ++ be 2 59 ++ be 2 (IntKind.i16.wrap v) ++ be 4 num) ++ (be 2 txt.size ++ sb txt)) ++ qab (IntKind.i16.wrap v) af))) rfl eB eC
  refine qaj [3] [] [(1,.v (.slice ap ((((([]:Bs) ++ [by8 0,by8 0,by8 0,by8 0] ++ be 2 59 ++ be 2 (IntKind.i16.wrap v) ++ be 4 num) ++ (be 2 txt.size ++ sb txt)) ++ qab (IntKind.i16.wrap v) af).length) ar))] eD jD fun q8 jE=>?_
  refine qae (qaa ?_)
  refine qbu 7 kz eD fun q9 oe dq bV=>?_
  refine qaY [0,2] [(1,.v (.slice ap ((((([]:Bs) ++ [by8 0,by8 0,by8 0,by8 0] ++ be 2 59 ++ be 2 (IntKind.i16.wrap v) ++ be 4 num) ++ (be 2 txt.size ++ sb txt)) ++ qab (IntKind.i16.wrap v) af).length) ar)),(52,.v (.slice ap ((((([]:Bs) ++ [by8 0,by8 0,by8 0,by8 0] ++ be 2 59 ++ be 2 (IntKind.i16.wrap v) ++ be 4 num) ++ (be 2 txt.size ++ sb txt)) ++ qab (IntKind.i16.wrap v) af).length) ar)),(54,.v (.slice ap ((((([]:Bs) ++ [by8 0,by8 0,by8 0,by8 0] ++ be 2 59 ++ be 2 (IntKind.i16.wrap v) ++ be 4 num) ++ (be 2 txt.size ++ sb txt)) ++ qab (IntKind.i16.wrap v) af).length) ar))] 5 (qac qai) (fun _ h=>h.cells) bV jE fun ra eE=>?_
  refine qfg (i:=1) (j:=3) kz ?_ ?_
  ·
   refine (qbL eE (t:=24) (A:=ap) (m:=(((([]:Bs) ++ [by8 0,by8 0,by8 0,by8 0] ++ be 2 59 ++ be 2 (IntKind.i16.wrap v) ++ be 4 num) ++ (be 2 txt.size ++ sb txt)) ++ qab (IntKind.i16.wrap v) af).length) (cp:=ar) (q:=0) (d:=53) (j:=0) kz (e:=5) (size:=1) (bytes:=1) kz (rfl) (by omega) fun rb jF=>?_)
   refine ⟨fun _=>bV,?_⟩
   refine qaJ (i:=3) kz (qbE jF (t:=24) (A:=ap) (m:=((((([]:Bs) ++ [by8 0,by8 0,by8 0,by8 0] ++ be 2 59 ++ be 2 (IntKind.i16.wrap v) ++ be 4 num) ++ (be 2 txt.size ++ sb txt)) ++ qab (IntKind.i16.wrap v) af).length)) (cp:=ar) (q:=4) (d:=55) (j:=4) kz (e:=5) (bytes:=1) kz (rfl) (by first | omega | (simp only [List.length_append,List.length_cons,List.length_nil]; omega)) fun rc jG=>?_)
   refine ⟨fun _=>bV,?_⟩
   refine qaY [4,5] [(1,.v (.slice ap ((((([]:Bs) ++ [by8 0,by8 0,by8 0,by8 0] ++ be 2 59 ++ be 2 (IntKind.i16.wrap v) ++ be 4 num) ++ (be 2 txt.size ++ sb txt)) ++ qab (IntKind.i16.wrap v) af).length) ar)),(53,.v (.slice ap 0 ar)),(57,.v (.int .i32 (IntKind.i32.wrap ((((((([]:Bs) ++ [by8 0,by8 0,by8 0,by8 0] ++ be 2 59 ++ be 2 (IntKind.i16.wrap v) ++ be 4 num) ++ (be 2 txt.size ++ sb txt)) ++ qab (IntKind.i16.wrap v) af).length) - 4:Nat):Int))))] 1 (qac qai) (fun _ h=>h.cells) bV jG fun re jH=>?_
   refine qaJ (i:=6) kz (qal jH (f:=68) (vs:=[.slice ap 0 ar,.int .i32 (IntKind.i32.wrap ((((((([]:Bs) ++ [by8 0,by8 0,by8 0,by8 0] ++ be 2 59 ++ be 2 (IntKind.i16.wrap v) ++ be 4 num) ++ (be 2 txt.size ++ sb txt)) ++ qab (IntKind.i16.wrap v) af).length) - 4:Nat):Int))]) (d:=58) kz Tryz.call68 (qbP (IntKind.i32.wrap ((((((([]:Bs) ++ [by8 0,by8 0,by8 0,by8 0] ++ be 2 59 ++ be 2 (IntKind.i16.wrap v) ++ be 4 num) ++ (be 2 txt.size ++ sb txt)) ++ qab (IntKind.i16.wrap v) af).length) - 4:Nat):Int)) ap ar (((([]:Bs) ++ [by8 0,by8 0,by8 0,by8 0] ++ be 2 59 ++ be 2 (IntKind.i16.wrap v) ++ be 4 num) ++ (be 2 txt.size ++ sb txt)) ++ qab (IntKind.i16.wrap v) af) _ (dq.own 1 _ rfl) (by simp only [List.length_append,List.length_cons,List.length_nil]; omega)) ?_)
   rintro e_ rf ⟨rfl,jI,eF⟩
   refine ⟨_,rfl,fun rg jJ=>?_⟩
   have bD:WOk _ _ _ _ (z3 ay ak ap ar v num txt.size txt af):=dq.grow (k:=1) (r':=⟨ap,ar,5,1,(((([]:Bs) ++ [by8 0,by8 0,by8 0,by8 0] ++ be 2 59 ++ be 2 (IntKind.i16.wrap v) ++ be 4 num) ++ (be 2 txt.size ++ sb txt)) ++ qab (IntKind.i16.wrap v) af).length,bc (be 4 (IntKind.i32.wrap ((((((([]:Bs) ++ [by8 0,by8 0,by8 0,by8 0] ++ be 2 59 ++ be 2 (IntKind.i16.wrap v) ++ be 4 num) ++ (be 2 txt.size ++ sb txt)) ++ qab (IntKind.i16.wrap v) af).length) - 4:Nat):Int)) ++ (((([]:Bs) ++ [by8 0,by8 0,by8 0,by8 0] ++ be 2 59 ++ be 2 (IntKind.i16.wrap v) ++ be 4 num) ++ (be 2 txt.size ++ sb txt)) ++ qab (IntKind.i16.wrap v) af).drop 4)⟩) rfl eF jI (fun g' hg'=>.inl hg')
   have jK:=Fr.grow [aa,ab,ac,ae,ah,aj,ai] (k:=1) (rs:=(z9 ay ak ap ar v num txt.size txt af)) (r':=⟨ap,ar,5,1,(((([]:Bs) ++ [by8 0,by8 0,by8 0,by8 0] ++ be 2 59 ++ be 2 (IntKind.i16.wrap v) ++ be 4 num) ++ (be 2 txt.size ++ sb txt)) ++ qab (IntKind.i16.wrap v) af).length,bc (be 4 (IntKind.i32.wrap ((((((([]:Bs) ++ [by8 0,by8 0,by8 0,by8 0] ++ be 2 59 ++ be 2 (IntKind.i16.wrap v) ++ be 4 num) ++ (be 2 txt.size ++ sb txt)) ++ qab (IntKind.i16.wrap v) af).length) - 4:Nat):Int)) ++ (((([]:Bs) ++ [by8 0,by8 0,by8 0,by8 0] ++ be 2 59 ++ be 2 (IntKind.i16.wrap v) ++ be 4 num) ++ (be 2 txt.size ++ sb txt)) ++ qab (IntKind.i16.wrap v) af).drop 4)⟩) rfl eF (fun g' hg'=>.inl hg')
   have jL:=TT.ofW jK bD
   refine ⟨fun _=>jL,?_⟩
   refine qaW kz ?_ _
   refine qaa (qat [(8,.v (.slice ap ((((([]:Bs) ++ [by8 0,by8 0,by8 0,by8 0] ++ be 2 59 ++ be 2 (IntKind.i16.wrap v) ++ be 4 num) ++ (be 2 txt.size ++ sb txt)) ++ qab (IntKind.i16.wrap v) af).length) ar))] bD jJ fun rh jM=>?_)
   refine wp_ret (qaD jM bD.cells (v:=.slice ap ((((([]:Bs) ++ [by8 0,by8 0,by8 0,by8 0] ++ be 2 59 ++ be 2 (IntKind.i16.wrap v) ++ be 4 num) ++ (be 2 txt.size ++ sb txt)) ++ qab (IntKind.i16.wrap v) af).length) ar) kz ?_)
   refine ⟨_,rfl,fun ri jN=>?_⟩
   have jO:=(EnvOk.places (tb':=[aa,ab,ac,ae,ah,aj,ai]) jN (show Pl [aa,ab,ac,ae,ah,aj,ai] [aa,ab,ac,ae,ah,aj,ai] from ⟨rfl,rfl,⟨rfl,rfl,⟨rfl,rfl,⟨rfl,rfl,⟨rfl,rfl,⟨rfl,rfl,⟨rfl,rfl,trivial⟩⟩⟩⟩⟩⟩⟩)).pk (env':=[(19,.v (.slice ap ((((([]:Bs) ++ [by8 0,by8 0,by8 0,by8 0] ++ be 2 59 ++ be 2 (IntKind.i16.wrap v) ++ be 4 num) ++ (be 2 txt.size ++ sb txt)) ++ qab (IntKind.i16.wrap v) af).length) ar)),cz,aE,aW])
   refine qaj [4] [] [(6,.v (.slice ap ((((([]:Bs) ++ [by8 0,by8 0,by8 0,by8 0] ++ be 2 59 ++ be 2 (IntKind.i16.wrap v) ++ be 4 num) ++ (be 2 txt.size ++ sb txt)) ++ qab (IntKind.i16.wrap v) af).length) ar))] bD jO fun rj jP=>?_
   refine qae (qaa ?_)
   refine wp_ret (qaD jP bD.cells (v:=.slice ap ((((([]:Bs) ++ [by8 0,by8 0,by8 0,by8 0] ++ be 2 59 ++ be 2 (IntKind.i16.wrap v) ++ be 4 num) ++ (be 2 txt.size ++ sb txt)) ++ qab (IntKind.i16.wrap v) af).length) ar) kz ?_)
   refine ⟨_,rfl,fun rl jQ=>?_⟩
   have jR:=(EnvOk.places (tb':=[aa,ab,ac,ae,ah,aj,ai]) jQ (show Pl [aa,ab] [aa,ab,ac,ae,ah,aj,ai] from ⟨rfl,rfl,⟨rfl,rfl,trivial⟩⟩)).pk (env':=[(25,.v (.slice ap ((((([]:Bs) ++ [by8 0,by8 0,by8 0,by8 0] ++ be 2 59 ++ be 2 (IntKind.i16.wrap v) ++ be 4 num) ++ (be 2 txt.size ++ sb txt)) ++ qab (IntKind.i16.wrap v) af).length) ar)),aZ,ba,bd])
   refine qaj [5,6] [] [(8,.v (.slice ap ((((([]:Bs) ++ [by8 0,by8 0,by8 0,by8 0] ++ be 2 59 ++ be 2 (IntKind.i16.wrap v) ++ be 4 num) ++ (be 2 txt.size ++ sb txt)) ++ qab (IntKind.i16.wrap v) af).length) ar)),bx] bD jR fun rm jS=>?_
   refine qae (qaa ?_)
   refine wp_ret (qaD jS bD.cells (v:=.tuple #[.slice ap ((((([]:Bs) ++ [by8 0,by8 0,by8 0,by8 0] ++ be 2 59 ++ be 2 (IntKind.i16.wrap v) ++ be 4 num) ++ (be 2 txt.size ++ sb txt)) ++ qab (IntKind.i16.wrap v) af).length) ar,bz]) kz ?_)
   have jT:be 4 (IntKind.i32.wrap ((((((([]:Bs) ++ [by8 0,by8 0,by8 0,by8 0] ++ be 2 59 ++ be 2 (IntKind.i16.wrap v) ++ be 4 num) ++ (be 2 txt.size ++ sb txt)) ++ qab (IntKind.i16.wrap v) af).length) - 4:Nat):Int)) ++ (((([]:Bs) ++ [by8 0,by8 0,by8 0,by8 0] ++ be 2 59 ++ be 2 (IntKind.i16.wrap v) ++ be 4 num) ++ (be 2 txt.size ++ sb txt)) ++ qab (IntKind.i16.wrap v) af).drop 4 = (qbf 59 (IntKind.i16.wrap v) num has (sb txt) (decide ((IntKind.i16.wrap v) ≥ 0)) (qab (IntKind.i16.wrap v) af)):=qcS (R:=outB 59 (IntKind.i16.wrap v) num has (sb txt) (decide ((IntKind.i16.wrap v) ≥ 0)) (qab (IntKind.i16.wrap v) af)) (by simp [outB,qeC,qb4,bf,bR])
   exact qcT bD (k:=1) rfl (jT.trans (by rw [bM])) (by simp only [List.length_append,List.length_cons,List.length_nil]; omega)
  refine (qbE eE (t:=24) (A:=ap) (m:=((((([]:Bs) ++ [by8 0,by8 0,by8 0,by8 0] ++ be 2 59 ++ be 2 (IntKind.i16.wrap v) ++ be 4 num) ++ (be 2 txt.size ++ sb txt)) ++ qab (IntKind.i16.wrap v) af).length)) (cp:=ar) (q:=4) (d:=55) (j:=4) kz (e:=5) (bytes:=1) kz (rfl) (by first | omega | (simp only [List.length_append,List.length_cons,List.length_nil]; omega)) fun rn jU=>?_)
  refine ⟨fun _=>bV,?_⟩
  refine qaY [4,5] [(1,.v (.slice ap ((((([]:Bs) ++ [by8 0,by8 0,by8 0,by8 0] ++ be 2 59 ++ be 2 (IntKind.i16.wrap v) ++ be 4 num) ++ (be 2 txt.size ++ sb txt)) ++ qab (IntKind.i16.wrap v) af).length) ar)),(52,.v (.slice ap ((((([]:Bs) ++ [by8 0,by8 0,by8 0,by8 0] ++ be 2 59 ++ be 2 (IntKind.i16.wrap v) ++ be 4 num) ++ (be 2 txt.size ++ sb txt)) ++ qab (IntKind.i16.wrap v) af).length) ar)),(57,.v (.int .i32 (IntKind.i32.wrap ((((((([]:Bs) ++ [by8 0,by8 0,by8 0,by8 0] ++ be 2 59 ++ be 2 (IntKind.i16.wrap v) ++ be 4 num) ++ (be 2 txt.size ++ sb txt)) ++ qab (IntKind.i16.wrap v) af).length) - 4:Nat):Int))))] 2 (qac qai) (fun _ h=>h.cells) bV jU fun ro jV=>?_
  refine qaJ (i:=1) kz (qbL jV (t:=24) (A:=ap) (m:=(((([]:Bs) ++ [by8 0,by8 0,by8 0,by8 0] ++ be 2 59 ++ be 2 (IntKind.i16.wrap v) ++ be 4 num) ++ (be 2 txt.size ++ sb txt)) ++ qab (IntKind.i16.wrap v) af).length) (cp:=ar) (q:=0) (d:=53) (j:=0) kz (e:=5) (size:=1) (bytes:=1) kz (rfl) (by omega) fun rp jW=>?_)
  refine ⟨fun _=>bV,?_⟩
  refine qaJ (i:=6) kz (qal jW (f:=68) (vs:=[.slice ap 0 ar,.int .i32 (IntKind.i32.wrap ((((((([]:Bs) ++ [by8 0,by8 0,by8 0,by8 0] ++ be 2 59 ++ be 2 (IntKind.i16.wrap v) ++ be 4 num) ++ (be 2 txt.size ++ sb txt)) ++ qab (IntKind.i16.wrap v) af).length) - 4:Nat):Int))]) (d:=58) kz Tryz.call68 (qbP (IntKind.i32.wrap ((((((([]:Bs) ++ [by8 0,by8 0,by8 0,by8 0] ++ be 2 59 ++ be 2 (IntKind.i16.wrap v) ++ be 4 num) ++ (be 2 txt.size ++ sb txt)) ++ qab (IntKind.i16.wrap v) af).length) - 4:Nat):Int)) ap ar (((([]:Bs) ++ [by8 0,by8 0,by8 0,by8 0] ++ be 2 59 ++ be 2 (IntKind.i16.wrap v) ++ be 4 num) ++ (be 2 txt.size ++ sb txt)) ++ qab (IntKind.i16.wrap v) af) _ (dq.own 1 _ rfl) (by simp only [List.length_append,List.length_cons,List.length_nil]; omega)) ?_)
  rintro e_ rq ⟨rfl,jX,eG⟩
  refine ⟨_,rfl,fun rt jY=>?_⟩
  have bE:WOk _ _ _ _ (z3 ay ak ap ar v num txt.size txt af):=dq.grow (k:=1) (r':=⟨ap,ar,5,1,(((([]:Bs) ++ [by8 0,by8 0,by8 0,by8 0] ++ be 2 59 ++ be 2 (IntKind.i16.wrap v) ++ be 4 num) ++ (be 2 txt.size ++ sb txt)) ++ qab (IntKind.i16.wrap v) af).length,bc (be 4 (IntKind.i32.wrap ((((((([]:Bs) ++ [by8 0,by8 0,by8 0,by8 0] ++ be 2 59 ++ be 2 (IntKind.i16.wrap v) ++ be 4 num) ++ (be 2 txt.size ++ sb txt)) ++ qab (IntKind.i16.wrap v) af).length) - 4:Nat):Int)) ++ (((([]:Bs) ++ [by8 0,by8 0,by8 0,by8 0] ++ be 2 59 ++ be 2 (IntKind.i16.wrap v) ++ be 4 num) ++ (be 2 txt.size ++ sb txt)) ++ qab (IntKind.i16.wrap v) af).drop 4)⟩) rfl eG jX (fun g' hg'=>.inl hg')
  have jZ:=Fr.grow [aa,ab,ac,ae,ah,aj,ai] (k:=1) (rs:=(z9 ay ak ap ar v num txt.size txt af)) (r':=⟨ap,ar,5,1,(((([]:Bs) ++ [by8 0,by8 0,by8 0,by8 0] ++ be 2 59 ++ be 2 (IntKind.i16.wrap v) ++ be 4 num) ++ (be 2 txt.size ++ sb txt)) ++ qab (IntKind.i16.wrap v) af).length,bc (be 4 (IntKind.i32.wrap ((((((([]:Bs) ++ [by8 0,by8 0,by8 0,by8 0] ++ be 2 59 ++ be 2 (IntKind.i16.wrap v) ++ be 4 num) ++ (be 2 txt.size ++ sb txt)) ++ qab (IntKind.i16.wrap v) af).length) - 4:Nat):Int)) ++ (((([]:Bs) ++ [by8 0,by8 0,by8 0,by8 0] ++ be 2 59 ++ be 2 (IntKind.i16.wrap v) ++ be 4 num) ++ (be 2 txt.size ++ sb txt)) ++ qab (IntKind.i16.wrap v) af).drop 4)⟩) rfl eG (fun g' hg'=>.inl hg')
  have j0:=TT.ofW jZ bE
  refine ⟨fun _=>j0,?_⟩
  refine qaW kz ?_ _
  refine qaa (qat [(8,.v (.slice ap ((((([]:Bs) ++ [by8 0,by8 0,by8 0,by8 0] ++ be 2 59 ++ be 2 (IntKind.i16.wrap v) ++ be 4 num) ++ (be 2 txt.size ++ sb txt)) ++ qab (IntKind.i16.wrap v) af).length) ar))] bE jY fun ru j1=>?_)
  refine wp_ret (qaD j1 bE.cells (v:=.slice ap ((((([]:Bs) ++ [by8 0,by8 0,by8 0,by8 0] ++ be 2 59 ++ be 2 (IntKind.i16.wrap v) ++ be 4 num) ++ (be 2 txt.size ++ sb txt)) ++ qab (IntKind.i16.wrap v) af).length) ar) kz ?_)
  refine ⟨_,rfl,fun rv j2=>?_⟩
  have j3:=(EnvOk.places (tb':=[aa,ab,ac,ae,ah,aj,ai]) j2 (show Pl [aa,ab,ac,ae,ah,aj,ai] [aa,ab,ac,ae,ah,aj,ai] from ⟨rfl,rfl,⟨rfl,rfl,⟨rfl,rfl,⟨rfl,rfl,⟨rfl,rfl,⟨rfl,rfl,⟨rfl,rfl,trivial⟩⟩⟩⟩⟩⟩⟩)).pk (env':=[(19,.v (.slice ap ((((([]:Bs) ++ [by8 0,by8 0,by8 0,by8 0] ++ be 2 59 ++ be 2 (IntKind.i16.wrap v) ++ be 4 num) ++ (be 2 txt.size ++ sb txt)) ++ qab (IntKind.i16.wrap v) af).length) ar)),cz,aE,aW])
  refine qaj [4] [] [(6,.v (.slice ap ((((([]:Bs) ++ [by8 0,by8 0,by8 0,by8 0] ++ be 2 59 ++ be 2 (IntKind.i16.wrap v) ++ be 4 num) ++ (be 2 txt.size ++ sb txt)) ++ qab (IntKind.i16.wrap v) af).length) ar))] bE j3 fun rx j4=>?_
  refine qae (qaa ?_)
  refine wp_ret (qaD j4 bE.cells (v:=.slice ap ((((([]:Bs) ++ [by8 0,by8 0,by8 0,by8 0] ++ be 2 59 ++ be 2 (IntKind.i16.wrap v) ++ be 4 num) ++ (be 2 txt.size ++ sb txt)) ++ qab (IntKind.i16.wrap v) af).length) ar) kz ?_)
  refine ⟨_,rfl,fun ry j5=>?_⟩
  have j6:=(EnvOk.places (tb':=[aa,ab,ac,ae,ah,aj,ai]) j5 (show Pl [aa,ab] [aa,ab,ac,ae,ah,aj,ai] from ⟨rfl,rfl,⟨rfl,rfl,trivial⟩⟩)).pk (env':=[(25,.v (.slice ap ((((([]:Bs) ++ [by8 0,by8 0,by8 0,by8 0] ++ be 2 59 ++ be 2 (IntKind.i16.wrap v) ++ be 4 num) ++ (be 2 txt.size ++ sb txt)) ++ qab (IntKind.i16.wrap v) af).length) ar)),aZ,ba,bd])
  refine qaj [5,6] [] [(8,.v (.slice ap ((((([]:Bs) ++ [by8 0,by8 0,by8 0,by8 0] ++ be 2 59 ++ be 2 (IntKind.i16.wrap v) ++ be 4 num) ++ (be 2 txt.size ++ sb txt)) ++ qab (IntKind.i16.wrap v) af).length) ar)),bx] bE j6 fun rz j7=>?_
  refine qae (qaa ?_)
  refine wp_ret (qaD j7 bE.cells (v:=.tuple #[.slice ap ((((([]:Bs) ++ [by8 0,by8 0,by8 0,by8 0] ++ be 2 59 ++ be 2 (IntKind.i16.wrap v) ++ be 4 num) ++ (be 2 txt.size ++ sb txt)) ++ qab (IntKind.i16.wrap v) af).length) ar,bz]) kz ?_)
  have j8:be 4 (IntKind.i32.wrap ((((((([]:Bs) ++ [by8 0,by8 0,by8 0,by8 0] ++ be 2 59 ++ be 2 (IntKind.i16.wrap v) ++ be 4 num) ++ (be 2 txt.size ++ sb txt)) ++ qab (IntKind.i16.wrap v) af).length) - 4:Nat):Int)) ++ (((([]:Bs) ++ [by8 0,by8 0,by8 0,by8 0] ++ be 2 59 ++ be 2 (IntKind.i16.wrap v) ++ be 4 num) ++ (be 2 txt.size ++ sb txt)) ++ qab (IntKind.i16.wrap v) af).drop 4 = (qbf 59 (IntKind.i16.wrap v) num has (sb txt) (decide ((IntKind.i16.wrap v) ≥ 0)) (qab (IntKind.i16.wrap v) af)):=qcS (R:=outB 59 (IntKind.i16.wrap v) num has (sb txt) (decide ((IntKind.i16.wrap v) ≥ 0)) (qab (IntKind.i16.wrap v) af)) (by simp [outB,qeC,qb4,bf,bR])
  exact qcT bE (k:=1) rfl (j8.trans (by rw [bM])) (by simp only [List.length_append,List.length_cons,List.length_nil]; omega)
 refine wp_skip (qaa (qad [0,1,2,3,4] kz ?_))
 let cG:Nat × SV:=(16,.p 3 0)
 refine qaj [0,1,2] [3,4] [cG,aE,aW] aD dL fun rA j9=>?_
 refine qam (qa8 j9 (f:=37) (vs:=[.pointer (some ⟨dE,0,none⟩),bq,dJ,cv]) (d:=19) (n':=60) kz Tryz.call37 Tryz.func37 rfl Tryz.ntmps37 kz fun rB ka=>?_)
 have kd:=ka.recast 0 (.v (.pointer (some ⟨dE,0,none⟩))) (.p 3 0) rfl rfl (Nat.le_of_ble_eq_true (n:=4) rfl)
 let aB:Nat × SV:=(0,.p 3 0)
 refine qat [aB,(1,.v (.slice none 0 0)),ag,al] aD kd fun rC ke=>?_
 refine qad [0,1,2,3] kz ?_
 refine qaj [0] [1,2,3] [aB,ag,al,cd] aD ke fun rD kf=>?_
 have kg:=aD.addNil 5 1
 have dr:=aD.frNil 5 1
 refine qby kg kf (k:=0) (e:=5) (size:=1) (len:=4) (cs:=[aY,aY,aY,aY]) (d1:=13) (d:=14) kz (t:=24) (bytes:=1) kz (fun _=>by kernel_rfl) rfl kz (by first | omega | (simp only [List.length_append,List.length_cons,List.length_nil,be_length,qb4]; omega) | (simp; omega)) fun aS aT rE rF dt kh ⟨_,ki⟩=>?_
 have kj:(⟨aS,aT,5,1,([]:Bs).length + 4,bc ([]:Bs) ++ [.int .u8 0,.int .u8 0,.int .u8 0,.int .u8 0]⟩:Rw) = brow aS aT 5 (([]:Bs) ++ [by8 0,by8 0,by8 0,by8 0]):=qa6 (by simp only [bc,List.map,qbK]; try rfl) rfl
 obtain ⟨aH,du⟩:=kh.rowEq 0 [brow aS aT 5 (([]:Bs) ++ [by8 0,by8 0,by8 0,by8 0])] kj
 have km:=EnvOk.pick ki (ks:=[0,2,3,12,14]) (env':=[aB,ag,al,cd,(14,.v (.slice aS (([]:Bs).length + 4) aT))]) kz
 have ko:=km.cast (env':=[aB,ag,al,cd,(14,.v (.slice aS ((([]:Bs) ++ [by8 0,by8 0,by8 0,by8 0]).length) aT))]) (by simp only [List.length_append,List.length_cons,List.length_nil,Nat.zero_add])
 refine qaj [3] [] [aB,(1,.v (.slice aS ((([]:Bs) ++ [by8 0,by8 0,by8 0,by8 0]).length) aT)),ag,al] aH ko fun rG kp=>?_
 refine qae (qaa ?_)
 refine qad [0,1,2] kz ?_
 refine qaj [0] [1,2] [aB,(1,.v (.slice aS ((([]:Bs) ++ [by8 0,by8 0,by8 0,by8 0]).length) aT)),ag,al,cR] aH kp fun rH kq=>?_
 refine qam (qcq kq (t := 46) (v := (.pointer (some ⟨aC, 0, none⟩))) (v' := (.pointer (some ⟨aC, 0, none⟩))) (name := "Key") (f := 99) (vs := []) (d := 16) (n' := 3) kz (fun _ => by kernel_rfl) Tryz.call99 Tryz.func99 rfl Tryz.ntmps99 kz fun rI ku => ?_)
 have kv:=ku.recast 0 (.v (.pointer (some ⟨aC,0,none⟩))) (.p 1 0) rfl rfl (Nat.le_of_ble_eq_true (n:=2) rfl)
 refine qat [] aH kv fun rJ kw=>?_
 refine qat [(2,.v (.int .i16 59))] aH kw fun rK ky=>?_
 refine wp_ret (qaD ky aH.cells (v:=.int .i16 59) kz ?_)
 refine ⟨_,rfl,fun rL kA=>?_⟩
 have kB:=(EnvOk.places (tb':=[aa,ab,ac,ae]) kA (show Pl [aa,ab,ac,ae] [aa,ab,ac,ae] from ⟨rfl,rfl,⟨rfl,rfl,⟨rfl,rfl,⟨rfl,rfl,trivial⟩⟩⟩⟩)).pk (env':=[(16,.v (.int .i16 59)),aB,(1,.v (.slice aS ((([]:Bs) ++ [by8 0,by8 0,by8 0,by8 0]).length) aT)),ag,al,cR])
 refine qaj [2] [] [aB,(1,.v (.slice aS ((([]:Bs) ++ [by8 0,by8 0,by8 0,by8 0]).length) aT)),ag,al,az] aH kB fun rM kC=>?_
 refine qae (qaa ?_)
 refine qad [0,1,2] kz ?_
 refine qaj [0] [1,2] [aB,(1,.v (.slice aS ((([]:Bs) ++ [by8 0,by8 0,by8 0,by8 0]).length) aT)),ag,al,az,aE] aH kC fun rN kD=>?_
 refine qam (qcq kD (t := 46) (v := (.pointer (some ⟨aC, 0, none⟩))) (v' := (.pointer (some ⟨aC, 0, none⟩))) (name := "GetVersion") (f := 97) (vs := []) (d := 18) (n' := 7) kz (fun _ => by kernel_rfl) Tryz.call97 Tryz.func97 rfl Tryz.ntmps97 kz fun rO kE => ?_)
 have kF:=kE.recast 0 (.v (.pointer (some ⟨aC,0,none⟩))) (.p 1 0) rfl rfl (Nat.le_of_ble_eq_true (n:=2) rfl)
 refine qat [bL] aH kF fun rP kG=>?_
 refine qat [(2,.v (.int .i16 (IntKind.i16.wrap v)))] aH kG fun rQ kH=>?_
 refine wp_ret (qaD kH aH.cells (v:=.int .i16 (IntKind.i16.wrap v)) kz ?_)
 refine ⟨_,rfl,fun rR kI=>?_⟩
 have kJ:=(EnvOk.places (tb':=[aa,ab,ac,ae]) kI (show Pl [aa,ab,ac,ae] [aa,ab,ac,ae] from ⟨rfl,rfl,⟨rfl,rfl,⟨rfl,rfl,⟨rfl,rfl,trivial⟩⟩⟩⟩)).pk (env':=[(18,.v (.int .i16 (IntKind.i16.wrap v))),aB,(1,.v (.slice aS ((([]:Bs) ++ [by8 0,by8 0,by8 0,by8 0]).length) aT)),ag,al,az,aE])
 refine qaj [2] [] [aB,(1,.v (.slice aS ((([]:Bs) ++ [by8 0,by8 0,by8 0,by8 0]).length) aT)),ag,al,az,(10,.v (.int .i16 (IntKind.i16.wrap v)))] aH kJ fun rS kK=>?_
 refine qae (qaa ?_)
 refine qad [0,1,2,3] kz ?_
 refine qaj [0,1] [2,3] [aB,ag,al,az,(10,.v (.int .i16 (IntKind.i16.wrap v))),(19,.v (.slice aS ((([]:Bs) ++ [by8 0,by8 0,by8 0,by8 0]).length) aT)),(20,.v (.int .i16 59))] aH kK fun rT kM=>?_
 refine qam (qal kM (f:=67) (vs:=[.slice aS ((([]:Bs) ++ [by8 0,by8 0,by8 0,by8 0]).length) aT,.int .i16 59]) (d:=21) kz Tryz.call67 (qcn aS aT (([]:Bs) ++ [by8 0,by8 0,by8 0,by8 0]) 59 _ (aH.own 0 _ rfl) (by first | omega | (simp only [List.length_append,List.length_cons,List.length_nil,be_length,qb4]; omega) | (simp; omega))) ?_)
 rintro e_ rU ⟨cH,cI,rfl,kN,eH,eI⟩
 refine ⟨_,rfl,fun rV kO=>?_⟩
 have dv:WOk _ _ _ _ [brow cH cI 5 (([]:Bs) ++ [by8 0,by8 0,by8 0,by8 0] ++ be 2 59)]:=aH.grow (k:=0) rfl eH kN eI
 have dw:Fr _ [aa,ab,ac,ae] [brow aS aT 5 (([]:Bs) ++ [by8 0,by8 0,by8 0,by8 0])] _ [aa,ab,ac,ae] [brow cH cI 5 (([]:Bs) ++ [by8 0,by8 0,by8 0,by8 0] ++ be 2 59)]:=Fr.grow _ (k:=0) (r':=(brow cH cI 5 (([]:Bs) ++ [by8 0,by8 0,by8 0,by8 0] ++ be 2 59))) rfl eH eI
 refine qaj [3] [] [aB,(1,.v (.slice cH ((([]:Bs) ++ [by8 0,by8 0,by8 0,by8 0] ++ be 2 59).length) cI)),ag,al,az,(10,.v (.int .i16 (IntKind.i16.wrap v)))] dv kO fun rW kP=>?_
 refine qae (qaa ?_)
 refine qad [0,1,2,3] kz ?_
 refine qaj [0,1] [2,3] [aB,ag,al,az,(10,.v (.int .i16 (IntKind.i16.wrap v))),(22,.v (.slice cH ((([]:Bs) ++ [by8 0,by8 0,by8 0,by8 0] ++ be 2 59).length) cI)),(23,.v (.int .i16 (IntKind.i16.wrap v)))] dv kP fun rX kQ=>?_
 refine qam (qal kQ (f:=67) (vs:=[.slice cH ((([]:Bs) ++ [by8 0,by8 0,by8 0,by8 0] ++ be 2 59).length) cI,cO]) (d:=24) kz Tryz.call67 (qcn cH cI (([]:Bs) ++ [by8 0,by8 0,by8 0,by8 0] ++ be 2 59) (IntKind.i16.wrap v) _ (dv.own 0 _ rfl) (by first | omega | (simp only [List.length_append,List.length_cons,List.length_nil,be_length,qb4]; omega) | (simp; omega))) ?_)
 rintro e_ rY ⟨cJ,cK,rfl,kR,eJ,eK⟩
 refine ⟨_,rfl,fun rZ kS=>?_⟩
 have dx:WOk _ _ _ _ [brow cJ cK 5 (([]:Bs) ++ [by8 0,by8 0,by8 0,by8 0] ++ be 2 59 ++ be 2 (IntKind.i16.wrap v))]:=dv.grow (k:=0) rfl eJ kR eK
 have dy:Fr _ [aa,ab,ac,ae] [brow cH cI 5 (([]:Bs) ++ [by8 0,by8 0,by8 0,by8 0] ++ be 2 59)] _ [aa,ab,ac,ae] [brow cJ cK 5 (([]:Bs) ++ [by8 0,by8 0,by8 0,by8 0] ++ be 2 59 ++ be 2 (IntKind.i16.wrap v))]:=Fr.grow _ (k:=0) (r':=(brow cJ cK 5 (([]:Bs) ++ [by8 0,by8 0,by8 0,by8 0] ++ be 2 59 ++ be 2 (IntKind.i16.wrap v)))) rfl eJ eK
 refine qaj [3] [] [aB,(1,.v (.slice cJ ((([]:Bs) ++ [by8 0,by8 0,by8 0,by8 0] ++ be 2 59 ++ be 2 (IntKind.i16.wrap v)).length) cK)),ag,al,az,(10,.v (.int .i16 (IntKind.i16.wrap v)))] dx kS fun r0 kU=>?_
 refine qae (qaa ?_)
 refine qad [0,1,2,3] kz ?_
 refine qaj [0,1] [2,3] [aB,ag,az,(10,.v (.int .i16 (IntKind.i16.wrap v))),(25,.v (.slice cJ ((([]:Bs) ++ [by8 0,by8 0,by8 0,by8 0] ++ be 2 59 ++ be 2 (IntKind.i16.wrap v)).length) cK)),(26,.v (.int .i32 num))] dx kU fun r3 kV=>?_
 refine qam (qal kV (f:=68) (vs:=[.slice cJ ((([]:Bs) ++ [by8 0,by8 0,by8 0,by8 0] ++ be 2 59 ++ be 2 (IntKind.i16.wrap v)).length) cK,cv]) (d:=27) kz Tryz.call68 (qcd cJ cK (([]:Bs) ++ [by8 0,by8 0,by8 0,by8 0] ++ be 2 59 ++ be 2 (IntKind.i16.wrap v)) num _ (dx.own 0 _ rfl) (by first | omega | (simp only [List.length_append,List.length_cons,List.length_nil,be_length,qb4]; omega) | (simp; omega))) ?_)
 rintro e_ r4 ⟨bk,bn,rfl,kW,eM,eN⟩
 refine ⟨_,rfl,fun r7 kX=>?_⟩
 have bF:WOk _ _ _ _ [brow bk bn 5 (([]:Bs) ++ [by8 0,by8 0,by8 0,by8 0] ++ be 2 59 ++ be 2 (IntKind.i16.wrap v) ++ be 4 num)]:=dx.grow (k:=0) rfl eM kW eN
 have dA:Fr _ [aa,ab,ac,ae] [brow cJ cK 5 (([]:Bs) ++ [by8 0,by8 0,by8 0,by8 0] ++ be 2 59 ++ be 2 (IntKind.i16.wrap v))] _ [aa,ab,ac,ae] [brow bk bn 5 (([]:Bs) ++ [by8 0,by8 0,by8 0,by8 0] ++ be 2 59 ++ be 2 (IntKind.i16.wrap v) ++ be 4 num)]:=Fr.grow _ (k:=0) (r':=(brow bk bn 5 (([]:Bs) ++ [by8 0,by8 0,by8 0,by8 0] ++ be 2 59 ++ be 2 (IntKind.i16.wrap v) ++ be 4 num))) rfl eM eN
 refine qaj [3] [] [aB,(1,.v (.slice bk ((([]:Bs) ++ [by8 0,by8 0,by8 0,by8 0] ++ be 2 59 ++ be 2 (IntKind.i16.wrap v) ++ be 4 num).length) bn)),ag,az,(10,.v (.int .i16 (IntKind.i16.wrap v)))] bF kX fun sa kY=>?_
 refine qae (qaa ?_)
 refine wp_seq (qat [aB,(1,.v (.slice bk ((([]:Bs) ++ [by8 0,by8 0,by8 0,by8 0] ++ be 2 59 ++ be 2 (IntKind.i16.wrap v) ++ be 4 num).length) bn)),ag,(33,.v (.bool false))] bF kY fun sc eO=>?_)
 refine qau eO (b:=false) kz rfl ?_
 refine wp_skip (qaa (qad [0,1,2,3,4,5,6] kz ?_))
 refine qaj [0,1,2,3,4] [5,6] [ag,(35,.v (.slice bk ((([]:Bs) ++ [by8 0,by8 0,by8 0,by8 0] ++ be 2 59 ++ be 2 (IntKind.i16.wrap v) ++ be 4 num).length) bn)),(39,.v (.pointer none))] bF eO fun sd kZ=>?_
 refine qam (qa8 kZ (f:=69) (vs:=[.slice bk ((([]:Bs) ++ [by8 0,by8 0,by8 0,by8 0] ++ be 2 59 ++ be 2 (IntKind.i16.wrap v) ++ be 4 num).length) bn,bp]) (d:=40) (n':=14) kz Tryz.call69 Tryz.func69 rfl Tryz.ntmps69 kz fun se k7=>?_)
 refine qat [(0,.v (.slice bk ((([]:Bs) ++ [by8 0,by8 0,by8 0,by8 0] ++ be 2 59 ++ be 2 (IntKind.i16.wrap v) ++ be 4 num).length) bn)),(1,.v (.pointer none))] bF k7 fun sf la=>?_
 refine wp_seq (qat [(0,.v (.slice bk ((([]:Bs) ++ [by8 0,by8 0,by8 0,by8 0] ++ be 2 59 ++ be 2 (IntKind.i16.wrap v) ++ be 4 num).length) bn)),(1,.v (.pointer none)),(6,.v (.bool true))] bF la fun sg eP=>?_)
 refine qbw eP (b:=true) kz rfl ?_
 refine qad [0,1,2] kz ?_
 refine qaj [0] [1,2] [(7,.v (.slice bk ((([]:Bs) ++ [by8 0,by8 0,by8 0,by8 0] ++ be 2 59 ++ be 2 (IntKind.i16.wrap v) ++ be 4 num).length) bn))] bF eP fun sh lb=>?_
 refine qam (qal lb (f:=67) (vs:=[.slice bk ((([]:Bs) ++ [by8 0,by8 0,by8 0,by8 0] ++ be 2 59 ++ be 2 (IntKind.i16.wrap v) ++ be 4 num).length) bn,.int .i16 (-1)]) (d:=8) kz Tryz.call67 (qcn bk bn (([]:Bs) ++ [by8 0,by8 0,by8 0,by8 0] ++ be 2 59 ++ be 2 (IntKind.i16.wrap v) ++ be 4 num) (-1) _ (bF.own 0 _ rfl) (by first | omega | (simp only [List.length_append,List.length_cons,List.length_nil,be_length,qb4]; omega) | (simp; omega))) ?_)
 rintro e_ sj ⟨aM,aN,rfl,lc,eQ,eR⟩
 refine ⟨_,rfl,fun sk ld=>?_⟩
 have aI:WOk _ _ _ _ [brow aM aN 5 (([]:Bs) ++ [by8 0,by8 0,by8 0,by8 0] ++ be 2 59 ++ be 2 (IntKind.i16.wrap v) ++ be 4 num ++ be 2 (-1))]:=bF.grow (k:=0) rfl eQ lc eR
 have dB:Fr _ [aa,ab,ac,ae] [brow bk bn 5 (([]:Bs) ++ [by8 0,by8 0,by8 0,by8 0] ++ be 2 59 ++ be 2 (IntKind.i16.wrap v) ++ be 4 num)] _ [aa,ab,ac,ae] [brow aM aN 5 (([]:Bs) ++ [by8 0,by8 0,by8 0,by8 0] ++ be 2 59 ++ be 2 (IntKind.i16.wrap v) ++ be 4 num ++ be 2 (-1))]:=Fr.grow _ (k:=0) (r':=(brow aM aN 5 (([]:Bs) ++ [by8 0,by8 0,by8 0,by8 0] ++ be 2 59 ++ be 2 (IntKind.i16.wrap v) ++ be 4 num ++ be 2 (-1)))) rfl eQ eR
 refine qaj [2] [] [(4,.v (.slice aM ((([]:Bs) ++ [by8 0,by8 0,by8 0,by8 0] ++ be 2 59 ++ be 2 (IntKind.i16.wrap v) ++ be 4 num ++ be 2 (-1)).length) aN))] aI ld fun sl lf=>?_
 refine qae (qaa ?_)
 refine wp_ret (qaE (qaD lf aI.cells (v:=.slice aM ((([]:Bs) ++ [by8 0,by8 0,by8 0,by8 0] ++ be 2 59 ++ be 2 (IntKind.i16.wrap v) ++ be 4 num ++ be 2 (-1)).length) aN) kz ?_))
 refine ⟨_,rfl,fun sm lg=>?_⟩
 have lh:=(EnvOk.places (tb':=[aa,ab,ac,ae]) lg (show Pl [aa,ab,ac,ae] [aa,ab,ac,ae] from ⟨rfl,rfl,⟨rfl,rfl,⟨rfl,rfl,⟨rfl,rfl,trivial⟩⟩⟩⟩)).pk (env':=[(40,.v (.slice aM ((([]:Bs) ++ [by8 0,by8 0,by8 0,by8 0] ++ be 2 59 ++ be 2 (IntKind.i16.wrap v) ++ be 4 num ++ be 2 (-1)).length) aN)),ag,(35,.v (.slice bk ((([]:Bs) ++ [by8 0,by8 0,by8 0,by8 0] ++ be 2 59 ++ be 2 (IntKind.i16.wrap v) ++ be 4 num).length) bn)),(39,.v (.pointer none))])
 refine qaj [6] [] [(1,.v (.slice aM ((([]:Bs) ++ [by8 0,by8 0,by8 0,by8 0] ++ be 2 59 ++ be 2 (IntKind.i16.wrap v) ++ be 4 num ++ be 2 (-1)).length) aN)),ag] aI lh fun sn li=>?_
 refine qae (qaa ?_)
 refine wp_seq (qad [0,1] kz ?_)
 refine qaj [0] [1] [(1,.v (.slice aM ((([]:Bs) ++ [by8 0,by8 0,by8 0,by8 0] ++ be 2 59 ++ be 2 (IntKind.i16.wrap v) ++ be 4 num ++ be 2 (-1)).length) aN)),ag,cS] aI li fun sq lj=>?_
 refine qam (qcq lj (t := 46) (v := (.pointer (some ⟨aC, 0, none⟩))) (v' := (.pointer (some ⟨aC, 0, none⟩))) (name := "IsFlexible") (f := 98) (vs := []) (d := 42) (n' := 8) kz (fun _ => by kernel_rfl) Tryz.call98 Tryz.func98 rfl Tryz.ntmps98 kz fun sr lm => ?_)
 have ln:=lm.recast 0 (.v (.pointer (some ⟨aC,0,none⟩))) (.p 1 0) rfl rfl (Nat.le_of_ble_eq_true (n:=2) rfl)
 refine qat [bL] aI ln fun ss lp=>?_
 refine qat [(2,.v (.bool (decide ((IntKind.i16.wrap v) ≥ 0))))] aI lp fun su lq=>?_
 refine wp_ret (qaD lq aI.cells (v:=.bool (decide ((IntKind.i16.wrap v) ≥ 0))) kz ?_)
 refine ⟨_,rfl,fun sw lr=>?_⟩
 have dP:=(EnvOk.places (tb':=[aa,ab,ac,ae]) lr (show Pl [aa,ab,ac,ae] [aa,ab,ac,ae] from ⟨rfl,rfl,⟨rfl,rfl,⟨rfl,rfl,⟨rfl,rfl,trivial⟩⟩⟩⟩)).pk (env':=[(42,.v (.bool (decide ((IntKind.i16.wrap v) ≥ 0)))),(1,.v (.slice aM ((([]:Bs) ++ [by8 0,by8 0,by8 0,by8 0] ++ be 2 59 ++ be 2 (IntKind.i16.wrap v) ++ be 4 num ++ be 2 (-1)).length) aN)),ag,cS])
 refine qae (qaa ?_)
 refine qaA dP (b:=decide ((IntKind.i16.wrap v) ≥ 0)) kz (fun bW=>?_) (fun bW=>?_)
 ·
  have og:=of_decide_eq_true bW
  refine qat [(1,.v (.slice aM ((([]:Bs) ++ [by8 0,by8 0,by8 0,by8 0] ++ be 2 59 ++ be 2 (IntKind.i16.wrap v) ++ be 4 num ++ be 2 (-1)).length) aN)),ag,aX] aI dP fun sy ls=>?_
  refine qad [0,1,2,3,4] kz ?_
  refine qaj [0,1] [2,3,4] [ag,aX,(43,.v (.slice aM ((([]:Bs) ++ [by8 0,by8 0,by8 0,by8 0] ++ be 2 59 ++ be 2 (IntKind.i16.wrap v) ++ be 4 num ++ be 2 (-1)).length) aN)),ce] aI ls fun sA lu=>?_
  refine qby aI lu (k:=0) (e:=5) (size:=1) (len:=1) (cs:=[aY]) (d1:=45) (d:=46) kz (t:=24) (bytes:=1) kz (fun _=>by kernel_rfl) rfl kz (by first | omega | (simp only [List.length_append,List.length_cons,List.length_nil,be_length,qb4]; omega) | (simp; omega)) fun bX bY sB sC eS lv ⟨_,lw⟩=>?_
  have lx:(⟨bX,bY,5,1,(([]:Bs) ++ [by8 0,by8 0,by8 0,by8 0] ++ be 2 59 ++ be 2 (IntKind.i16.wrap v) ++ be 4 num ++ be 2 (-1)).length + 1,bc (([]:Bs) ++ [by8 0,by8 0,by8 0,by8 0] ++ be 2 59 ++ be 2 (IntKind.i16.wrap v) ++ be 4 num ++ be 2 (-1)) ++ [.int .u8 0]⟩:Rw) = brow bX bY 5 (([]:Bs) ++ [by8 0,by8 0,by8 0,by8 0] ++ be 2 59 ++ be 2 (IntKind.i16.wrap v) ++ be 4 num ++ be 2 (-1) ++ [by8 0]):=qa6 (by simp only [bc,List.map,qbK]; try rfl) rfl
  obtain ⟨cm,eT⟩:=lv.rowEq 0 [brow bX bY 5 (([]:Bs) ++ [by8 0,by8 0,by8 0,by8 0] ++ be 2 59 ++ be 2 (IntKind.i16.wrap v) ++ be 4 num ++ be 2 (-1) ++ [by8 0])] lx
  have ly:=EnvOk.pick lw (ks:=[2,11,43,44,46]) (env':=[ag,aX,(43,.v (.slice aM ((([]:Bs) ++ [by8 0,by8 0,by8 0,by8 0] ++ be 2 59 ++ be 2 (IntKind.i16.wrap v) ++ be 4 num ++ be 2 (-1)).length) aN)),ce,(46,.v (.slice bX ((([]:Bs) ++ [by8 0,by8 0,by8 0,by8 0] ++ be 2 59 ++ be 2 (IntKind.i16.wrap v) ++ be 4 num ++ be 2 (-1)).length + 1) bY))]) kz
  have lz:=ly.cast (env':=[ag,aX,(43,.v (.slice aM ((([]:Bs) ++ [by8 0,by8 0,by8 0,by8 0] ++ be 2 59 ++ be 2 (IntKind.i16.wrap v) ++ be 4 num ++ be 2 (-1)).length) aN)),ce,(46,.v (.slice bX ((([]:Bs) ++ [by8 0,by8 0,by8 0,by8 0] ++ be 2 59 ++ be 2 (IntKind.i16.wrap v) ++ be 4 num ++ be 2 (-1) ++ [by8 0]).length) bY))]) (by simp only [List.length_append,List.length_cons,List.length_nil,Nat.zero_add])
  refine qaj [4] [] [(1,.v (.slice bX ((([]:Bs) ++ [by8 0,by8 0,by8 0,by8 0] ++ be 2 59 ++ be 2 (IntKind.i16.wrap v) ++ be 4 num ++ be 2 (-1) ++ [by8 0]).length) bY)),ag,aX] cm lz fun sD lA=>?_
  refine qae (qaa ?_)
  refine qat [(1,.v (.slice bX ((([]:Bs) ++ [by8 0,by8 0,by8 0,by8 0] ++ be 2 59 ++ be 2 (IntKind.i16.wrap v) ++ be 4 num ++ be 2 (-1) ++ [by8 0]).length) bY)),ag,(48,.v (.bool false))] cm lA fun sE eU=>?_
  refine qau eU (b:=false) kz rfl ?_
  refine wp_skip (qaa (qad [0,1,2,3] kz ?_))
  refine qaj [0,1] [2,3] [cU,(50,.v (.slice bX ((([]:Bs) ++ [by8 0,by8 0,by8 0,by8 0] ++ be 2 59 ++ be 2 (IntKind.i16.wrap v) ++ be 4 num ++ be 2 (-1) ++ [by8 0]).length) bY))] cm eU fun sF lB=>?_
  have lC:=(qa4 _ ((((((((((bu.trans bw).trans dr).trans dt).trans du).trans dw).trans dy).trans dA).trans dB).trans eS).trans eT).step immM ((((((((((bu.trans bw).trans dr).trans dt).trans du).trans dw).trans dy).trans dA).trans dB).trans eS).trans eT).to' cQ)
  have fm:=cm.strImm (G:=F) 1 rfl
  have hk_:=qa4 _ (Step.refl _ Nil) nilM (fun b o h_ _=>qg6 h_) lC
  refine qam (qdc lB (t := 46) (v := (.pointer (some ⟨aC, 0, none⟩))) (v' := (.pointer (some ⟨aC, 0, none⟩))) (name := "AppendTo") (f := 96) (vs := [.slice bX ((([] : Bs) ++ [by8 0, by8 0, by8 0, by8 0] ++ be 2 59 ++ be 2 (IntKind.i16.wrap v) ++ be 4 num ++ be 2 (-1) ++ [by8 0]).length) bY]) (d := 51) kz (fun _ => by kernel_rfl) Tryz.call96 (qb1 (IntKind.i16.wrap v) af aC 0 bX bY (([] : Bs) ++ [by8 0, by8 0, by8 0, by8 0] ++ be 2 59 ++ be 2 (IntKind.i16.wrap v) ++ be 4 num ++ be 2 (-1) ++ [by8 0]) _ _ fm hk_ (qg4 0 rfl) (cm.own 0 _ rfl) (by first | omega | (simp only [List.length_append, List.length_cons, List.length_nil, be_length, qb4]; omega) | (simp; omega))) ?_)
  rintro e_ sG ⟨au,av,rfl,lD,eV,eW⟩
  refine ⟨_,rfl,fun sH lE=>?_⟩
  have eX:WOk _ _ _ _ [brow au av 5 ((([]:Bs) ++ [by8 0,by8 0,by8 0,by8 0] ++ be 2 59 ++ be 2 (IntKind.i16.wrap v) ++ be 4 num ++ be 2 (-1) ++ [by8 0]) ++ qab (IntKind.i16.wrap v) af)]:=cm.grow (k:=0) rfl eV lD eW
  have oh:=Fr.grow [aa,ab,ac,ae] (k:=0) (rs:=[brow bX bY 5 (([]:Bs) ++ [by8 0,by8 0,by8 0,by8 0] ++ be 2 59 ++ be 2 (IntKind.i16.wrap v) ++ be 4 num ++ be 2 (-1) ++ [by8 0])]) (r':=(brow au av 5 ((([]:Bs) ++ [by8 0,by8 0,by8 0,by8 0] ++ be 2 59 ++ be 2 (IntKind.i16.wrap v) ++ be 4 num ++ be 2 (-1) ++ [by8 0]) ++ qab (IntKind.i16.wrap v) af))) rfl eV eW
  refine qaj [3] [] [(1,.v (.slice au (((([]:Bs) ++ [by8 0,by8 0,by8 0,by8 0] ++ be 2 59 ++ be 2 (IntKind.i16.wrap v) ++ be 4 num ++ be 2 (-1) ++ [by8 0]) ++ qab (IntKind.i16.wrap v) af).length) av))] eX lE fun sI lF=>?_
  refine qae (qaa ?_)
  refine qbu 7 kz eX fun sJ ol dC bZ=>?_
  refine qaY [0,2] [(1,.v (.slice au (((([]:Bs) ++ [by8 0,by8 0,by8 0,by8 0] ++ be 2 59 ++ be 2 (IntKind.i16.wrap v) ++ be 4 num ++ be 2 (-1) ++ [by8 0]) ++ qab (IntKind.i16.wrap v) af).length) av)),(52,.v (.slice au (((([]:Bs) ++ [by8 0,by8 0,by8 0,by8 0] ++ be 2 59 ++ be 2 (IntKind.i16.wrap v) ++ be 4 num ++ be 2 (-1) ++ [by8 0]) ++ qab (IntKind.i16.wrap v) af).length) av)),(54,.v (.slice au (((([]:Bs) ++ [by8 0,by8 0,by8 0,by8 0] ++ be 2 59 ++ be 2 (IntKind.i16.wrap v) ++ be 4 num ++ be 2 (-1) ++ [by8 0]) ++ qab (IntKind.i16.wrap v) af).length) av))] 5 (qac qai) (fun _ h=>h.cells) bZ lF fun sK eY=>?_
  refine qfg (i:=1) (j:=3) kz ?_ ?_
  ·
   refine (qbL eY (t:=24) (A:=au) (m:=((([]:Bs) ++ [by8 0,by8 0,by8 0,by8 0] ++ be 2 59 ++ be 2 (IntKind.i16.wrap v) ++ be 4 num ++ be 2 (-1) ++ [by8 0]) ++ qab (IntKind.i16.wrap v) af).length) (cp:=av) (q:=0) (d:=53) (j:=0) kz (e:=5) (size:=1) (bytes:=1) kz (rfl) (by omega) fun sL lG=>?_)
   refine ⟨fun _=>bZ,?_⟩
   refine qaJ (i:=3) kz (qbE lG (t:=24) (A:=au) (m:=(((([]:Bs) ++ [by8 0,by8 0,by8 0,by8 0] ++ be 2 59 ++ be 2 (IntKind.i16.wrap v) ++ be 4 num ++ be 2 (-1) ++ [by8 0]) ++ qab (IntKind.i16.wrap v) af).length)) (cp:=av) (q:=4) (d:=55) (j:=4) kz (e:=5) (bytes:=1) kz (rfl) (by first | omega | (simp only [List.length_append,List.length_cons,List.length_nil]; omega)) fun sM lH=>?_)
   refine ⟨fun _=>bZ,?_⟩
   refine qaY [4,5] [(1,.v (.slice au (((([]:Bs) ++ [by8 0,by8 0,by8 0,by8 0] ++ be 2 59 ++ be 2 (IntKind.i16.wrap v) ++ be 4 num ++ be 2 (-1) ++ [by8 0]) ++ qab (IntKind.i16.wrap v) af).length) av)),(53,.v (.slice au 0 av)),(57,.v (.int .i32 (IntKind.i32.wrap (((((([]:Bs) ++ [by8 0,by8 0,by8 0,by8 0] ++ be 2 59 ++ be 2 (IntKind.i16.wrap v) ++ be 4 num ++ be 2 (-1) ++ [by8 0]) ++ qab (IntKind.i16.wrap v) af).length) - 4:Nat):Int))))] 1 (qac qai) (fun _ h=>h.cells) bZ lH fun sN lI=>?_
   refine qaJ (i:=6) kz (qal lI (f:=68) (vs:=[.slice au 0 av,.int .i32 (IntKind.i32.wrap (((((([]:Bs) ++ [by8 0,by8 0,by8 0,by8 0] ++ be 2 59 ++ be 2 (IntKind.i16.wrap v) ++ be 4 num ++ be 2 (-1) ++ [by8 0]) ++ qab (IntKind.i16.wrap v) af).length) - 4:Nat):Int))]) (d:=58) kz Tryz.call68 (qbP (IntKind.i32.wrap (((((([]:Bs) ++ [by8 0,by8 0,by8 0,by8 0] ++ be 2 59 ++ be 2 (IntKind.i16.wrap v) ++ be 4 num ++ be 2 (-1) ++ [by8 0]) ++ qab (IntKind.i16.wrap v) af).length) - 4:Nat):Int)) au av ((([]:Bs) ++ [by8 0,by8 0,by8 0,by8 0] ++ be 2 59 ++ be 2 (IntKind.i16.wrap v) ++ be 4 num ++ be 2 (-1) ++ [by8 0]) ++ qab (IntKind.i16.wrap v) af) _ (dC.own 0 _ rfl) (by simp only [List.length_append,List.length_cons,List.length_nil]; omega)) ?_)
   rintro e_ sO ⟨rfl,lJ,eZ⟩
   refine ⟨_,rfl,fun sP lK=>?_⟩
   have bG:WOk _ _ _ _ (z4 au av v num af):=dC.grow (k:=0) (r':=⟨au,av,5,1,((([]:Bs) ++ [by8 0,by8 0,by8 0,by8 0] ++ be 2 59 ++ be 2 (IntKind.i16.wrap v) ++ be 4 num ++ be 2 (-1) ++ [by8 0]) ++ qab (IntKind.i16.wrap v) af).length,bc (be 4 (IntKind.i32.wrap (((((([]:Bs) ++ [by8 0,by8 0,by8 0,by8 0] ++ be 2 59 ++ be 2 (IntKind.i16.wrap v) ++ be 4 num ++ be 2 (-1) ++ [by8 0]) ++ qab (IntKind.i16.wrap v) af).length) - 4:Nat):Int)) ++ ((([]:Bs) ++ [by8 0,by8 0,by8 0,by8 0] ++ be 2 59 ++ be 2 (IntKind.i16.wrap v) ++ be 4 num ++ be 2 (-1) ++ [by8 0]) ++ qab (IntKind.i16.wrap v) af).drop 4)⟩) rfl eZ lJ (fun g' hg'=>.inl hg')
   have lL:=Fr.grow [aa,ab,ac,ae] (k:=0) (rs:=[brow au av 5 ((([]:Bs) ++ [by8 0,by8 0,by8 0,by8 0] ++ be 2 59 ++ be 2 (IntKind.i16.wrap v) ++ be 4 num ++ be 2 (-1) ++ [by8 0]) ++ qab (IntKind.i16.wrap v) af)]) (r':=⟨au,av,5,1,((([]:Bs) ++ [by8 0,by8 0,by8 0,by8 0] ++ be 2 59 ++ be 2 (IntKind.i16.wrap v) ++ be 4 num ++ be 2 (-1) ++ [by8 0]) ++ qab (IntKind.i16.wrap v) af).length,bc (be 4 (IntKind.i32.wrap (((((([]:Bs) ++ [by8 0,by8 0,by8 0,by8 0] ++ be 2 59 ++ be 2 (IntKind.i16.wrap v) ++ be 4 num ++ be 2 (-1) ++ [by8 0]) ++ qab (IntKind.i16.wrap v) af).length) - 4:Nat):Int)) ++ ((([]:Bs) ++ [by8 0,by8 0,by8 0,by8 0] ++ be 2 59 ++ be 2 (IntKind.i16.wrap v) ++ be 4 num ++ be 2 (-1) ++ [by8 0]) ++ qab (IntKind.i16.wrap v) af).drop 4)⟩) rfl eZ (fun g' hg'=>.inl hg')
   have lM:=TT.ofW lL bG
   refine ⟨fun _=>lM,?_⟩
   refine qaW kz ?_ _
   refine qaa (qat [(8,.v (.slice au (((([]:Bs) ++ [by8 0,by8 0,by8 0,by8 0] ++ be 2 59 ++ be 2 (IntKind.i16.wrap v) ++ be 4 num ++ be 2 (-1) ++ [by8 0]) ++ qab (IntKind.i16.wrap v) af).length) av))] bG lK fun sQ lN=>?_)
   refine wp_ret (qaD lN bG.cells (v:=.slice au (((([]:Bs) ++ [by8 0,by8 0,by8 0,by8 0] ++ be 2 59 ++ be 2 (IntKind.i16.wrap v) ++ be 4 num ++ be 2 (-1) ++ [by8 0]) ++ qab (IntKind.i16.wrap v) af).length) av) kz ?_)
   refine ⟨_,rfl,fun sR lO=>?_⟩
   have lP:=(EnvOk.places (tb':=[aa,ab,ac,ae]) lO (show Pl [aa,ab,ac,ae] [aa,ab,ac,ae] from ⟨rfl,rfl,⟨rfl,rfl,⟨rfl,rfl,⟨rfl,rfl,trivial⟩⟩⟩⟩)).pk (env':=[(19,.v (.slice au (((([]:Bs) ++ [by8 0,by8 0,by8 0,by8 0] ++ be 2 59 ++ be 2 (IntKind.i16.wrap v) ++ be 4 num ++ be 2 (-1) ++ [by8 0]) ++ qab (IntKind.i16.wrap v) af).length) av)),cG,aE,aW])
   refine qaj [4] [] [(6,.v (.slice au (((([]:Bs) ++ [by8 0,by8 0,by8 0,by8 0] ++ be 2 59 ++ be 2 (IntKind.i16.wrap v) ++ be 4 num ++ be 2 (-1) ++ [by8 0]) ++ qab (IntKind.i16.wrap v) af).length) av))] bG lP fun sS lQ=>?_
   refine qae (qaa ?_)
   refine wp_ret (qaD lQ bG.cells (v:=.slice au (((([]:Bs) ++ [by8 0,by8 0,by8 0,by8 0] ++ be 2 59 ++ be 2 (IntKind.i16.wrap v) ++ be 4 num ++ be 2 (-1) ++ [by8 0]) ++ qab (IntKind.i16.wrap v) af).length) av) kz ?_)
   refine ⟨_,rfl,fun sT lR=>?_⟩
   have lS:=(EnvOk.places (tb':=[aa,ab,ac,ae]) lR (show Pl [aa,ab] [aa,ab,ac,ae] from ⟨rfl,rfl,⟨rfl,rfl,trivial⟩⟩)).pk (env':=[(25,.v (.slice au (((([]:Bs) ++ [by8 0,by8 0,by8 0,by8 0] ++ be 2 59 ++ be 2 (IntKind.i16.wrap v) ++ be 4 num ++ be 2 (-1) ++ [by8 0]) ++ qab (IntKind.i16.wrap v) af).length) av)),aZ,ba,bd])
   refine qaj [5,6] [] [(8,.v (.slice au (((([]:Bs) ++ [by8 0,by8 0,by8 0,by8 0] ++ be 2 59 ++ be 2 (IntKind.i16.wrap v) ++ be 4 num ++ be 2 (-1) ++ [by8 0]) ++ qab (IntKind.i16.wrap v) af).length) av)),bx] bG lS fun sU lT=>?_
   refine qae (qaa ?_)
   refine wp_ret (qaD lT bG.cells (v:=.tuple #[.slice au (((([]:Bs) ++ [by8 0,by8 0,by8 0,by8 0] ++ be 2 59 ++ be 2 (IntKind.i16.wrap v) ++ be 4 num ++ be 2 (-1) ++ [by8 0]) ++ qab (IntKind.i16.wrap v) af).length) av,bz]) kz ?_)
   have lU:be 4 (IntKind.i32.wrap (((((([]:Bs) ++ [by8 0,by8 0,by8 0,by8 0] ++ be 2 59 ++ be 2 (IntKind.i16.wrap v) ++ be 4 num ++ be 2 (-1) ++ [by8 0]) ++ qab (IntKind.i16.wrap v) af).length) - 4:Nat):Int)) ++ ((([]:Bs) ++ [by8 0,by8 0,by8 0,by8 0] ++ be 2 59 ++ be 2 (IntKind.i16.wrap v) ++ be 4 num ++ be 2 (-1) ++ [by8 0]) ++ qab (IntKind.i16.wrap v) af).drop 4 = (qbf 59 (IntKind.i16.wrap v) num has (sb txt) (decide ((IntKind.i16.wrap v) ≥ 0)) (qab (IntKind.i16.wrap v) af)):=qcS (R:=outB 59 (IntKind.i16.wrap v) num has (sb txt) (decide ((IntKind.i16.wrap v) ≥ 0)) (qab (IntKind.i16.wrap v) af)) (by simp [outB,qeC,qb4,bf,bW])
   exact qcT bG (k:=0) rfl (lU.trans (by rw [bM])) (by simp only [List.length_append,List.length_cons,List.length_nil]; omega)
  refine (qbE eY (t:=24) (A:=au) (m:=(((([]:Bs) ++ [by8 0,by8 0,by8 0,by8 0] ++ be 2 59 ++ be 2 (IntKind.i16.wrap v) ++ be 4 num ++ be 2 (-1) ++ [by8 0]) ++ qab (IntKind.i16.wrap v) af).length)) (cp:=av) (q:=4) (d:=55) (j:=4) kz (e:=5) (bytes:=1) kz (rfl) (by first | omega | (simp only [List.length_append,List.length_cons,List.length_nil]; omega)) fun sV lV=>?_)
  refine ⟨fun _=>bZ,?_⟩
  refine qaY [4,5] [(1,.v (.slice au (((([]:Bs) ++ [by8 0,by8 0,by8 0,by8 0] ++ be 2 59 ++ be 2 (IntKind.i16.wrap v) ++ be 4 num ++ be 2 (-1) ++ [by8 0]) ++ qab (IntKind.i16.wrap v) af).length) av)),(52,.v (.slice au (((([]:Bs) ++ [by8 0,by8 0,by8 0,by8 0] ++ be 2 59 ++ be 2 (IntKind.i16.wrap v) ++ be 4 num ++ be 2 (-1) ++ [by8 0]) ++ qab (IntKind.i16.wrap v) af).length) av)),(57,.v (.int .i32 (IntKind.i32.wrap (((((([]:Bs) ++ [by8 0,by8 0,by8 0,by8 0] ++ be 2 59 ++ be 2 (IntKind.i16.wrap v) ++ be 4 num ++ be 2 (-1) ++ [by8 0]) ++ qab (IntKind.i16.wrap v) af).length) - 4:Nat):Int))))] 2 (qac qai) (fun _ h=>h.cells) bZ lV fun sW lW=>?_
  refine qaJ (i:=1) kz (qbL lW (t:=24) (A:=au) (m:=((([]:Bs) ++ [by8 0,by8 0,by8 0,by8 0] ++ be 2 59 ++ be 2 (IntKind.i16.wrap v) ++ be 4 num ++ be 2 (-1) ++ [by8 0]) ++ qab (IntKind.i16.wrap v) af).length) (cp:=av) (q:=0) (d:=53) (j:=0) kz (e:=5) (size:=1) (bytes:=1) kz (rfl) (by omega) fun sX lX=>?_)
  refine ⟨fun _=>bZ,?_⟩
  refine qaJ (i:=6) kz (qal lX (f:=68) (vs:=[.slice au 0 av,.int .i32 (IntKind.i32.wrap (((((([]:Bs) ++ [by8 0,by8 0,by8 0,by8 0] ++ be 2 59 ++ be 2 (IntKind.i16.wrap v) ++ be 4 num ++ be 2 (-1) ++ [by8 0]) ++ qab (IntKind.i16.wrap v) af).length) - 4:Nat):Int))]) (d:=58) kz Tryz.call68 (qbP (IntKind.i32.wrap (((((([]:Bs) ++ [by8 0,by8 0,by8 0,by8 0] ++ be 2 59 ++ be 2 (IntKind.i16.wrap v) ++ be 4 num ++ be 2 (-1) ++ [by8 0]) ++ qab (IntKind.i16.wrap v) af).length) - 4:Nat):Int)) au av ((([]:Bs) ++ [by8 0,by8 0,by8 0,by8 0] ++ be 2 59 ++ be 2 (IntKind.i16.wrap v) ++ be 4 num ++ be 2 (-1) ++ [by8 0]) ++ qab (IntKind.i16.wrap v) af) _ (dC.own 0 _ rfl) (by simp only [List.length_append,List.length_cons,List.length_nil]; omega)) ?_)
  rintro e_ sY ⟨rfl,lY,e9⟩
  refine ⟨_,rfl,fun sZ lZ=>?_⟩
  have bH:WOk _ _ _ _ (z4 au av v num af):=dC.grow (k:=0) (r':=⟨au,av,5,1,((([]:Bs) ++ [by8 0,by8 0,by8 0,by8 0] ++ be 2 59 ++ be 2 (IntKind.i16.wrap v) ++ be 4 num ++ be 2 (-1) ++ [by8 0]) ++ qab (IntKind.i16.wrap v) af).length,bc (be 4 (IntKind.i32.wrap (((((([]:Bs) ++ [by8 0,by8 0,by8 0,by8 0] ++ be 2 59 ++ be 2 (IntKind.i16.wrap v) ++ be 4 num ++ be 2 (-1) ++ [by8 0]) ++ qab (IntKind.i16.wrap v) af).length) - 4:Nat):Int)) ++ ((([]:Bs) ++ [by8 0,by8 0,by8 0,by8 0] ++ be 2 59 ++ be 2 (IntKind.i16.wrap v) ++ be 4 num ++ be 2 (-1) ++ [by8 0]) ++ qab (IntKind.i16.wrap v) af).drop 4)⟩) rfl e9 lY (fun g' hg'=>.inl hg')
  have l0:=Fr.grow [aa,ab,ac,ae] (k:=0) (rs:=[brow au av 5 ((([]:Bs) ++ [by8 0,by8 0,by8 0,by8 0] ++ be 2 59 ++ be 2 (IntKind.i16.wrap v) ++ be 4 num ++ be 2 (-1) ++ [by8 0]) ++ qab (IntKind.i16.wrap v) af)]) (r':=⟨au,av,5,1,((([]:Bs) ++ [by8 0,by8 0,by8 0,by8 0] ++ be 2 59 ++ be 2 (IntKind.i16.wrap v) ++ be 4 num ++ be 2 (-1) ++ [by8 0]) ++ qab (IntKind.i16.wrap v) af).length,bc (be 4 (IntKind.i32.wrap (((((([]:Bs) ++ [by8 0,by8 0,by8 0,by8 0] ++ be 2 59 ++ be 2 (IntKind.i16.wrap v) ++ be 4 num ++ be 2 (-1) ++ [by8 0]) ++ qab (IntKind.i16.wrap v) af).length) - 4:Nat):Int)) ++ ((([]:Bs) ++ [by8 0,by8 0,by8 0,by8 0] ++ be 2 59 ++ be 2 (IntKind.i16.wrap v) ++ be 4 num ++ be 2 (-1) ++ [by8 0]) ++ qab (IntKind.i16.wrap v) af).drop 4)⟩) rfl e9 (fun g' hg'=>.inl hg')
  have l3:=TT.ofW l0 bH
  refine ⟨fun _=>l3,?_⟩
  refine qaW kz ?_ _
  refine qaa (qat [(8,.v (.slice au (((([]:Bs) ++ [by8 0,by8 0,by8 0,by8 0] ++ be 2 59 ++ be 2 (IntKind.i16.wrap v) ++ be 4 num ++ be 2 (-1) ++ [by8 0]) ++ qab (IntKind.i16.wrap v) af).length) av))] bH lZ fun s0 l5=>?_)
  refine wp_ret (qaD l5 bH.cells (v:=.slice au (((([]:Bs) ++ [by8 0,by8 0,by8 0,by8 0] ++ be 2 59 ++ be 2 (IntKind.i16.wrap v) ++ be 4 num ++ be 2 (-1) ++ [by8 0]) ++ qab (IntKind.i16.wrap v) af).length) av) kz ?_)
  refine ⟨_,rfl,fun s4 l6=>?_⟩
  have l7:=(EnvOk.places (tb':=[aa,ab,ac,ae]) l6 (show Pl [aa,ab,ac,ae] [aa,ab,ac,ae] from ⟨rfl,rfl,⟨rfl,rfl,⟨rfl,rfl,⟨rfl,rfl,trivial⟩⟩⟩⟩)).pk (env':=[(19,.v (.slice au (((([]:Bs) ++ [by8 0,by8 0,by8 0,by8 0] ++ be 2 59 ++ be 2 (IntKind.i16.wrap v) ++ be 4 num ++ be 2 (-1) ++ [by8 0]) ++ qab (IntKind.i16.wrap v) af).length) av)),cG,aE,aW])
  refine qaj [4] [] [(6,.v (.slice au (((([]:Bs) ++ [by8 0,by8 0,by8 0,by8 0] ++ be 2 59 ++ be 2 (IntKind.i16.wrap v) ++ be 4 num ++ be 2 (-1) ++ [by8 0]) ++ qab (IntKind.i16.wrap v) af).length) av))] bH l7 fun s9 l9=>?_
  refine qae (qaa ?_)
  refine wp_ret (qaD l9 bH.cells (v:=.slice au (((([]:Bs) ++ [by8 0,by8 0,by8 0,by8 0] ++ be 2 59 ++ be 2 (IntKind.i16.wrap v) ++ be 4 num ++ be 2 (-1) ++ [by8 0]) ++ qab (IntKind.i16.wrap v) af).length) av) kz ?_)
  refine ⟨_,rfl,fun ta ma=>?_⟩
  have mc:=(EnvOk.places (tb':=[aa,ab,ac,ae]) ma (show Pl [aa,ab] [aa,ab,ac,ae] from ⟨rfl,rfl,⟨rfl,rfl,trivial⟩⟩)).pk (env':=[(25,.v (.slice au (((([]:Bs) ++ [by8 0,by8 0,by8 0,by8 0] ++ be 2 59 ++ be 2 (IntKind.i16.wrap v) ++ be 4 num ++ be 2 (-1) ++ [by8 0]) ++ qab (IntKind.i16.wrap v) af).length) av)),aZ,ba,bd])
  refine qaj [5,6] [] [(8,.v (.slice au (((([]:Bs) ++ [by8 0,by8 0,by8 0,by8 0] ++ be 2 59 ++ be 2 (IntKind.i16.wrap v) ++ be 4 num ++ be 2 (-1) ++ [by8 0]) ++ qab (IntKind.i16.wrap v) af).length) av)),bx] bH mc fun td md=>?_
  refine qae (qaa ?_)
  refine wp_ret (qaD md bH.cells (v:=.tuple #[.slice au (((([]:Bs) ++ [by8 0,by8 0,by8 0,by8 0] ++ be 2 59 ++ be 2 (IntKind.i16.wrap v) ++ be 4 num ++ be 2 (-1) ++ [by8 0]) ++ qab (IntKind.i16.wrap v) af).length) av,bz]) kz ?_)
  have me:be 4 (IntKind.i32.wrap (((((([]:Bs) ++ [by8 0,by8 0,by8 0,by8 0] ++ be 2 59 ++ be 2 (IntKind.i16.wrap v) ++ be 4 num ++ be 2 (-1) ++ [by8 0]) ++ qab (IntKind.i16.wrap v) af).length) - 4:Nat):Int)) ++ ((([]:Bs) ++ [by8 0,by8 0,by8 0,by8 0] ++ be 2 59 ++ be 2 (IntKind.i16.wrap v) ++ be 4 num ++ be 2 (-1) ++ [by8 0]) ++ qab (IntKind.i16.wrap v) af).drop 4 = (qbf 59 (IntKind.i16.wrap v) num has (sb txt) (decide ((IntKind.i16.wrap v) ≥ 0)) (qab (IntKind.i16.wrap v) af)):=qcS (R:=outB 59 (IntKind.i16.wrap v) num has (sb txt) (decide ((IntKind.i16.wrap v) ≥ 0)) (qab (IntKind.i16.wrap v) af)) (by simp [outB,qeC,qb4,bf,bW])
  exact qcT bH (k:=0) rfl (me.trans (by rw [bM])) (by simp only [List.length_append,List.length_cons,List.length_nil]; omega)
 have om:=of_decide_eq_false bW
 refine wp_skip (qaa (qad [0,1,2,3] kz ?_))
 refine qaj [0,1] [2,3] [cU,(50,.v (.slice aM ((([]:Bs) ++ [by8 0,by8 0,by8 0,by8 0] ++ be 2 59 ++ be 2 (IntKind.i16.wrap v) ++ be 4 num ++ be 2 (-1)).length) aN))] aI dP fun te mf=>?_
 have mg:=(qa4 _ ((((((((bu.trans bw).trans dr).trans dt).trans du).trans dw).trans dy).trans dA).trans dB).step immM ((((((((bu.trans bw).trans dr).trans dt).trans du).trans dw).trans dy).trans dA).trans dB).to' cQ)
 have fo:=aI.strImm (G:=F) 1 rfl
 have hk_:=qa4 _ (Step.refl _ Nil) nilM (fun b o h_ _=>qg6 h_) mg
 refine qam (qdc mf (t := 46) (v := (.pointer (some ⟨aC, 0, none⟩))) (v' := (.pointer (some ⟨aC, 0, none⟩))) (name := "AppendTo") (f := 96) (vs := [.slice aM ((([] : Bs) ++ [by8 0, by8 0, by8 0, by8 0] ++ be 2 59 ++ be 2 (IntKind.i16.wrap v) ++ be 4 num ++ be 2 (-1)).length) aN]) (d := 51) kz (fun _ => by kernel_rfl) Tryz.call96 (qb1 (IntKind.i16.wrap v) af aC 0 aM aN (([] : Bs) ++ [by8 0, by8 0, by8 0, by8 0] ++ be 2 59 ++ be 2 (IntKind.i16.wrap v) ++ be 4 num ++ be 2 (-1)) _ _ fo hk_ (qg4 0 rfl) (aI.own 0 _ rfl) (by first | omega | (simp only [List.length_append, List.length_cons, List.length_nil, be_length, qb4]; omega) | (simp; omega))) ?_)
 rintro e_ tf ⟨aw,ax,rfl,mh,fa,fb⟩
 refine ⟨_,rfl,fun tg mj=>?_⟩
 have fe:WOk _ _ _ _ [brow aw ax 5 ((([]:Bs) ++ [by8 0,by8 0,by8 0,by8 0] ++ be 2 59 ++ be 2 (IntKind.i16.wrap v) ++ be 4 num ++ be 2 (-1)) ++ qab (IntKind.i16.wrap v) af)]:=aI.grow (k:=0) rfl fa mh fb
 have oq:=Fr.grow [aa,ab,ac,ae] (k:=0) (rs:=[brow aM aN 5 (([]:Bs) ++ [by8 0,by8 0,by8 0,by8 0] ++ be 2 59 ++ be 2 (IntKind.i16.wrap v) ++ be 4 num ++ be 2 (-1))]) (r':=(brow aw ax 5 ((([]:Bs) ++ [by8 0,by8 0,by8 0,by8 0] ++ be 2 59 ++ be 2 (IntKind.i16.wrap v) ++ be 4 num ++ be 2 (-1)) ++ qab (IntKind.i16.wrap v) af))) rfl fa fb
 refine qaj [3] [] [(1,.v (.slice aw (((([]:Bs) ++ [by8 0,by8 0,by8 0,by8 0] ++ be 2 59 ++ be 2 (IntKind.i16.wrap v) ++ be 4 num ++ be 2 (-1)) ++ qab (IntKind.i16.wrap v) af).length) ax))] fe mj fun th ml=>?_
 refine qae (qaa ?_)
 refine qbu 7 kz fe fun tj ot dD b8=>?_
 refine qaY [0,2] [(1,.v (.slice aw (((([]:Bs) ++ [by8 0,by8 0,by8 0,by8 0] ++ be 2 59 ++ be 2 (IntKind.i16.wrap v) ++ be 4 num ++ be 2 (-1)) ++ qab (IntKind.i16.wrap v) af).length) ax)),(52,.v (.slice aw (((([]:Bs) ++ [by8 0,by8 0,by8 0,by8 0] ++ be 2 59 ++ be 2 (IntKind.i16.wrap v) ++ be 4 num ++ be 2 (-1)) ++ qab (IntKind.i16.wrap v) af).length) ax)),(54,.v (.slice aw (((([]:Bs) ++ [by8 0,by8 0,by8 0,by8 0] ++ be 2 59 ++ be 2 (IntKind.i16.wrap v) ++ be 4 num ++ be 2 (-1)) ++ qab (IntKind.i16.wrap v) af).length) ax))] 5 (qac qai) (fun _ h=>h.cells) b8 ml fun tm ff=>?_
 refine qfg (i:=1) (j:=3) kz ?_ ?_
 ·
  refine (qbL ff (t:=24) (A:=aw) (m:=((([]:Bs) ++ [by8 0,by8 0,by8 0,by8 0] ++ be 2 59 ++ be 2 (IntKind.i16.wrap v) ++ be 4 num ++ be 2 (-1)) ++ qab (IntKind.i16.wrap v) af).length) (cp:=ax) (q:=0) (d:=53) (j:=0) kz (e:=5) (size:=1) (bytes:=1) kz (rfl) (by omega) fun tp mn=>?_)
  refine ⟨fun _=>b8,?_⟩
  refine qaJ (i:=3) kz (qbE mn (t:=24) (A:=aw) (m:=(((([]:Bs) ++ [by8 0,by8 0,by8 0,by8 0] ++ be 2 59 ++ be 2 (IntKind.i16.wrap v) ++ be 4 num ++ be 2 (-1)) ++ qab (IntKind.i16.wrap v) af).length)) (cp:=ax) (q:=4) (d:=55) (j:=4) kz (e:=5) (bytes:=1) kz (rfl) (by first | omega | (simp only [List.length_append,List.length_cons,List.length_nil]; omega)) fun tq mo=>?_)
  refine ⟨fun _=>b8,?_⟩
  refine qaY [4,5] [(1,.v (.slice aw (((([]:Bs) ++ [by8 0,by8 0,by8 0,by8 0] ++ be 2 59 ++ be 2 (IntKind.i16.wrap v) ++ be 4 num ++ be 2 (-1)) ++ qab (IntKind.i16.wrap v) af).length) ax)),(53,.v (.slice aw 0 ax)),(57,.v (.int .i32 (IntKind.i32.wrap (((((([]:Bs) ++ [by8 0,by8 0,by8 0,by8 0] ++ be 2 59 ++ be 2 (IntKind.i16.wrap v) ++ be 4 num ++ be 2 (-1)) ++ qab (IntKind.i16.wrap v) af).length) - 4:Nat):Int))))] 1 (qac qai) (fun _ h=>h.cells) b8 mo fun tt mp=>?_
  refine qaJ (i:=6) kz (qal mp (f:=68) (vs:=[.slice aw 0 ax,.int .i32 (IntKind.i32.wrap (((((([]:Bs) ++ [by8 0,by8 0,by8 0,by8 0] ++ be 2 59 ++ be 2 (IntKind.i16.wrap v) ++ be 4 num ++ be 2 (-1)) ++ qab (IntKind.i16.wrap v) af).length) - 4:Nat):Int))]) (d:=58) kz Tryz.call68 (qbP (IntKind.i32.wrap (((((([]:Bs) ++ [by8 0,by8 0,by8 0,by8 0] ++ be 2 59 ++ be 2 (IntKind.i16.wrap v) ++ be 4 num ++ be 2 (-1)) ++ qab (IntKind.i16.wrap v) af).length) - 4:Nat):Int)) aw ax ((([]:Bs) ++ [by8 0,by8 0,by8 0,by8 0] ++ be 2 59 ++ be 2 (IntKind.i16.wrap v) ++ be 4 num ++ be 2 (-1)) ++ qab (IntKind.i16.wrap v) af) _ (dD.own 0 _ rfl) (by simp only [List.length_append,List.length_cons,List.length_nil]; omega)) ?_)
  rintro e_ tv ⟨rfl,mq,fg⟩
  refine ⟨_,rfl,fun tw mr=>?_⟩
  have bI:WOk _ _ _ _ (z6 aw ax v num af):=dD.grow (k:=0) (r':=⟨aw,ax,5,1,((([]:Bs) ++ [by8 0,by8 0,by8 0,by8 0] ++ be 2 59 ++ be 2 (IntKind.i16.wrap v) ++ be 4 num ++ be 2 (-1)) ++ qab (IntKind.i16.wrap v) af).length,bc (be 4 (IntKind.i32.wrap (((((([]:Bs) ++ [by8 0,by8 0,by8 0,by8 0] ++ be 2 59 ++ be 2 (IntKind.i16.wrap v) ++ be 4 num ++ be 2 (-1)) ++ qab (IntKind.i16.wrap v) af).length) - 4:Nat):Int)) ++ ((([]:Bs) ++ [by8 0,by8 0,by8 0,by8 0] ++ be 2 59 ++ be 2 (IntKind.i16.wrap v) ++ be 4 num ++ be 2 (-1)) ++ qab (IntKind.i16.wrap v) af).drop 4)⟩) rfl fg mq (fun g' hg'=>.inl hg')
  have mt:=Fr.grow [aa,ab,ac,ae] (k:=0) (rs:=[brow aw ax 5 ((([]:Bs) ++ [by8 0,by8 0,by8 0,by8 0] ++ be 2 59 ++ be 2 (IntKind.i16.wrap v) ++ be 4 num ++ be 2 (-1)) ++ qab (IntKind.i16.wrap v) af)]) (r':=⟨aw,ax,5,1,((([]:Bs) ++ [by8 0,by8 0,by8 0,by8 0] ++ be 2 59 ++ be 2 (IntKind.i16.wrap v) ++ be 4 num ++ be 2 (-1)) ++ qab (IntKind.i16.wrap v) af).length,bc (be 4 (IntKind.i32.wrap (((((([]:Bs) ++ [by8 0,by8 0,by8 0,by8 0] ++ be 2 59 ++ be 2 (IntKind.i16.wrap v) ++ be 4 num ++ be 2 (-1)) ++ qab (IntKind.i16.wrap v) af).length) - 4:Nat):Int)) ++ ((([]:Bs) ++ [by8 0,by8 0,by8 0,by8 0] ++ be 2 59 ++ be 2 (IntKind.i16.wrap v) ++ be 4 num ++ be 2 (-1)) ++ qab (IntKind.i16.wrap v) af).drop 4)⟩) rfl fg (fun g' hg'=>.inl hg')
  have mu:=TT.ofW mt bI
  refine ⟨fun _=>mu,?_⟩
  refine qaW kz ?_ _
  refine qaa (qat [(8,.v (.slice aw (((([]:Bs) ++ [by8 0,by8 0,by8 0,by8 0] ++ be 2 59 ++ be 2 (IntKind.i16.wrap v) ++ be 4 num ++ be 2 (-1)) ++ qab (IntKind.i16.wrap v) af).length) ax))] bI mr fun tx mw=>?_)
  refine wp_ret (qaD mw bI.cells (v:=.slice aw (((([]:Bs) ++ [by8 0,by8 0,by8 0,by8 0] ++ be 2 59 ++ be 2 (IntKind.i16.wrap v) ++ be 4 num ++ be 2 (-1)) ++ qab (IntKind.i16.wrap v) af).length) ax) kz ?_)
  refine ⟨_,rfl,fun tz mx=>?_⟩
  have my:=(EnvOk.places (tb':=[aa,ab,ac,ae]) mx (show Pl [aa,ab,ac,ae] [aa,ab,ac,ae] from ⟨rfl,rfl,⟨rfl,rfl,⟨rfl,rfl,⟨rfl,rfl,trivial⟩⟩⟩⟩)).pk (env':=[(19,.v (.slice aw (((([]:Bs) ++ [by8 0,by8 0,by8 0,by8 0] ++ be 2 59 ++ be 2 (IntKind.i16.wrap v) ++ be 4 num ++ be 2 (-1)) ++ qab (IntKind.i16.wrap v) af).length) ax)),cG,aE,aW])
  refine qaj [4] [] [(6,.v (.slice aw (((([]:Bs) ++ [by8 0,by8 0,by8 0,by8 0] ++ be 2 59 ++ be 2 (IntKind.i16.wrap v) ++ be 4 num ++ be 2 (-1)) ++ qab (IntKind.i16.wrap v) af).length) ax))] bI my fun tA mz=>?_
  refine qae (qaa ?_)
  refine wp_ret (qaD mz bI.cells (v:=.slice aw (((([]:Bs) ++ [by8 0,by8 0,by8 0,by8 0] ++ be 2 59 ++ be 2 (IntKind.i16.wrap v) ++ be 4 num ++ be 2 (-1)) ++ qab (IntKind.i16.wrap v) af).length) ax) kz ?_)
  refine ⟨_,rfl,fun tB mA=>?_⟩
  have mB:=(EnvOk.places (tb':=[aa,ab,ac,ae]) mA (show Pl [aa,ab] [aa,ab,ac,ae] from ⟨rfl,rfl,⟨rfl,rfl,trivial⟩⟩)).pk (env':=[(25,.v (.slice aw (((([]:Bs) ++ [by8 0,by8 0,by8 0,by8 0] ++ be 2 59 ++ be 2 (IntKind.i16.wrap v) ++ be 4 num ++ be 2 (-1)) ++ qab (IntKind.i16.wrap v) af).length) ax)),aZ,ba,bd])
  refine qaj [5,6] [] [(8,.v (.slice aw (((([]:Bs) ++ [by8 0,by8 0,by8 0,by8 0] ++ be 2 59 ++ be 2 (IntKind.i16.wrap v) ++ be 4 num ++ be 2 (-1)) ++ qab (IntKind.i16.wrap v) af).length) ax)),bx] bI mB fun tC mC=>?_
  refine qae (qaa ?_)
  refine wp_ret (qaD mC bI.cells (v:=.tuple #[.slice aw (((([]:Bs) ++ [by8 0,by8 0,by8 0,by8 0] ++ be 2 59 ++ be 2 (IntKind.i16.wrap v) ++ be 4 num ++ be 2 (-1)) ++ qab (IntKind.i16.wrap v) af).length) ax,bz]) kz ?_)
  have mD:be 4 (IntKind.i32.wrap (((((([]:Bs) ++ [by8 0,by8 0,by8 0,by8 0] ++ be 2 59 ++ be 2 (IntKind.i16.wrap v) ++ be 4 num ++ be 2 (-1)) ++ qab (IntKind.i16.wrap v) af).length) - 4:Nat):Int)) ++ ((([]:Bs) ++ [by8 0,by8 0,by8 0,by8 0] ++ be 2 59 ++ be 2 (IntKind.i16.wrap v) ++ be 4 num ++ be 2 (-1)) ++ qab (IntKind.i16.wrap v) af).drop 4 = (qbf 59 (IntKind.i16.wrap v) num has (sb txt) (decide ((IntKind.i16.wrap v) ≥ 0)) (qab (IntKind.i16.wrap v) af)):=qcS (R:=outB 59 (IntKind.i16.wrap v) num has (sb txt) (decide ((IntKind.i16.wrap v) ≥ 0)) (qab (IntKind.i16.wrap v) af)) (by simp [outB,qeC,qb4,bf,bW])
  exact qcT bI (k:=0) rfl (mD.trans (by rw [bM])) (by simp only [List.length_append,List.length_cons,List.length_nil]; omega)
 refine (qbE ff (t:=24) (A:=aw) (m:=(((([]:Bs) ++ [by8 0,by8 0,by8 0,by8 0] ++ be 2 59 ++ be 2 (IntKind.i16.wrap v) ++ be 4 num ++ be 2 (-1)) ++ qab (IntKind.i16.wrap v) af).length)) (cp:=ax) (q:=4) (d:=55) (j:=4) kz (e:=5) (bytes:=1) kz (rfl) (by first | omega | (simp only [List.length_append,List.length_cons,List.length_nil]; omega)) fun tD mF=>?_)
 refine ⟨fun _=>b8,?_⟩
 refine qaY [4,5] [(1,.v (.slice aw (((([]:Bs) ++ [by8 0,by8 0,by8 0,by8 0] ++ be 2 59 ++ be 2 (IntKind.i16.wrap v) ++ be 4 num ++ be 2 (-1)) ++ qab (IntKind.i16.wrap v) af).length) ax)),(52,.v (.slice aw (((([]:Bs) ++ [by8 0,by8 0,by8 0,by8 0] ++ be 2 59 ++ be 2 (IntKind.i16.wrap v) ++ be 4 num ++ be 2 (-1)) ++ qab (IntKind.i16.wrap v) af).length) ax)),(57,.v (.int .i32 (IntKind.i32.wrap (((((([]:Bs) ++ [by8 0,by8 0,by8 0,by8 0] ++ be 2 59 ++ be 2 (IntKind.i16.wrap v) ++ be 4 num ++ be 2 (-1)) ++ qab (IntKind.i16.wrap v) af).length) - 4:Nat):Int))))] 2 (qac qai) (fun _ h=>h.cells) b8 mF fun tE mG=>?_
 refine qaJ (i:=1) kz (qbL mG (t:=24) (A:=aw) (m:=((([]:Bs) ++ [by8 0,by8 0,by8 0,by8 0] ++ be 2 59 ++ be 2 (IntKind.i16.wrap v) ++ be 4 num ++ be 2 (-1)) ++ qab (IntKind.i16.wrap v) af).length) (cp:=ax) (q:=0) (d:=53) (j:=0) kz (e:=5) (size:=1) (bytes:=1) kz (rfl) (by omega) fun tF mH=>?_)
 refine ⟨fun _=>b8,?_⟩
 refine qaJ (i:=6) kz (qal mH (f:=68) (vs:=[.slice aw 0 ax,.int .i32 (IntKind.i32.wrap (((((([]:Bs) ++ [by8 0,by8 0,by8 0,by8 0] ++ be 2 59 ++ be 2 (IntKind.i16.wrap v) ++ be 4 num ++ be 2 (-1)) ++ qab (IntKind.i16.wrap v) af).length) - 4:Nat):Int))]) (d:=58) kz Tryz.call68 (qbP (IntKind.i32.wrap (((((([]:Bs) ++ [by8 0,by8 0,by8 0,by8 0] ++ be 2 59 ++ be 2 (IntKind.i16.wrap v) ++ be 4 num ++ be 2 (-1)) ++ qab (IntKind.i16.wrap v) af).length) - 4:Nat):Int)) aw ax ((([]:Bs) ++ [by8 0,by8 0,by8 0,by8 0] ++ be 2 59 ++ be 2 (IntKind.i16.wrap v) ++ be 4 num ++ be 2 (-1)) ++ qab (IntKind.i16.wrap v) af) _ (dD.own 0 _ rfl) (by simp only [List.length_append,List.length_cons,List.length_nil]; omega)) ?_)
 rintro e_ tG ⟨rfl,mI,fh⟩
 refine ⟨_,rfl,fun tH mJ=>?_⟩
 have bJ:WOk _ _ _ _ (z6 aw ax v num af):=dD.grow (k:=0) (r':=⟨aw,ax,5,1,((([]:Bs) ++ [by8 0,by8 0,by8 0,by8 0] ++ be 2 59 ++ be 2 (IntKind.i16.wrap v) ++ be 4 num ++ be 2 (-1)) ++ qab (IntKind.i16.wrap v) af).length,bc (be 4 (IntKind.i32.wrap (((((([]:Bs) ++ [by8 0,by8 0,by8 0,by8 0] ++ be 2 59 ++ be 2 (IntKind.i16.wrap v) ++ be 4 num ++ be 2 (-1)) ++ qab (IntKind.i16.wrap v) af).length) - 4:Nat):Int)) ++ ((([]:Bs) ++ [by8 0,by8 0,by8 0,by8 0] ++ be 2 59 ++ be 2 (IntKind.i16.wrap v) ++ be 4 num ++ be 2 (-1)) ++ qab (IntKind.i16.wrap v) af).drop 4)⟩) rfl fh mI (fun g' hg'=>.inl hg')
 have mK:=Fr.grow [aa,ab,ac,ae] (k:=0) (rs:=[brow aw ax 5 ((([]:Bs) ++ [by8 0,by8 0,by8 0,by8 0] ++ be 2 59 ++ be 2 (IntKind.i16.wrap v) ++ be 4 num ++ be 2 (-1)) ++ qab (IntKind.i16.wrap v) af)]) (r':=⟨aw,ax,5,1,((([]:Bs) ++ [by8 0,by8 0,by8 0,by8 0] ++ be 2 59 ++ be 2 (IntKind.i16.wrap v) ++ be 4 num ++ be 2 (-1)) ++ qab (IntKind.i16.wrap v) af).length,bc (be 4 (IntKind.i32.wrap (((((([]:Bs) ++ [by8 0,by8 0,by8 0,by8 0] ++ be 2 59 ++ be 2 (IntKind.i16.wrap v) ++ be 4 num ++ be 2 (-1)) ++ qab (IntKind.i16.wrap v) af).length) - 4:Nat):Int)) ++ ((([]:Bs) ++ [by8 0,by8 0,by8 0,by8 0] ++ be 2 59 ++ be 2 (IntKind.i16.wrap v) ++ be 4 num ++ be 2 (-1)) ++ qab (IntKind.i16.wrap v) af).drop 4)⟩) rfl fh (fun g' hg'=>.inl hg')
 have mL:=TT.ofW mK bJ
 refine ⟨fun _=>mL,?_⟩
 refine qaW kz ?_ _
 refine qaa (qat [(8,.v (.slice aw (((([]:Bs) ++ [by8 0,by8 0,by8 0,by8 0] ++ be 2 59 ++ be 2 (IntKind.i16.wrap v) ++ be 4 num ++ be 2 (-1)) ++ qab (IntKind.i16.wrap v) af).length) ax))] bJ mJ fun tI mM=>?_)
 refine wp_ret (qaD mM bJ.cells (v:=.slice aw (((([]:Bs) ++ [by8 0,by8 0,by8 0,by8 0] ++ be 2 59 ++ be 2 (IntKind.i16.wrap v) ++ be 4 num ++ be 2 (-1)) ++ qab (IntKind.i16.wrap v) af).length) ax) kz ?_)
 refine ⟨_,rfl,fun tJ mN=>?_⟩
 have mO:=(EnvOk.places (tb':=[aa,ab,ac,ae]) mN (show Pl [aa,ab,ac,ae] [aa,ab,ac,ae] from ⟨rfl,rfl,⟨rfl,rfl,⟨rfl,rfl,⟨rfl,rfl,trivial⟩⟩⟩⟩)).pk (env':=[(19,.v (.slice aw (((([]:Bs) ++ [by8 0,by8 0,by8 0,by8 0] ++ be 2 59 ++ be 2 (IntKind.i16.wrap v) ++ be 4 num ++ be 2 (-1)) ++ qab (IntKind.i16.wrap v) af).length) ax)),cG,aE,aW])
 refine qaj [4] [] [(6,.v (.slice aw (((([]:Bs) ++ [by8 0,by8 0,by8 0,by8 0] ++ be 2 59 ++ be 2 (IntKind.i16.wrap v) ++ be 4 num ++ be 2 (-1)) ++ qab (IntKind.i16.wrap v) af).length) ax))] bJ mO fun tK mQ=>?_
 refine qae (qaa ?_)
 refine wp_ret (qaD mQ bJ.cells (v:=.slice aw (((([]:Bs) ++ [by8 0,by8 0,by8 0,by8 0] ++ be 2 59 ++ be 2 (IntKind.i16.wrap v) ++ be 4 num ++ be 2 (-1)) ++ qab (IntKind.i16.wrap v) af).length) ax) kz ?_)
 refine ⟨_,rfl,fun tL mR=>?_⟩
 have mS:=(EnvOk.places (tb':=[aa,ab,ac,ae]) mR (show Pl [aa,ab] [aa,ab,ac,ae] from ⟨rfl,rfl,⟨rfl,rfl,trivial⟩⟩)).pk (env':=[(25,.v (.slice aw (((([]:Bs) ++ [by8 0,by8 0,by8 0,by8 0] ++ be 2 59 ++ be 2 (IntKind.i16.wrap v) ++ be 4 num ++ be 2 (-1)) ++ qab (IntKind.i16.wrap v) af).length) ax)),aZ,ba,bd])
 refine qaj [5,6] [] [(8,.v (.slice aw (((([]:Bs) ++ [by8 0,by8 0,by8 0,by8 0] ++ be 2 59 ++ be 2 (IntKind.i16.wrap v) ++ be 4 num ++ be 2 (-1)) ++ qab (IntKind.i16.wrap v) af).length) ax)),bx] bJ mS fun tM mT=>?_
 refine qae (qaa ?_)
 refine wp_ret (qaD mT bJ.cells (v:=.tuple #[.slice aw (((([]:Bs) ++ [by8 0,by8 0,by8 0,by8 0] ++ be 2 59 ++ be 2 (IntKind.i16.wrap v) ++ be 4 num ++ be 2 (-1)) ++ qab (IntKind.i16.wrap v) af).length) ax,bz]) kz ?_)
 have mU:be 4 (IntKind.i32.wrap (((((([]:Bs) ++ [by8 0,by8 0,by8 0,by8 0] ++ be 2 59 ++ be 2 (IntKind.i16.wrap v) ++ be 4 num ++ be 2 (-1)) ++ qab (IntKind.i16.wrap v) af).length) - 4:Nat):Int)) ++ ((([]:Bs) ++ [by8 0,by8 0,by8 0,by8 0] ++ be 2 59 ++ be 2 (IntKind.i16.wrap v) ++ be 4 num ++ be 2 (-1)) ++ qab (IntKind.i16.wrap v) af).drop 4 = (qbf 59 (IntKind.i16.wrap v) num has (sb txt) (decide ((IntKind.i16.wrap v) ≥ 0)) (qab (IntKind.i16.wrap v) af)):=qcS (R:=outB 59 (IntKind.i16.wrap v) num has (sb txt) (decide ((IntKind.i16.wrap v) ≥ 0)) (qab (IntKind.i16.wrap v) af)) (by simp [outB,qeC,qb4,bf,bW])
 exact qcT bJ (k:=0) rfl (mU.trans (by rw [bM])) (by simp only [List.length_append,List.length_cons,List.length_nil]; omega)
theorem qdI (has:Bool) (txt:ByteArray) (num v:Int) (T:Tree) (B:Bs) {A2:Option Addr} {c2:Nat} {w:World} {F:Nat → Nat → Prop} (hB:qak (IntKind.i16.wrap v) T = B) (hs_:Octs w F A2 c2 B) (hc:qbl T) (hkey:T.ranged) (htx:txt.size ≤ 32767) (hroom:txt.size + B.length + 64 ≤ 1099511627776) :
  Calls Tryz.prog 10 #[.agg #[.bool has,.string txt],.int .i32 num,.int .i64 v,.slice A2 B.length c2] w (fun e w'=>∃ A c,e = .returned (.tuple #[.slice A (qbf 59 (IntKind.i16.wrap v) num has (sb txt) (decide ((IntKind.i16.wrap v) ≥ 0)) B).length c,.bool true]) ∧ w'.ownsRow w.heap.size 5 1 (.slice A (qbf 59 (IntKind.i16.wrap v) num has (sb txt) (decide ((IntKind.i16.wrap v) ≥ 0)) B).length c) (qbf 59 (IntKind.i16.wrap v) num has (sb txt) (decide ((IntKind.i16.wrap v) ≥ 0)) B).length (bc (qbf 59 (IntKind.i16.wrap v) num has (sb txt) (decide ((IntKind.i16.wrap v) ≥ 0)) B)) ∧ Step w w' Nil):=by
 subst hB
 exact qdR has txt num v T hs_ hc hkey htx hroom
end Go.Proofs.YtoclgihkbmaolabGreatDoor.ME
namespace Go.Proofs.YtoclgihkbmaolabGreatDoor.ME
open Go
open Go.RowKit
set_option linter.unusedVariables false
set_option linter.unusedSimpArgs false
section
variable {P:Program} {ops:Array Oper} {Q:Exit → Act → World → Prop} {n:Nat} {tb:Tb} {env:Env} {rs:List Rw} {w0:World} {M:Nat → Nat → Prop} {a:Act} {w:World}
theorem qgz {i d:Nat} {src dst e:TypeId} {s:ByteArray} {N:Act → World → Prop} (hW:WOk w0 M w tb rs) (hE:EnvOk n tb env a) (hsm:s.size ≤ 1099511627776)
  (K:∀ b c a' w',Fr w tb rs w' tb rs → WOk w0 M w' tb rs → (∀ G,Octs w' (Imm G w0 w' tb rs) (some ⟨b,0,none⟩) c (sb s)) → EnvOk n tb ((d,.v (.slice (some ⟨b,0,none⟩) (sb s).length c)) :: env) a' → N a' w')
  (h:qlk tb env ops n i = some (src,dst,.string s,d):=by kernel_rfl) (hs:P.underlying src = some .string:=by kernel_rfl) (hd:P.underlying dst = some (.slice e):=by kernel_rfl) (he:P.underlying e = some (.int .u8):=by kernel_rfl):wpOp P ops Q i N a w:=by
 unfold qlk at h
 split at h
 ·rename_i src' dst' x d' hop
  split at h
  ·rename_i v hx
   simp only [Option.some.injEq,Prod.mk.injEq] at h
   obtain ⟨rfl,rfl,rfl,rfl⟩:=h
   have hdn:=(qbn hE hop).choose_spec.2.2.2.1
   have hrun:=Lib.run_convert_string_bytes (P:=P) w src' dst' e s hs hd he
   have hst:Step w (Lib.bytesWorld w e s) Nil:=⟨rfl,rfl,by rw [Lib.bytesWorld_size]; omega,fun b hb=>by rw [Lib.bytesWorld_at_old w e s b hb]; exact Keeps.refl _ _⟩
   have hlen:(sb s).length = s.size:=qd1 s
   have e1:=(qaT hE hx).1
   refine qa0 hE hop (v:=.slice (some ⟨w.heap.size,0,none⟩) (sb s).length (grownCap w s.size 0 e)) (w':=Lib.bytesWorld w e s) (fun o' ho'=>?_) (K w.heap.size _ _ _ (Fr.nil tb rs hst) (hW.next_nil hst) (fun G=>?_) (hE.put hdn (.v _) trivial))
   ·unfold execOp
    rw [ho']
    simp only [SV.val] at e1
    simp only [e1,Sem.run_bind,hrun,Result.andThen_ok,Sem.run_pure,hlen]
   refine ⟨by rw [hlen]; exact grownCap_ge w s.size 0 e,by rw [hlen]; exact hsm,fun h=>(by cases h),fun ad hA _=>?_⟩
   obtain rfl:=Option.some.inj hA
   refine ⟨w.heap.size,0,rfl,fun q hq=>⟨rfl,fun j v hj=>?_⟩⟩
   have hj0:j = 0:=by
    cases j with
    | zero=>rfl
    | succ j=>simp at hj
   subst hj0
   simp only [List.getElem?_cons_zero,Option.some.injEq] at hj
   subst hj
   have h2:(Lib.bytesWorld w e s).heap.size = w.heap.size + 1:=Lib.bytesWorld_size w e s
   refine ⟨⟨.inr hW.step.size,by rw [h2]; exact Nat.lt_succ_self _,fun ha=>?_⟩,?_⟩
   ·have:=hW.act_live ha
    exact absurd this (Nat.lt_irrefl _)
   rw [Nat.zero_add,Nat.mul_one,Nat.add_zero,Lib.bytesWorld_cell w e s q (by rw [← hlen]; exact hq)]
   rfl
  cases h
 cases h
end
end Go.Proofs.YtoclgihkbmaolabGreatDoor.ME