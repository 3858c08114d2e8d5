/- Packed. Own work. -/
import Derived.Test.YtipblegipibplaaGreatDoorWqP2
import Derived.Deep.LoopGhost
import Derived.Test.YtipblegipibplaaGreatDoorProg
namespace Go.Proofs.YtipblegipibplaaGreatDoor.ME
open Go
open Go.RowKit
set_option linter.unusedVariables false
set_option linter.unusedSimpArgs false
set_option maxRecDepth 20000
abbrev I1:=World → (Nat → Nat → Prop) → Prop
structure MvF (P:I1):Prop where
 move:∀ {w w':World} {F F' M:Nat → Nat → Prop},Step w w' M → (∀ b o,F b o → b < w.heap.size → ¬ M b o) → (∀ b o,F b o → b < w.heap.size → F' b o) → P w F → P w' F'
def Bx:I1:=fun _ _=>True
def L3 (P Q:I1):I1:=fun w F=>P w F ∧ Q w F
def Gr (p:Prop):I1:=fun _ _=>p
theorem MvF.no:MvF Bx:=⟨fun _ _ _ _=>trivial⟩
theorem MvF.and {P Q:I1} (h:MvF P) (h':MvF Q):MvF (L3 P Q):=⟨fun hs hM hF g=>⟨h.move hs hM hF g.1,h'.move hs hM hF g.2⟩⟩
theorem MvF.is (p:Prop):MvF (Gr p):=⟨fun _ _ _ g=>g⟩
theorem MvF.mono {P:I1} (h:MvF P) {w:World} {F F':Nat → Nat → Prop} (hF:∀ b o,F b o → b < w.heap.size → F' b o) (g:P w F):P w F':=h.move (Step.refl w B5) B0 hF g
def Be (A:Option Addr) (X:Bs):I1:=fun w F=>∀ ad,A = some ad → ∃ b o,ad = ⟨b,o,none⟩ ∧ AtF w F b o [.string (bs X)]
theorem MvF.text (A:Option Addr) (X:Bs):MvF (Be A X):=⟨fun hs hM hF g ad hA=>by
 obtain ⟨b,o,h1,h2⟩:=g ad hA
 exact ⟨b,o,h1,h2.move hs hM hF⟩⟩
def Em (A:Option Addr) (c:Nat) (X:Bs):I1:=fun w F=>Octs w F A c X
theorem MvF.octs (A:Option Addr) (c:Nat) (X:Bs):MvF (Em A c X):=⟨fun hs hM hF g=>Octs.move g hs hM hF⟩
def tagsM (m:Option Nat) (u:List (Int × Bs)):I1:=fun w F=>MapR w F m u ∧ (u = [] → m = none)
theorem MvF.tagsM (m:Option Nat) (u:List (Int × Bs)):MvF (tagsM m u):=⟨fun hs hM hF g=>⟨MapR.move g.1 hs hM hF,g.2⟩⟩
def Jp (b o:Nat) (cs:List Value):I1:=fun w F=>AtF w F b o cs
theorem MvF.at_ (b o:Nat) (cs:List Value):MvF (Jp b o cs):=⟨fun hs hM hF g=>AtF.move g hs hM hF⟩
abbrev rdo (br:Nat) (A:Option Addr) (m c:Nat):Ob:=⟨br,0,[.slice A m c,.bool false],true⟩
theorem MG {br:Nat} {A A':Option Addr} {m c m' c':Nat} {tb:Tb} {rs:List Rw} {b o:Nat} (h:G9 (rdo br A m c :: tb) rs b o):G9 (rdo br A' m' c' :: tb) rs b o:=by
 rcases h with ⟨i,ob,hi,h1⟩ | h
 ·cases i with
  | zero =>
   simp only [List.getElem?_cons_zero,Option.some.injEq] at hi
   subst hi
   exact .inl ⟨0,_,rfl,h1⟩
  | succ i=>exact .inl ⟨i + 1,ob,hi,h1⟩
 exact .inr h
theorem En {G:Nat → Nat → Prop} {w0 w:World} {br:Nat} {A A':Option Addr} {m c m' c':Nat} {tb:Tb} {rs:List Rw} {b o:Nat} (h:D4 G w0 w (rdo br A m c :: tb) rs b o):D4 G w0 w (rdo br A' m' c' :: tb) rs b o :=
 ⟨h.1,h.2.1,fun ha=>h.2.2 (MG ha)⟩
theorem EnvOk.rdo {n br:Nat} {A A':Option Addr} {m c m' c':Nat} {tb:Tb} {env:C8} {a:Act} (h:EnvOk n (rdo br A m c :: tb) env a):EnvOk n (rdo br A' m' c' :: tb) env a:=by
 refine h.table fun i hi=>?_
 cases i with
 | zero=>exact ⟨by simp,rfl,rfl⟩
 | succ i=>exact ⟨by simpa using hi,rfl,rfl⟩
structure RS (w0:World) (M F:Nat → Nat → Prop) (n br:Nat) (tb:Tb) (env:C8) (P:I1) (s:Bs) (a:Act) (w:World):Prop where
 mv:MvF P
 ex:∃ A m c,WOk w0 M w (rdo br A m c :: tb) [] ∧ RdS w (D4 F w0 w (rdo br none 0 0 :: tb) []) A m c s
 env_:EnvOk n (rdo br none 0 0 :: tb) env a
 fact:P w (D4 F w0 w (rdo br none 0 0 :: tb) [])
section
variable {Pr:Program} {ops opsA opsB opsC:Array Oper} {Q:Exit → Act → World → Prop} {w0:World} {M F:Nat → Nat → Prop} {n br:Nat} {tb:Tb} {env:C8} {P:I1} {s:Bs} {a:Act} {w:World}
theorem RS.mk' {A:Option Addr} {m c:Nat} (hW:WOk w0 M w (rdo br A m c :: tb) []) (hr:RdS w (D4 F w0 w (rdo br A m c :: tb) []) A m c s) (hE:EnvOk n (rdo br A m c :: tb) env a) (mv:MvF P) (hP:P w (D4 F w0 w (rdo br A m c :: tb) [])):RS w0 M F n br tb env P s a w :=
 ⟨mv,⟨A,m,c,hW,hr.move (Step.refl w B5) B0 fun b o h _=>En h⟩,hE.rdo,mv.mono (fun b o h _=>En h) hP⟩
theorem RS.open_ (h:RS w0 M F n br tb env P s a w):∃ A m c,WOk w0 M w (rdo br A m c :: tb) [] ∧ RdS w (D4 F w0 w (rdo br A m c :: tb) []) A m c s ∧ EnvOk n (rdo br A m c :: tb) env a ∧ P w (D4 F w0 w (rdo br A m c :: tb) []):=by
 obtain ⟨A,m,c,hW,hr⟩:=h.ex
 exact ⟨A,m,c,hW,hr.move (Step.refl w B5) B0 fun b o h _=>En h,h.env_.rdo,h.mv.mono (fun b o h _=>En h) h.fact⟩
theorem RS.cast {t:Bs} (h:RS w0 M F n br tb env P s a w) (e:s = t):RS w0 M F n br tb env P t a w:=e ▸ h
theorem RS.weak {P':I1} (h:RS w0 M F n br tb env P s a w) (mv:MvF P') (hP:∀ w F,P w F → P' w F):RS w0 M F n br tb env P' s a w:=⟨mv,h.ex,h.env_,hP _ _ h.fact⟩
theorem RS.pk {env':C8} (h:RS w0 M F n br tb env P s a w) (e:ME.pick env (L0 env') = some env':=by kernel_rfl):RS w0 M F n br tb env' P s a w:=⟨h.mv,h.ex,h.env_.pk e,h.fact⟩
theorem RS.envEq {env':C8} (h:RS w0 M F n br tb env P s a w) (e:env = env'):RS w0 M F n br tb env' P s a w:=e ▸ h
theorem RS.tbEq {tb':Tb} (h:RS w0 M F n br tb env P s a w) (e:tb = tb'):RS w0 M F n br tb' env P s a w:=e ▸ h
theorem RS.recast (h:RS w0 M F n br tb env P s a w) (k:Nat) (x y:SV) (hx:lk env k = some x) (hy:y.val (rdo br none 0 0 :: tb) = x.val (rdo br none 0 0 :: tb)) (ho:y.ok (rdo br none 0 0 :: tb)):RS w0 M F n br tb ((k,y) :: env) P s a w:=⟨h.mv,h.ex,h.env_.recast k x y hx hy ho,h.fact⟩
theorem L8 {L:List Nat} (idxs rest:List Nat) (env':C8) (h:RS w0 M F n br tb env P s a w) (k:∀ a',RS w0 M F n br tb env' P s a' w → wpOps Pr ops Q rest a' w) (e:∀ A m c,I3 Pr ops n (rdo br A m c :: tb) idxs (L0 env') env = some env':=by intro _ _ _; kernel_rfl) (hl:L = idxs ++ rest:=by rfl):wpOps Pr ops Q L a w:=by
 obtain ⟨A,m,c,hW,hr,hE,hP⟩:=h.open_
 exact F0 idxs rest (L0 env') hW hE (e A m c) hl fun a' hE'=>k a' (RS.mk' hW hr hE' h.mv hP)
theorem E5 {id:Nat} (env':C8) (h:RS w0 M F n br tb env P s a w) (k:∀ a',RS w0 M F n br tb env' P s a' w → Q .normal a' w) (e:∀ A m c,I3 Pr ops n (rdo br A m c :: tb) (List.range ops.size) (L0 env') env = some env':=by intro _ _ _; kernel_rfl):(Code.region id ops false).wp Pr Q a w :=
 D9 (List.range ops.size) rfl (L8 (List.range ops.size) [] env' h (fun a' h'=>B4 (k a' h')) e (List.append_nil _).symm)
theorem Jq {id:Nat} {y:Code} (env':C8) (h:RS w0 M F n br tb env P s a w) (k:∀ a',RS w0 M F n br tb env' P s a' w → y.wp Pr Q a' w) (e:∀ A m c,I3 Pr ops n (rdo br A m c :: tb) (List.range ops.size) (L0 env') env = some env':=by intro _ _ _; kernel_rfl):(Code.seq (.region id ops false) y).wp Pr Q a w :=
 wp_seq (E5 env' h (fun a' h'=>A7 (k a' h')) e)
def V7 (Pr:Program) (f:FuncId) {τ:Type} (X rest:Bs) (val:τ → Value) (fact:τ → I1):Prop :=
 ∀ {br:Nat} {A:Option Addr} {m c:Nat} {w:World} {F:Nat → Nat → Prop},Str w br [.slice A m c,.bool false] → RdS w F A m c (X ++ rest) → (∀ b o,F b o → ¬ H2 br b o) →
  Calls Pr f #[.pointer (some ⟨br,0,none⟩)] w (RdPost w br (Fp F w) rest fun v w'=>∃ x,v = val x ∧ fact x w' (Fp F w))
def T1 (Pr:Program) (f:FuncId) (X rest:Bs) (v0:Value):Prop :=
 ∀ {br:Nat} {A:Option Addr} {m c:Nat} {w:World} {F:Nat → Nat → Prop},Str w br [.slice A m c,.bool false] → RdS w F A m c (X ++ rest) → (∀ b o,F b o → ¬ H2 br b o) →
  Calls Pr f #[.pointer (some ⟨br,0,none⟩)] w (RdPost w br (Fp F w) rest fun v w'=>v = v0)
theorem RdPost.fp {w:World} {br:Nat} {F:Nat → Nat → Prop} {rest:Bs} {Q Q':Value → World → Prop} {e:Ending} {w':World} (hq:∀ v w',Q v w' → Q' v w') (h:RdPost w br F rest Q e w'):RdPost w br (Fp F w) rest Q' e w':=by
 obtain ⟨v,A',n',c',h1,h2,h3,h4,h5⟩:=h
 exact ⟨v,A',n',c',h1,h2,h3.move (Step.refl _ B5) B0 fun b o g _=>.inl g,h4,hq _ _ h5⟩
theorem RdPost.q {w:World} {br:Nat} {F:Nat → Nat → Prop} {rest:Bs} {Q Q':Value → World → Prop} {e:Ending} {w':World} (hq:∀ v w',Q v w' → Q' v w') (h:RdPost w br F rest Q e w'):RdPost w br F rest Q' e w':=by
 obtain ⟨v,A',n',c',h1,h2,h3,h4,h5⟩:=h
 exact ⟨v,A',n',c',h1,h2,h3,h4,hq _ _ h5⟩
theorem Eo {i d:Nat} {f:FuncId} {τ:Type} {X rest:Bs} {val:τ → Value} {fact:τ → I1} {N:Act → World → Prop} (h:RS w0 M F n br tb env P (X ++ rest) a w) (hc:V7 Pr f X rest val fact) (hm:∀ x,MvF (fact x))
  (hf:∀ args w,(callFunc f args).run Pr w = .ok (.enter f args) w) (K:∀ x P' a' w',(∀ w F,P' w F → P w F ∧ fact x w F) → RS w0 M F n br tb ((d,.v (val x)) :: env) P' rest a' w' → N a' w')
  (he:∀ A m c,O6 (rdo br A m c :: tb) env ops n i = some (f,[.pointer (some ⟨br,0,none⟩)],d):=by intro _ _ _; kernel_rfl):wpOp Pr ops Q i N a w:=by
 obtain ⟨A,m,c,hW,hr,hE,hP⟩:=h.open_
 refine C3 hE (he A m c) hf (hc (Str.of hW 0 rfl) hr (O7 0 rfl)) ?_
 rintro e_ w1 ⟨_,A1,n1,c1,rfl,hs,hr1,hst,x,rfl,hx⟩
 refine ⟨_,rfl,fun a1 hE1=>?_⟩
 obtain ⟨hW2,hF2,hL⟩:=hW.wrote 0 (rdo br A1 n1 c1 :: tb) rfl hst hs
 exact K x (L3 P (fact x)) a1 w1 (fun _ _ g=>g) (RS.mk' hW2 (hr1.move (Step.refl _ B5) B0 hL) hE1.rdo (h.mv.and (hm x)) ⟨h.mv.move hF2.step immM hF2.to' hP,(hm x).mono hL hx⟩)
theorem Jr {i d:Nat} {f:FuncId} {X rest:Bs} {v0:Value} {N:Act → World → Prop} (h:RS w0 M F n br tb env P (X ++ rest) a w) (hc:T1 Pr f X rest v0)
  (hf:∀ args w,(callFunc f args).run Pr w = .ok (.enter f args) w) (K:∀ a' w',RS w0 M F n br tb ((d,.v v0) :: env) P rest a' w' → N a' w')
  (he:∀ A m c,O6 (rdo br A m c :: tb) env ops n i = some (f,[.pointer (some ⟨br,0,none⟩)],d):=by intro _ _ _; kernel_rfl):wpOp Pr ops Q i N a w:=by
 obtain ⟨A,m,c,hW,hr,hE,hP⟩:=h.open_
 refine C3 hE (he A m c) hf (hc (Str.of hW 0 rfl) hr (O7 0 rfl)) ?_
 rintro e_ w1 ⟨_,A1,n1,c1,rfl,hs,hr1,hst,rfl⟩
 refine ⟨_,rfl,fun a1 hE1=>?_⟩
 obtain ⟨hW2,hF2,hL⟩:=hW.wrote 0 (rdo br A1 n1 c1 :: tb) rfl hst hs
 exact K a1 w1 (RS.mk' hW2 (hr1.move (Step.refl _ B5) B0 hL) hE1.rdo h.mv (h.mv.move hF2.step immM hF2.to' hP))
theorem Gs {i d:Nat} {f:FuncId} {v0:Value} {N:Act → World → Prop} (h:RS w0 M F n br tb env P s a w) (hc:∀ {br:Nat} {A:Option Addr} {m c:Nat} {w:World},Str w br [.slice A m c,.bool false] → Calls Pr f #[.pointer (some ⟨br,0,none⟩)] w (fun e w'=>e = .returned v0 ∧ w' = w))
  (hf:∀ args w,(callFunc f args).run Pr w = .ok (.enter f args) w) (K:∀ a',RS w0 M F n br tb ((d,.v v0) :: env) P s a' w → N a' w)
  (he:∀ A m c,O6 (rdo br A m c :: tb) env ops n i = some (f,[.pointer (some ⟨br,0,none⟩)],d):=by intro _ _ _; kernel_rfl):wpOp Pr ops Q i N a w:=by
 obtain ⟨A,m,c,hW,hr,hE,hP⟩:=h.open_
 refine C3 hE (he A m c) hf (hc (Str.of hW 0 rfl)) ?_
 rintro e_ _ ⟨rfl,rfl⟩
 exact ⟨_,rfl,fun a1 hE1=>K a1 (RS.mk' hW hr hE1 h.mv hP)⟩
theorem Dd {i:Nat} (tb':Tb) (j:Nat) {N:Act → World → Prop} (h:RS w0 M F n br tb env P s a w) (K:∀ w',RS w0 M F n br tb' env P s a w' → N a w')
  (he:∀ A m c,DB Pr (rdo br A m c :: tb) env ops i = some (j + 1,(D0 tb' j).cells):=by intro _ _ _; kernel_rfl) (ht:Tb.put tb j (D0 tb' j).cells = tb':=by rfl):wpOp Pr ops Q i N a w:=by
 obtain ⟨A,m,c,hW,hr,hE,hP⟩:=h.open_
 refine C7 hW hE (he A m c) fun w1 hF1 hW1 hE1=>K w1 ?_
 have e:Tb.put (rdo br A m c :: tb) (j + 1) (D0 tb' j).cells = rdo br A m c :: tb':=by
  show rdo br A m c :: Tb.put tb j (D0 tb' j).cells = _
  rw [ht]
 rw [e] at hF1 hW1 hE1
 exact RS.mk' hW1 (hr.move hF1.step immM hF1.to') hE1 h.mv (h.mv.move hF1.step immM hF1.to' hP)
theorem Js {k:Nat} (h:Nat.blt 0 k = true):List.range k = [0] ++ (List.range k).drop 1:=by
 cases k with
 | zero=>cases h
 | succ k=>rw [List.range_succ_eq_map]; rfl
theorem S5 {id d:Nat} {f:FuncId} {τ:Type} {X rest:Bs} {val:τ → Value} {fact:τ → I1} (env':τ → C8) (h:RS w0 M F n br tb env P (X ++ rest) a w) (hc:V7 Pr f X rest val fact) (hm:∀ x,MvF (fact x))
  (hf:∀ args w,(callFunc f args).run Pr w = .ok (.enter f args) w) (K:∀ x P' a' w',(∀ w F,P' w F → P w F ∧ fact x w F) → RS w0 M F n br tb (env' x) P' rest a' w' → Q .normal a' w')
  (he:∀ A m c,O6 (rdo br A m c :: tb) env ops n 0 = some (f,[.pointer (some ⟨br,0,none⟩)],d):=by intro _ _ _; kernel_rfl)
  (e:∀ x A m c,I3 Pr ops n (rdo br A m c :: tb) ((List.range ops.size).drop 1) (L0 (env' x)) ((d,.v (val x)) :: env) = some (env' x):=by intro _ _ _ _; kernel_rfl) (hs:Nat.blt 0 ops.size = true:=by kernel_rfl):(Code.region id ops false).wp Pr Q a w:=by
 refine D9 _ (Js hs) (B1 (Eo h hc hm hf (fun x P' a' w' hP hS=>?_) he))
 exact L8 ((List.range ops.size).drop 1) [] (env' x) hS (fun a2 h2=>B4 (K x P' a2 w' hP h2)) (e x) (List.append_nil _).symm
theorem V8 {id d:Nat} {f:FuncId} {X rest:Bs} {v0:Value} (env':C8) (h:RS w0 M F n br tb env P (X ++ rest) a w) (hc:T1 Pr f X rest v0)
  (hf:∀ args w,(callFunc f args).run Pr w = .ok (.enter f args) w) (K:∀ a' w',RS w0 M F n br tb env' P rest a' w' → Q .normal a' w')
  (he:∀ A m c,O6 (rdo br A m c :: tb) env ops n 0 = some (f,[.pointer (some ⟨br,0,none⟩)],d):=by intro _ _ _; kernel_rfl)
  (e:∀ A m c,I3 Pr ops n (rdo br A m c :: tb) ((List.range ops.size).drop 1) (L0 env') ((d,.v v0) :: env) = some env':=by intro _ _ _; kernel_rfl) (hs:Nat.blt 0 ops.size = true:=by kernel_rfl):(Code.region id ops false).wp Pr Q a w:=by
 refine D9 _ (Js hs) (B1 (Jr h hc hf (fun a' w' hS=>?_) he))
 exact L8 ((List.range ops.size).drop 1) [] env' hS (fun a2 h2=>B4 (K a2 w' h2)) e (List.append_nil _).symm
theorem Jt {idA idB idC d1 d2:Nat} {o:Operand} {b:Bool} {f1 f2:FuncId} {τ:Type} {X1 X2 rest:Bs} {val:τ → Value} {fact:τ → I1} (envA:C8) (env':τ → C8) (h:RS w0 M F n br tb env P ((if b = true then X1 else X2) ++ rest) a w)
  (hc1:V7 Pr f1 X1 rest val fact) (hf1:∀ args w,(callFunc f1 args).run Pr w = .ok (.enter f1 args) w) (hc2:V7 Pr f2 X2 rest val fact) (hf2:∀ args w,(callFunc f2 args).run Pr w = .ok (.enter f2 args) w) (hm:∀ x,MvF (fact x))
  (K:∀ x P' a' w',(∀ w F,P' w F → P w F ∧ fact x w F) → RS w0 M F n br tb (env' x) P' rest a' w' → Q .normal a' w')
  (eA:∀ A m c,I3 Pr opsA n (rdo br A m c :: tb) (List.range opsA.size) (L0 envA) env = some envA:=by intro _ _ _; kernel_rfl) (ho:E8 envA o = some (.v (.bool b)):=by kernel_rfl)
  (he1:∀ A m c,O6 (rdo br A m c :: tb) envA opsB n 0 = some (f1,[.pointer (some ⟨br,0,none⟩)],d1):=by intro _ _ _; kernel_rfl) (he2:∀ A m c,O6 (rdo br A m c :: tb) envA opsC n 0 = some (f2,[.pointer (some ⟨br,0,none⟩)],d2):=by intro _ _ _; kernel_rfl)
  (e1:∀ x A m c,I3 Pr opsB n (rdo br A m c :: tb) ((List.range opsB.size).drop 1) (L0 (env' x)) ((d1,.v (val x)) :: envA) = some (env' x):=by intro _ _ _ _; kernel_rfl) (e2:∀ x A m c,I3 Pr opsC n (rdo br A m c :: tb) ((List.range opsC.size).drop 1) (L0 (env' x)) ((d2,.v (val x)) :: envA) = some (env' x):=by intro _ _ _ _; kernel_rfl)
  (hs1:Nat.blt 0 opsB.size = true:=by kernel_rfl) (hs2:Nat.blt 0 opsC.size = true:=by kernel_rfl):(Code.seq (.region idA opsA false) (.cond o (.region idB opsB false) (.region idC opsC false))).wp Pr Q a w :=
 Jq envA h (fun a1 h1=>D8 h1.env_ ho (fun hb=>S5 env' (h1.cast (by rw [if_pos hb])) hc1 hm hf1 K he1 e1 hs1) (fun hb=>S5 env' (h1.cast (by rw [hb]; rfl)) hc2 hm hf2 K he2 e2 hs2)) eA
theorem Ep {idA idB idC d1 d2:Nat} {o:Operand} {b:Bool} {f1 f2:FuncId} {X1 X2 rest:Bs} {v0:Value} (envA env':C8) (h:RS w0 M F n br tb env P ((if b = true then X1 else X2) ++ rest) a w)
  (hc1:T1 Pr f1 X1 rest v0) (hf1:∀ args w,(callFunc f1 args).run Pr w = .ok (.enter f1 args) w) (hc2:T1 Pr f2 X2 rest v0) (hf2:∀ args w,(callFunc f2 args).run Pr w = .ok (.enter f2 args) w)
  (K:∀ a' w',RS w0 M F n br tb env' P rest a' w' → Q .normal a' w')
  (eA:∀ A m c,I3 Pr opsA n (rdo br A m c :: tb) (List.range opsA.size) (L0 envA) env = some envA:=by intro _ _ _; kernel_rfl) (ho:E8 envA o = some (.v (.bool b)):=by kernel_rfl)
  (he1:∀ A m c,O6 (rdo br A m c :: tb) envA opsB n 0 = some (f1,[.pointer (some ⟨br,0,none⟩)],d1):=by intro _ _ _; kernel_rfl) (he2:∀ A m c,O6 (rdo br A m c :: tb) envA opsC n 0 = some (f2,[.pointer (some ⟨br,0,none⟩)],d2):=by intro _ _ _; kernel_rfl)
  (e1:∀ A m c,I3 Pr opsB n (rdo br A m c :: tb) ((List.range opsB.size).drop 1) (L0 env') ((d1,.v v0) :: envA) = some env':=by intro _ _ _; kernel_rfl) (e2:∀ A m c,I3 Pr opsC n (rdo br A m c :: tb) ((List.range opsC.size).drop 1) (L0 env') ((d2,.v v0) :: envA) = some env':=by intro _ _ _; kernel_rfl)
  (hs1:Nat.blt 0 opsB.size = true:=by kernel_rfl) (hs2:Nat.blt 0 opsC.size = true:=by kernel_rfl):(Code.seq (.region idA opsA false) (.cond o (.region idB opsB false) (.region idC opsC false))).wp Pr Q a w :=
 Jq envA h (fun a1 h1=>D8 h1.env_ ho (fun hb=>V8 env' (h1.cast (by rw [if_pos hb])) hc1 hf1 K he1 e1 hs1) (fun hb=>V8 env' (h1.cast (by rw [hb]; rfl)) hc2 hf2 K he2 e2 hs2)) eA
def De (P:Program) (ops:Array Oper) (n:Nat) (tb:Tb) (env:C8) (keys:List Nat):Option (Nat × List Value × C8) :=
 match G8 P ops n tb (List.range (ops.size - 1)) env with
 | some e=>match DB P tb e ops (ops.size - 1),pick e keys with
  | some (i,cs),some e'=>some (i,cs,e')
  | _,_=>none
 | none=>none
theorem Q0 {id:Nat} (tb':Tb) (j:Nat) (env':C8) (h:RS w0 M F n br tb env P s a w) (K:∀ a' w',RS w0 M F n br tb' env' P s a' w' → Q .normal a' w')
  (he:∀ A m c,De Pr ops n (rdo br A m c :: tb) env (L0 env') = some (j + 1,(D0 tb' j).cells,env'):=by intro _ _ _; kernel_rfl) (ht:Tb.put tb j (D0 tb' j).cells = tb':=by rfl) (hs:Nat.blt 0 ops.size = true:=by kernel_rfl):(Code.region id ops false).wp Pr Q a w:=by
 obtain ⟨A,m,c,hW,hr,hE,hP⟩:=h.open_
 have h1:=he A m c
 unfold De at h1
 split at h1
 ·rename_i e he'
  split at h1
  ·rename_i i cs e' g1 g2
   simp only [Option.some.injEq,Prod.mk.injEq] at h1
   obtain ⟨rfl,rfl,rfl⟩:=h1
   have hr0:List.range ops.size = List.range (ops.size - 1) ++ [ops.size - 1]:=by
    have:0 < ops.size:=by simpa [Nat.blt_eq] using hs
    rw [← List.range_succ]; congr 1; omega
   refine D9 _ hr0 (R2 hW.cells hE he' fun a1 hE1=>B1 (C7 hW hE1 g1 fun w1 hF1 hW1 hE2=>B4 (K a1 w1 ?_)))
   have e:Tb.put (rdo br A m c :: tb) (j + 1) (D0 tb' j).cells = rdo br A m c :: tb':=by
    show rdo br A m c :: Tb.put tb j (D0 tb' j).cells = _
    rw [ht]
   rw [e] at hF1 hW1 hE2
   exact RS.mk' hW1 (hr.move hF1.step immM hF1.to') (hE2.pick g2) h.mv (h.mv.move hF1.step immM hF1.to' hP)
  cases h1
 cases h1
theorem Gt {A0:Option Addr} {i d j:Nat} {t tn e:TypeId} {size bytes:Nat} {k kn:IntKind} {q:Int} (z:Value) {N:Act → World → Prop} (h:RS w0 M F n br tb env P s a w)
  (K:∀ g c a' w',w0.heap.size ≤ g → j ≤ c → RS w0 M F n br (tb ++ [⟨g,0,P3 z j,true⟩]) ((d,.v (.slice (some ⟨g,0,none⟩) j c)) :: env) P s a' w' → N a' w')
  (hq:q = (j:Int)) (hj:0 < j) (hb:j * bytes ≤ 140737488355328)
  (he:∀ A m c,M4 (rdo br A m c :: tb) env ops n i = some (t,tn,.slice A0 0 0,.int k q,d):=by intro _ _ _; kernel_rfl) (ht:L4 Pr t = some (e,size,bytes):=by kernel_rfl) (htn:Pr.underlying tn = some (.int kn):=by kernel_rfl) (hz:(Pr.info? e).bind (·.zero) = some z:=by kernel_rfl):wpOp Pr ops Q i N a w:=by
 obtain ⟨A,m,c,hW,hr,hE,hP⟩:=h.open_
 refine LW hW hE (he A m c) ht htn hz hq hj hb fun g c1 a1 w1 hg hg0 hF1 hW1 hE1=>?_
 have hP1:=h.mv.move hF1.step immM hF1.to' hP
 have hr1:=hr.move hF1.step immM hF1.to'
 have hcap:j ≤ c1:=by
  obtain ⟨A',c',hv,_,_,h4⟩:=DC (hW1.own 0 _ rfl)
  simp only [Rw.v,Value.slice.injEq,true_and] at hv
  rw [hv.2]; exact h4
 obtain ⟨hW2,hF2⟩:=hW1.layRowM (k:=0) rfl rfl hg0 [] (rdo br A m c :: (tb ++ [⟨g,0,P3 z j,true⟩])) rfl rfl
 exact K g c1 a1 w1 hg0 hcap (RS.mk' hW2 (hr1.move hF2.step immM hF2.to') (hE1.grow ⟨g,0,P3 z j,true⟩) h.mv (h.mv.move hF2.step immM hF2.to' hP1))
end
def By:C8 → C8
 | []=>[]
 | (k,.v x) :: r=>(k,.v x) :: By r
 | (k,.p i j) :: r=>(k,.p (match i with | 0=>1 | 1=>0 | i=>i) j) :: By r
theorem MH {n:Nat} {o1 o2:Ob} {env:C8} {a:Act} (h:EnvOk n [o1,o2] env a):EnvOk n [o2,o1] (By env) a:=by
 have key:∀ (env:C8) (k:Nat) (x:SV),lk (By env) k = some x → ∃ y,lk env k = some y ∧ (y.ok [o1,o2] → x.val [o2,o1] = y.val [o1,o2] ∧ x.ok [o2,o1]):=by
  intro env
  induction env with
  | nil=>intro k x hx; cases hx
  | cons e r ih =>
   obtain ⟨k',sv⟩:=e
   intro k x hx
   cases sv with
   | v y =>
    simp only [By,lk] at hx ⊢
    split at hx
    ·rename_i hb
     simp only [Option.some.injEq] at hx
     subst hx
     exact ⟨_,rfl,fun _=>⟨rfl,trivial⟩⟩
    exact ih k x hx
   | p i j =>
    simp only [By,lk] at hx ⊢
    split at hx
    ·rename_i hb
     simp only [Option.some.injEq] at hx
     subst hx
     refine ⟨_,rfl,fun hok=>?_⟩
     have hok':i < 2:=hok
     match i,hok' with
     | 0,_=>exact ⟨rfl,show 1 < 2 by omega⟩
     | 1,_=>exact ⟨rfl,show 0 < 2 by omega⟩
    exact ih k x hx
 refine ⟨h.defers,h.size,fun k x hx=>?_⟩
 obtain ⟨y,hy,hv⟩:=key env k x hx
 obtain ⟨h1,h2⟩:=h.at_ k y hy
 obtain ⟨h3,h4⟩:=hv h2
 exact ⟨by rw [h3]; exact h1,h4⟩
theorem Bf {α:Type} {x y o:α} {i:Nat} (h:[y,x][i]? = some o):[x,y][1 - i]? = some o ∧ i < 2:=by
 match i,h with
 | 0,h=>exact ⟨h,by omega⟩
 | 1,h=>exact ⟨h,by omega⟩
 | i + 2,h=>simp at h
theorem WOk.swap2 {w0 w:World} {M:Nat → Nat → Prop} {o1 o2:Ob} (h:WOk w0 M w [o1,o2] []):WOk w0 M w [o2,o1] [] :=
 ⟨h.step,fun i o hi=>h.cells _ o (Bf hi).1,fun i o hi=>h.live _ o (Bf hi).1,fun i o hi=>h.rw_ _ o (Bf hi).1,fun i j o o' hij hi hj hw=>h.apart _ _ o o' (by have:=(Bf hi).2; have:=(Bf hj).2; omega) (Bf hi).1 (Bf hj).1 hw,h.own,h.ownM,fun i r hi=>by simp at hi,h.rr⟩
theorem MI {o1 o2:Ob} {b o:Nat} (h:G9 [o2,o1] [] b o):G9 [o1,o2] [] b o:=by
 rcases h with ⟨i,ob,hi,h1⟩ | ⟨i,r,hi,_⟩
 ·exact .inl ⟨_,ob,(Bf hi).1,h1⟩
 simp at hi
theorem RS.start {w0 w:World} {M F:Nat → Nat → Prop} {n br c:Nat} {A:Option Addr} {o1:Ob} {env:C8} {s:Bs} {a:Act} (hW:WOk w0 M w [o1,rdo br A s.length c] []) (hE:EnvOk n [o1,rdo br A s.length c] env a) (ho:Octs w (D4 F w0 w [o1,rdo br A s.length c] []) A c s) (env':C8) (he:pick (By env) (L0 env') = some env':=by kernel_rfl):RS w0 M F n br [o1] env' Bx s a w :=
 RS.mk' hW.swap2 ⟨rfl,ho.move (Step.refl w B5) B0 fun b o h _=>⟨h.1,h.2.1,fun ha=>h.2.2 (MI ha)⟩⟩ ((MH hE).pick he) MvF.no trivial
theorem Bz {α:Type} {l:List α} {x y o:α} {i:Nat} (h:(l ++ [x,y])[i]? = some o):(i < l.length ∧ l[i]? = some o) ∨ (i = l.length ∧ o = x) ∨ (i = l.length + 1 ∧ o = y):=by
 rcases Nat.lt_or_ge i l.length with hl | hl
 ·rw [List.getElem?_append_left hl] at h; exact .inl ⟨hl,h⟩
 rw [List.getElem?_append_right hl] at h
 rcases hk:i - l.length with _ | _ | k
 ·rw [hk] at h; exact .inr (.inl ⟨by omega,(Option.some.inj h).symm⟩)
 ·rw [hk] at h; exact .inr (.inr ⟨by omega,(Option.some.inj h).symm⟩)
 rw [hk] at h; simp at h
theorem Er {α:Type} {l:List α} {x:α}:(l ++ [x])[l.length]? = some x:=by simp
section
variable {w0 w:World} {M:Nat → Nat → Prop} {tb:Tb} {rs:List Rw}
theorem WOk.splitL {b o o2:Nat} {cs1 cs2:List Value} (hW:WOk w0 M w (tb ++ [⟨b,o,cs1 ++ cs2,true⟩]) rs) (ho:o2 = o + cs1.length) :
  WOk w0 M w (tb ++ [⟨b,o2,cs2,true⟩,⟨b,o,cs1,true⟩]) rs ∧ Fr w (tb ++ [⟨b,o,cs1 ++ cs2,true⟩]) rs w (tb ++ [⟨b,o2,cs2,true⟩,⟨b,o,cs1,true⟩]) rs:=by
 subst ho
 have hi:(tb ++ [(⟨b,o,cs1 ++ cs2,true⟩:Ob)])[tb.length]? = some ⟨b,o,cs1 ++ cs2,true⟩:=Er
 have old:∀ {j:Nat} {q:Ob},j < tb.length → tb[j]? = some q → (tb ++ [(⟨b,o,cs1 ++ cs2,true⟩:Ob)])[j]? = some q:=fun {j q} hj h=>by rw [List.getElem?_append_left hj]; exact h
 have hlen:(cs1 ++ cs2).length = cs1.length + cs2.length:=List.length_append
 have act:∀ x y,G9 (tb ++ [⟨b,o + cs1.length,cs2,true⟩,⟨b,o,cs1,true⟩]) rs x y → G9 (tb ++ [⟨b,o,cs1 ++ cs2,true⟩]) rs x y:=fun x y ha=>by
  rcases ha with ⟨j,q,hj,h1,h2,h3,h4⟩ | ha
  ·rcases Bz hj with ⟨hlt,hj⟩ | ⟨rfl,rfl⟩ | ⟨rfl,rfl⟩
   ·exact .inl ⟨j,q,old hlt hj,h1,h2,h3,h4⟩
   ·exact .inl ⟨_,_,hi,rfl,h2,by dsimp only at h3 ⊢; omega,by dsimp only at h4 ⊢; omega⟩
   exact .inl ⟨_,_,hi,rfl,h2,by dsimp only at h3 ⊢; omega,by dsimp only at h4 ⊢; omega⟩
  exact .inr ha
 refine ⟨⟨hW.step,?_,?_,?_,?_,hW.own,hW.ownM,?_,hW.rr⟩,⟨fun x y _ hn ha=>hn (act x y ha),Step.refl _ _⟩⟩
 ·intro j q hj p v hv
  rcases Bz hj with ⟨hlt,hj⟩ | ⟨rfl,rfl⟩ | ⟨rfl,rfl⟩
  ·exact hW.cells j q (old hlt hj) p v hv
  ·have:=hW.cells _ _ hi (cs1.length + p) v (by dsimp only at hv ⊢; rw [List.getElem?_append_right (by omega),Nat.add_sub_cancel_left]; exact hv)
   dsimp only at this ⊢
   rwa [Nat.add_assoc]
  exact hW.cells _ _ hi p v (by dsimp only at hv ⊢; rw [List.getElem?_append_left (List.getElem?_eq_some_iff.1 hv).1]; exact hv)
 ·intro j q hj
  rcases Bz hj with ⟨hlt,hj⟩ | ⟨rfl,rfl⟩ | ⟨rfl,rfl⟩
  ·exact hW.live j q (old hlt hj)
  ·have:=hW.live _ _ hi; exact this
  have:=hW.live _ _ hi; exact this
 ·intro j q hj hr p hp
  rcases Bz hj with ⟨hlt,hj⟩ | ⟨rfl,rfl⟩ | ⟨rfl,rfl⟩
  ·exact hW.rw_ j q (old hlt hj) hr p hp
  ·have:=hW.rw_ _ _ hi rfl (cs1.length + p) (by dsimp only at hp ⊢; omega)
   dsimp only at this ⊢
   rwa [Nat.add_assoc]
  exact hW.rw_ _ _ hi rfl p (by dsimp only at hp ⊢; omega)
 ·intro j k q q' hjk hj hk hw
  rcases Bz hj with ⟨hlj,hj⟩ | ⟨rfl,rfl⟩ | ⟨rfl,rfl⟩ <;> rcases Bz hk with ⟨hlk,hk⟩ | ⟨rfl,rfl⟩ | ⟨rfl,rfl⟩
  ·exact hW.apart j k q q' hjk (old hlj hj) (old hlk hk) hw
  ·have:=hW.apart j _ q _ (by omega) (old hlj hj) hi (.inr rfl)
   dsimp only at this ⊢; omega
  ·have:=hW.apart j _ q _ (by omega) (old hlj hj) hi (.inr rfl)
   dsimp only at this ⊢; omega
  ·have:=hW.apart _ k _ q' (by omega) hi (old hlk hk) (.inl rfl)
   dsimp only at this ⊢; omega
  ·exact absurd rfl hjk
  ·exact .inr (.inr (Nat.le_refl _))
  ·have:=hW.apart _ k _ q' (by omega) hi (old hlk hk) (.inl rfl)
   dsimp only at this ⊢; omega
  ·exact .inr (.inl (Nat.le_refl _))
  exact absurd rfl hjk
 intro j r hj g hg k q hk
 rcases Bz hk with ⟨hlk,hk⟩ | ⟨rfl,rfl⟩ | ⟨rfl,rfl⟩
 ·exact hW.rtb j r hj g hg k q (old hlk hk)
 ·have:=hW.rtb j r hj g hg _ _ hi; exact this
 have:=hW.rtb j r hj g hg _ _ hi; exact this
theorem WOk.atLast {G:Nat → Nat → Prop} {b o:Nat} {cs:List Value} (hW:WOk w0 M w (tb ++ [⟨b,o,cs,true⟩]) []) (hb:w0.heap.size ≤ b):AtF w (D4 G w0 w tb []) b o cs:=fun j v hj=>by
 have hlt:j < cs.length:=(List.getElem?_eq_some_iff.1 hj).1
 refine ⟨⟨.inr hb,?_,fun ha=>?_⟩,?_⟩
 ·have:=hW.live _ _ Er; exact this
 ·rcases ha with ⟨i,q,hi,hr,h2,h3,h4⟩ | ⟨i,r,hi,_⟩
  ·have hil:i < tb.length:=(List.getElem?_eq_some_iff.1 hi).1
   have:=hW.apart i _ q _ (by omega) (by rw [List.getElem?_append_left hil]; exact hi) Er (.inr rfl)
   dsimp only at this; omega
  simp at hi
 have:=hW.cells _ _ Er j v hj; exact this
end
def U1 (g size:Nat) (cl:DV → List Value) (ok:World → (Nat → Nat → Prop) → DV → Prop) (rel:DV → Tree → Prop) (L:List Tree) (k:Nat):I1:=fun w F=>∃ ds:Nat → DV,∀ i,i < k → (cl (ds i)).length = size ∧ AtF w F g (0 + i * size) (cl (ds i)) ∧ ok w F (ds i) ∧ rel (ds i) (L.getD i .zero)
theorem MvF.done {g size:Nat} {cl:DV → List Value} {ok:World → (Nat → Nat → Prop) → DV → Prop} {rel:DV → Tree → Prop} {L:List Tree} {k:Nat} (mv:O1 ok):MvF (U1 g size cl ok rel L k):=⟨fun hs hM hF h=>by
 obtain ⟨ds,h⟩:=h
 refine ⟨ds,fun i hi=>?_⟩
 obtain ⟨h1,h2,h3,h4⟩:=h i hi
 exact ⟨h1,h2.move hs hM hF,mv _ hs hM hF h3,h4⟩⟩
abbrev J5 (g size:Nat) (z:Value) (l k:Nat):Ob:=⟨g,k * size,P3 z (l - k),true⟩
def Y4 (size:Nat) (cl:DV → List Value) (ok:World → (Nat → Nat → Prop) → DV → Prop) (rel:DV → Tree → Prop) (A:Option Addr) (c:Nat) (L:List Tree) (f:Nat → DV):I1:=fun w F=>Slots w F size A c L.length (fun i=>cl (f i)) ∧ (∀ i,i < L.length → ok w F (f i)) ∧ ∀ i,i < L.length → rel (f i) (L.getD i .zero)
theorem MvF.lst {size:Nat} {cl:DV → List Value} {ok:World → (Nat → Nat → Prop) → DV → Prop} {rel:DV → Tree → Prop} {A:Option Addr} {c:Nat} {L:List Tree} {f:Nat → DV} (mv:O1 ok):MvF (Y4 size cl ok rel A c L f):=⟨fun hs hM hF h =>
 ⟨h.1.move hs hM hF,fun i hi=>mv _ hs hM hF (h.2.1 i hi),h.2.2⟩⟩
section
variable {Pr:Program} {ops:Array Oper} {Q:Exit → Act → World → Prop} {w0:World} {M F:Nat → Nat → Prop} {n br:Nat} {tb:Tb} {env:C8} {P:I1} {s:Bs} {a:Act} {w:World}
 {g size:Nat} {cl:DV → List Value} {ok:World → (Nat → Nat → Prop) → DV → Prop} {rel:DV → Tree → Prop} {L:List Tree} {z:Value}
theorem RS.pull {ι:Type} {Qf:ι → I1} (h:RS w0 M F n br tb env (L3 P (fun w F=>∃ x,Qf x w F)) s a w) (mP:MvF P) (mv:∀ x,MvF (Qf x)):∃ x,RS w0 M F n br tb env (L3 P (Qf x)) s a w:=by
 obtain ⟨h1,x,hx⟩:=h.fact
 exact ⟨x,mP.and (mv x),h.ex,h.env_,h1,hx⟩
theorem RS.drop {b o:Nat} {cs:List Value} (h:RS w0 M F n br (tb ++ [⟨b,o,cs,true⟩]) env P s a w) (hb:w0.heap.size ≤ b) (hl:Q8 (tb.length + 1) env = true):RS w0 M F n br tb env (L3 P (Jp b o cs)) s a w:=by
 obtain ⟨A,m,c,hW,hr,hE,hP⟩:=h.open_
 have hW':WOk w0 M w ((rdo br A m c :: tb) ++ [⟨b,o,cs,true⟩]) []:=hW
 have h1:=hW'.cutTb (tb.length + 1)
 have hF:=Fr.cutTb w ((rdo br A m c :: tb) ++ [⟨b,o,cs,true⟩]) [] (tb.length + 1)
 have e:((rdo br A m c :: tb) ++ [(⟨b,o,cs,true⟩:Ob)]).take (tb.length + 1) = rdo br A m c :: tb:=by
  show List.take ((rdo br A m c :: tb).length) _ = _
  exact List.take_left
 have hE1:=hE.cutTb (tb.length + 1) hl
 have e2:(rdo br A m c :: (tb ++ [(⟨b,o,cs,true⟩:Ob)])).take (tb.length + 1) = rdo br A m c :: tb:=e
 rw [e] at h1 hF
 rw [e2] at hE1
 exact RS.mk' h1 (hr.move hF.step immM hF.to') hE1 (h.mv.and (MvF.at_ _ _ _)) ⟨h.mv.move hF.step immM hF.to' hP,hW'.atLast hb⟩
theorem RS.next {l k:Nat} (h:RS w0 M F n br (tb ++ [J5 g size z l k]) env P s a w) (hk:k < l) (hz:z.cells.size = size) (hl:Q8 (tb.length + 1) env = true):RS w0 M F n br (tb ++ [J5 g size z l (k + 1),⟨g,k * size,z.cells.toList,true⟩]) env P s a w:=by
 obtain ⟨A,m,c,hW,hr,hE,hP⟩:=h.open_
 have e:P3 z (l - k) = z.cells.toList ++ P3 z (l - (k + 1)):=by rw [show l - k = (l - (k + 1)) + 1 by omega,LX]
 have hW':WOk w0 M w ((rdo br A m c :: tb) ++ [⟨g,k * size,z.cells.toList ++ P3 z (l - (k + 1)),true⟩]) []:=by rw [← e]; exact hW
 obtain ⟨h1,hF⟩:=hW'.splitL (o2:=(k + 1) * size) (by rw [Array.length_toList,hz,Nat.add_mul,Nat.one_mul])
 rw [← e] at hF
 have hE1:=hE.cutTb (tb.length + 1) hl
 have e2:(rdo br A m c :: (tb ++ [J5 g size z l k])).take (tb.length + 1) = rdo br A m c :: tb:=by
  show List.take ((rdo br A m c :: tb).length) ((rdo br A m c :: tb) ++ _) = _
  exact List.take_left
 rw [e2] at hE1
 have hE2:=(hE1.grow (J5 g size z l (k + 1))).grow ⟨g,k * size,z.cells.toList,true⟩
 have e3:((rdo br A m c :: tb) ++ [J5 g size z l (k + 1)]) ++ [(⟨g,k * size,z.cells.toList,true⟩:Ob)] = rdo br A m c :: (tb ++ [J5 g size z l (k + 1),⟨g,k * size,z.cells.toList,true⟩]):=by simp
 rw [e3] at hE2
 exact RS.mk' h1 (hr.move hF.step immM hF.to') hE2 h.mv (h.mv.move hF.step immM hF.to' hP)
theorem RS.thing {k:Nat} {D:DV} {X:I1} (h:RS w0 M F n br (tb ++ [J5 g size z L.length (k + 1),⟨g,k * size,cl D,true⟩]) env X s a w) (hg:w0.heap.size ≤ g) {t:Tree} (ht:L[k]? = some t) (mv:O1 ok) (mP:MvF P) (hcl:(cl D).length = size)
  (hx:∀ w F,X w F → P w F ∧ U1 g size cl ok rel L k w F ∧ ok w F D ∧ rel D t) (hl:Q8 (tb.length + 2) env = true):RS w0 M F n br (tb ++ [J5 g size z L.length (k + 1)]) env (L3 P (U1 g size cl ok rel L (k + 1))) s a w:=by
 have h':RS w0 M F n br ((tb ++ [J5 g size z L.length (k + 1)]) ++ [⟨g,k * size,cl D,true⟩]) env X s a w:=by
  rw [List.append_assoc]; exact h
 refine (h'.drop hg (by simpa using hl)).weak (mP.and (MvF.done mv)) fun w F hf=>?_
 obtain ⟨hf,hat⟩:=hf
 obtain ⟨h1,⟨ds,h2⟩,h3,h4⟩:=hx w F hf
 refine ⟨h1,fun i=>if i = k then D else ds i,fun i hi=>?_⟩
 by_cases hik:i = k
 ·subst hik
  simp only [if_true]
  exact ⟨hcl,by rw [Nat.zero_add]; exact hat,h3,by rw [List.getD_eq_getElem?_getD,ht]; exact h4⟩
 simp only [if_neg hik]
 exact h2 i (by omega)
theorem RS.listEnd {c:Nat} (h:RS w0 M F n br (tb ++ [J5 g size z L.length L.length]) env (L3 P (U1 g size cl ok rel L L.length)) s a w) (hg:w0.heap.size ≤ g) (mv:O1 ok) (mP:MvF P) (hc:L.length ≤ c) (hsm:L.length ≤ 1099511627776) (h0:0 < L.length)
  (hl:Q8 (tb.length + 1) env = true):∃ f:Nat → DV,RS w0 M F n br tb env (L3 P (Y4 size cl ok rel (some ⟨g,0,none⟩) c L f)) s a w:=by
 have mE:MvF (fun w F=>∃ f:Nat → DV,Y4 size cl ok rel (some ⟨g,0,none⟩) c L f w F):=⟨fun hs hM hF hx=>by
  obtain ⟨f,hx⟩:=hx
  exact ⟨f,(MvF.lst mv).move hs hM hF hx⟩⟩
 refine RS.pull (Qf:=fun f=>Y4 size cl ok rel (some ⟨g,0,none⟩) c L f) ((h.drop hg hl).weak (mP.and mE) fun w F hf=>?_) mP fun f=>MvF.lst mv
 obtain ⟨⟨h1,ds,h2⟩,_⟩:=hf
 refine ⟨h1,ds,⟨hc,hsm,fun h=>by (cases h),fun ad hA _=>?_⟩,fun i hi=>(h2 i hi).2.2.1,fun i hi=>(h2 i hi).2.2.2⟩
 obtain rfl:=Option.some.inj hA
 exact ⟨g,0,rfl,fun i hi=>⟨(h2 i hi).1,(h2 i hi).2.1⟩⟩
theorem Gu {c:Code} (gf:Tree → Bs) (rest:Bs) (envk:Nat → C8) (h:RS w0 M F n br (tb ++ [⟨g,0,P3 z L.length,true⟩]) (envk 0) P (L.flatMap gf ++ rest) a w) (mv:O1 ok)
  (body:∀ k t a w,L[k]? = some t → k < L.length → RS w0 M F n br (tb ++ [J5 g size z L.length k]) (envk k) (L3 P (U1 g size cl ok rel L k)) (gf t ++ ((L.drop (k + 1)).flatMap gf ++ rest)) a w →
   c.wp Pr (Exit.then (fun a' w'=>RS w0 M F n br (tb ++ [J5 g size z L.length (k + 1)]) (envk (k + 1)) (L3 P (U1 g size cl ok rel L (k + 1))) ((L.drop (k + 1)).flatMap gf ++ rest) a' w') Q) a w)
  (fin:∀ a w,RS w0 M F n br (tb ++ [J5 g size z L.length L.length]) (envk L.length) (L3 P (U1 g size cl ok rel L L.length)) rest a w → c.wp Pr (Exit.then (fun _ _=>False) Q) a w):(Code.loop c).wp Pr Q a w:=by
 refine wp_loop_ghost (fun q a_ w_=>∃ k,q = L.length - k ∧ k ≤ L.length ∧ RS w0 M F n br (tb ++ [J5 g size z L.length k]) (envk k) (L3 P (U1 g size cl ok rel L k)) ((L.drop k).flatMap gf ++ rest) a_ w_) L.length
  ⟨0,by omega,Nat.zero_le _,?_⟩ ?_
 ·have e:J5 g size z L.length 0 = ⟨g,0,P3 z L.length,true⟩:=by simp only [J5,Nat.zero_mul,Nat.sub_zero]
  rw [e,List.drop_zero]
  exact h.weak (h.mv.and (MvF.done mv)) fun w F hP=>⟨hP,fun _=>S2,fun i hi=>absurd hi (Nat.not_lt_zero i)⟩
 rintro q aq wq ⟨k,rfl,hk,hS⟩
 rcases Nat.lt_or_ge k L.length with hlt | hge
 ·obtain ⟨t,ht⟩:∃ t,L[k]? = some t:=⟨_,List.getElem?_eq_getElem hlt⟩
  have e:(L.drop k).flatMap gf ++ rest = gf t ++ ((L.drop (k + 1)).flatMap gf ++ rest):=by
   rw [Lp ht,List.flatMap_cons,List.append_assoc]
  refine wp_mono (body k t aq wq ht hlt (hS.cast e)) fun e a' w' hq=>?_
  cases e <;> first | exact hq | exact ⟨L.length - (k + 1),by omega,k + 1,rfl,hlt,hq⟩
 obtain rfl:k = L.length:=by omega
 rw [List.drop_length] at hS
 refine wp_mono (fin aq wq hS) fun e a' w' hq=>?_
 cases e <;> first | exact hq | exact hq.elim
theorem Es {c:Code} (h:c.wp Pr (Exit.then (fun _ _=>False) Q) a w):(Code.loop c).wp Pr Q a w:=by
 refine wp_loop_ghost (fun _ a_ w_=>a_ = a ∧ w_ = w) 0 ⟨rfl,rfl⟩ ?_
 rintro q _ _ ⟨rfl,rfl⟩
 refine wp_mono h fun e a' w' hq=>?_
 cases e <;> first | exact hq | exact hq.elim
theorem Gv {x y z:Code} {Mid:Act → World → Prop} (h1:x.wp Pr (Exit.then (fun a w=>y.wp Pr (Exit.then Mid Q) a w) Q) a w) (h2:∀ a' w',Mid a' w' → z.wp Pr Q a' w'):(Code.seq x (.seq y z)).wp Pr Q a w :=
 wp_seq (CT h1 fun a' w' hy=>wp_seq (CT hy h2))
end
theorem MJ {A:Option Addr} {c:Nat} (s:Bs) {w:World} {F:Nat → Nat → Prop} (ho:Octs w F A c s) (hl:2 ≤ s.length) :
  Calls Tryz.prog 131 #[.agg #[],.slice A s.length c] w (N5 w (.int .u16 (P1 s))):=by
 refine enter (n:=18) Tryz.func131 rfl Tryz.ntmps131 kz fun a hE=>?_
 have hW:=WOk.start w B5
 have ob0:=H6 s 0
 have ob1:=H6 s 1
 refine B8 [0,1] kz ?_
 refine B1 (J1 hW hE (d:=2) (cs:=[]) kz fun b1 a2 w3 hb4 hz5 hF6 hW7 hE8=>?_)
 refine B3 [1] [] [(1,.v (.slice A s.length c))] hW7 hE8 fun a9 ag=>?_
 refine B4 (A7 ?_)
 refine B8 [0,1,2] kz ?_
 refine B3 [0] [1,2] [(1,.v (.slice A s.length c)),(5,.v (.slice A s.length c))] hW7 ag fun aE ah=>?_
 obtain ⟨aw,ax,ae,ay,ac⟩:=Slots.get ho (i:=1) (by omega)
 refine B1 (F2 ah (t:=30) (A:=A) (m:=s.length) (q:=1) (d:=6) kz (e:=5) (size:=1) (bytes:=1) (j:=1) kz ae rfl (by omega) fun aF ai=>?_)
 refine B1 (G7 ai (t:=5) (b:=aw) (o:=ax + 1 * 1) (d:=7) kz (cs:=[.int .u8 ((s.getD 1 0).toNat:Int)]) (v:=.int .u8 ((s.getD 1 0).toNat:Int)) kz (AtF.move ac hW7.step B0 E6).at_ fun aG aj=>?_)
 refine B4 (A7 ?_)
 refine Br kz hW7 fun aH aA ab=>?_
 refine D6 [0,4] [(8,.v (.slice A s.length c)),(12,.v (.slice A s.length c))] 9 (B2 C6) (fun _ h=>h ▸ ab.cells) rfl aj fun aI ak=>?_
 refine H9 ak (i:=1) (t:=30) (A:=A) (m:=s.length) (q:=1) (d:=9) kz (e:=5) (size:=1) (bytes:=1) (j:=1) kz ae rfl (by omega) kz kz (B2 C6) rfl fun aJ al=>?_
 refine P4 al (i:=2) (t:=5) (b:=aw) (o:=ax + 1 * 1) (d:=10) kz (cs:=[.int .u8 ((s.getD 1 0).toNat:Int)]) (v:=.int .u8 ((s.getD 1 0).toNat:Int)) kz (fun w' h'=>h' ▸ (AtF.move ac ab.step B0 E6).at_) kz kz (B2 C6) rfl fun aK am=>?_
 refine D6 [3] [(11,.v (.int .u16 (IntKind.u16.wrap ((s.getD 1 0).toNat:Int)))),(12,.v (.slice A s.length c))] 6 (B2 C6) (fun _ h=>h ▸ ab.cells) rfl am fun aL ao=>?_
 obtain ⟨aB,aC,ap,aD,af⟩:=Slots.get ho (i:=0) (by omega)
 refine H9 ao (i:=5) (t:=30) (A:=A) (m:=s.length) (q:=0) (d:=13) kz (e:=5) (size:=1) (bytes:=1) (j:=0) kz ap rfl (by omega) kz kz (B2 C6) rfl fun aM ar=>?_
 refine P4 ar (i:=6) (t:=5) (b:=aB) (o:=aC + 0 * 1) (d:=14) kz (cs:=[.int .u8 ((s.getD 0 0).toNat:Int)]) (v:=.int .u8 ((s.getD 0 0).toNat:Int)) kz (fun w' h'=>h' ▸ (AtF.move af ab.step B0 E6).at_) kz kz (B2 C6) rfl fun aN au=>?_
 refine D6 [7,8,9,10] [(4,.v (.int .u16 (IntKind.u16.wrap (BitVec.ofInt 16 (IntKind.u16.wrap ((s.getD 1 0).toNat:Int)) ||| BitVec.ofInt 16 (IntKind.u16.wrap ((IntKind.u16.wrap ((s.getD 0 0).toNat:Int)) * 256))).toNat)))] 0 (B2 C6) (fun _ h=>h ▸ ab.cells) rfl au fun aO av=>?_
 refine F3 kz ?_ _
 refine A7 (wp_ret (D5 av ab.cells (v:=.int .u16 (IntKind.u16.wrap (BitVec.ofInt 16 (IntKind.u16.wrap ((s.getD 1 0).toNat:Int)) ||| BitVec.ofInt 16 (IntKind.u16.wrap ((IntKind.u16.wrap ((s.getD 0 0).toNat:Int)) * 256))).toNat)) kz ?_))
 exact ⟨congrArg Ending.returned (congrArg (Value.int IntKind.u16) (LR (oc s 0) (oc s 1) ob0 ob1)),ab.step⟩
theorem MK {A:Option Addr} {c:Nat} (s:Bs) {w:World} {F:Nat → Nat → Prop} (ho:Octs w F A c s) (hl:4 ≤ s.length) :
  Calls Tryz.prog 122 #[.agg #[],.slice A s.length c] w (N5 w (.int .u32 (P2 s))):=by
 refine enter (n:=30) Tryz.func122 rfl Tryz.ntmps122 kz fun a hE=>?_
 have hW:=WOk.start w B5
 have ob0:=H6 s 0
 have ob1:=H6 s 1
 have ob2:=H6 s 2
 have ob3:=H6 s 3
 refine B8 [0,1] kz ?_
 refine B1 (J1 hW hE (d:=2) (cs:=[]) kz fun b1 a2 w3 hb4 hz5 hF6 hW7 hE8=>?_)
 refine B3 [1] [] [(1,.v (.slice A s.length c))] hW7 hE8 fun a9 ak=>?_
 refine B4 (A7 ?_)
 refine B8 [0,1,2] kz ?_
 refine B3 [0] [1,2] [(1,.v (.slice A s.length c)),(5,.v (.slice A s.length c))] hW7 ak fun aW al=>?_
 obtain ⟨aJ,aK,ag,aL,af⟩:=Slots.get ho (i:=3) (by omega)
 refine B1 (F2 al (t:=30) (A:=A) (m:=s.length) (q:=3) (d:=6) kz (e:=5) (size:=1) (bytes:=1) (j:=3) kz ag rfl (by omega) fun aX am=>?_)
 refine B1 (G7 am (t:=5) (b:=aJ) (o:=aK + 3 * 1) (d:=7) kz (cs:=[.int .u8 ((s.getD 3 0).toNat:Int)]) (v:=.int .u8 ((s.getD 3 0).toNat:Int)) kz (AtF.move af hW7.step B0 E6).at_ fun aY ao=>?_)
 refine B4 (A7 ?_)
 refine Br kz hW7 fun aZ aM ab=>?_
 let ae:Nat × SV:=(18,.v (.slice A s.length c))
 let ac:Nat × SV:=(24,.v (.slice A s.length c))
 refine D6 [0,4,10,16] [(8,.v (.slice A s.length c)),(12,.v (.slice A s.length c)),ae,ac] 19 (B2 C6) (fun _ h=>h ▸ ab.cells) rfl ao fun ba ap=>?_
 refine H9 ap (i:=1) (t:=30) (A:=A) (m:=s.length) (q:=3) (d:=9) kz (e:=5) (size:=1) (bytes:=1) (j:=3) kz ag rfl (by omega) kz kz (B2 C6) rfl fun bd ar=>?_
 refine P4 ar (i:=2) (t:=5) (b:=aJ) (o:=aK + 3 * 1) (d:=10) kz (cs:=[.int .u8 ((s.getD 3 0).toNat:Int)]) (v:=.int .u8 ((s.getD 3 0).toNat:Int)) kz (fun w' h'=>h' ▸ (AtF.move af ab.step B0 E6).at_) kz kz (B2 C6) rfl fun bf au=>?_
 refine D6 [3] [(11,.v (.int .u32 (IntKind.u32.wrap ((s.getD 3 0).toNat:Int)))),(12,.v (.slice A s.length c)),ae,ac] 16 (B2 C6) (fun _ h=>h ▸ ab.cells) rfl au fun bg av=>?_
 obtain ⟨aN,aO,aw,aP,ah⟩:=Slots.get ho (i:=2) (by omega)
 refine H9 av (i:=5) (t:=30) (A:=A) (m:=s.length) (q:=2) (d:=13) kz (e:=5) (size:=1) (bytes:=1) (j:=2) kz aw rfl (by omega) kz kz (B2 C6) rfl fun bh ax=>?_
 refine P4 ax (i:=6) (t:=5) (b:=aN) (o:=aO + 2 * 1) (d:=14) kz (cs:=[.int .u8 ((s.getD 2 0).toNat:Int)]) (v:=.int .u8 ((s.getD 2 0).toNat:Int)) kz (fun w' h'=>h' ▸ (AtF.move ah ab.step B0 E6).at_) kz kz (B2 C6) rfl fun bi ay=>?_
 refine D6 [7,8,9] [(17,.v (.int .u32 (IntKind.u32.wrap (BitVec.ofInt 32 (IntKind.u32.wrap ((s.getD 3 0).toNat:Int)) ||| BitVec.ofInt 32 (IntKind.u32.wrap ((IntKind.u32.wrap ((s.getD 2 0).toNat:Int)) * 256))).toNat))),ae,ac] 11 (B2 C6) (fun _ h=>h ▸ ab.cells) rfl ay fun bj aA=>?_
 obtain ⟨aQ,aR,aB,aS,ai⟩:=Slots.get ho (i:=1) (by omega)
 refine H9 aA (i:=11) (t:=30) (A:=A) (m:=s.length) (q:=1) (d:=19) kz (e:=5) (size:=1) (bytes:=1) (j:=1) kz aB rfl (by omega) kz kz (B2 C6) rfl fun bk aC=>?_
 refine P4 aC (i:=12) (t:=5) (b:=aQ) (o:=aR + 1 * 1) (d:=20) kz (cs:=[.int .u8 ((s.getD 1 0).toNat:Int)]) (v:=.int .u8 ((s.getD 1 0).toNat:Int)) kz (fun w' h'=>h' ▸ (AtF.move ai ab.step B0 E6).at_) kz kz (B2 C6) rfl fun bn aD=>?_
 refine D6 [13,14,15] [(23,.v (.int .u32 (IntKind.u32.wrap (BitVec.ofInt 32 (IntKind.u32.wrap (BitVec.ofInt 32 (IntKind.u32.wrap ((s.getD 3 0).toNat:Int)) ||| BitVec.ofInt 32 (IntKind.u32.wrap ((IntKind.u32.wrap ((s.getD 2 0).toNat:Int)) * 256))).toNat) ||| BitVec.ofInt 32 (IntKind.u32.wrap ((IntKind.u32.wrap ((s.getD 1 0).toNat:Int)) * 65536))).toNat))),ac] 6 (B2 C6) (fun _ h=>h ▸ ab.cells) rfl aD fun bp aE=>?_
 obtain ⟨aT,aU,aF,aV,aj⟩:=Slots.get ho (i:=0) (by omega)
 refine H9 aE (i:=17) (t:=30) (A:=A) (m:=s.length) (q:=0) (d:=25) kz (e:=5) (size:=1) (bytes:=1) (j:=0) kz aF rfl (by omega) kz kz (B2 C6) rfl fun bq aG=>?_
 refine P4 aG (i:=18) (t:=5) (b:=aT) (o:=aU + 0 * 1) (d:=26) kz (cs:=[.int .u8 ((s.getD 0 0).toNat:Int)]) (v:=.int .u8 ((s.getD 0 0).toNat:Int)) kz (fun w' h'=>h' ▸ (AtF.move aj ab.step B0 E6).at_) kz kz (B2 C6) rfl fun bt aH=>?_
 refine D6 [19,20,21,22] [(4,.v (.int .u32 (IntKind.u32.wrap (BitVec.ofInt 32 (IntKind.u32.wrap (BitVec.ofInt 32 (IntKind.u32.wrap (BitVec.ofInt 32 (IntKind.u32.wrap ((s.getD 3 0).toNat:Int)) ||| BitVec.ofInt 32 (IntKind.u32.wrap ((IntKind.u32.wrap ((s.getD 2 0).toNat:Int)) * 256))).toNat) ||| BitVec.ofInt 32 (IntKind.u32.wrap ((IntKind.u32.wrap ((s.getD 1 0).toNat:Int)) * 65536))).toNat) ||| BitVec.ofInt 32 (IntKind.u32.wrap ((IntKind.u32.wrap ((s.getD 0 0).toNat:Int)) * 16777216))).toNat)))] 0 (B2 C6) (fun _ h=>h ▸ ab.cells) rfl aH fun bu aI=>?_
 refine F3 kz ?_ _
 refine A7 (wp_ret (D5 aI ab.cells (v:=.int .u32 (IntKind.u32.wrap (BitVec.ofInt 32 (IntKind.u32.wrap (BitVec.ofInt 32 (IntKind.u32.wrap (BitVec.ofInt 32 (IntKind.u32.wrap ((s.getD 3 0).toNat:Int)) ||| BitVec.ofInt 32 (IntKind.u32.wrap ((IntKind.u32.wrap ((s.getD 2 0).toNat:Int)) * 256))).toNat) ||| BitVec.ofInt 32 (IntKind.u32.wrap ((IntKind.u32.wrap ((s.getD 1 0).toNat:Int)) * 65536))).toNat) ||| BitVec.ofInt 32 (IntKind.u32.wrap ((IntKind.u32.wrap ((s.getD 0 0).toNat:Int)) * 16777216))).toNat)) kz ?_))
 exact ⟨congrArg Ending.returned (congrArg (Value.int IntKind.u32) (LT (oc s 0) (oc s 1) (oc s 2) (oc s 3) ob0 ob1 ob2 ob3)),ab.step⟩
theorem Et (x:Int) (rest:Bs)  {br:Nat} {A:Option Addr} {m c:Nat} {w:World} {F:Nat → Nat → Prop} (hst:Str w br [.slice A m c,.bool false]) (hr:RdS w F A m c (be 2 x ++ rest)) (hFd:∀ b o,F b o → ¬ H2 br b o) :
  Calls Tryz.prog 117 #[.pointer (some ⟨br,0,none⟩)] w (RdPost w br F rest fun v w'=>v = .int .i16 (IntKind.i16.wrap x)):=by
 obtain ⟨hm,ho⟩:=hr
 subst hm
 have hle:=ho.le
 refine enter (n:=32) Tryz.func117 rfl Tryz.ntmps117 kz fun a hE=>?_
 let ab:Value:=.slice A ((be 2 x ++ rest).length) c
 have hW:WOk w (H2 br) w [⟨br,0,[ab,.bool false],true⟩] []:=WOk.startStr hst
 have hE1:=(hE.grow ⟨br,0,[ab,.bool false],true⟩).recast 0 (.v (.pointer (some ⟨br,0,none⟩))) (.p 0 0) rfl rfl (Nat.le_of_ble_eq_true (n:=1) rfl)
 refine C1 [(0,.p 0 0)] hW hE1 fun a1 hE2=>?_
 refine wp_seq (C1 [(0,.p 0 0),(9,.v (.bool (decide ((((be 2 x ++ rest).length:Nat):Int) < 2))))] hW hE2 fun a3 hE4=>?_)
 refine F6 hE4 (b:=decide ((((be 2 x ++ rest).length:Nat):Int) < 2)) kz (decide_eq_false (by first | omega | (simp only [List.length_append,be_length,List.length_cons,List.length_nil] at *; omega))) ?_
 refine wp_skip (A7 (J2 7 kz hW fun w5 hF6 hW7 hT8=>?_))
 refine D6 [1,2,3,4] [(0,.p 0 0),(20,.v (.slice A ((be 2 x ++ rest).length) c))] 4 (B2 C6) (fun _ h=>h.cells) hT8 hE4 fun a9 ah=>?_
 refine P4 ah (i:=0) (t:=158) (b:=0) (o:=0) (d:=16) kz (cs:=[]) (v:=.agg #[]) kz (fun w' h'=>(fun j_ v_ h_=>by simp at h_)) kz kz (B2 C6) hT8 fun ax ai=>?_
 refine C9 (i:=5) kz (C3 ai (f:=131) (vs:=[.agg #[],ab]) (d:=21) kz Tryz.call131 (MJ _ (ho.move hW7.step (fun b_ o_ h_ _=>hFd b_ o_ h_) (hW7.immM hFd)) (by first | omega | (simp only [List.length_append,be_length,List.length_cons,List.length_nil] at *; omega))) ?_)
 rintro e_ ay ⟨rfl,af⟩
 refine ⟨_,rfl,fun aA aj=>?_⟩
 have ac:=hW7.next_nil af
 have ak:=hW7.frN af
 have ag:=TT.ofW ak ac
 refine ⟨fun _=>ag,?_⟩
 refine D6 [6] [(0,.p 0 0),(22,.v (.int .i16 (IntKind.i16.wrap (P1 (be 2 x ++ rest)))))] 1 (B2 C6) (fun _ h=>h.cells) ag aj fun aB al=>?_
 refine C9 (i:=7) kz (T5 [0,3] ac.cells al (env':=[(0,.p 0 0),(3,.v (.int .i16 (IntKind.i16.wrap (P1 (be 2 x ++ rest)))))]) kz fun aC am=>?_)
 refine ⟨fun h=>absurd rfl h,?_⟩
 refine F3 kz ?_ _
 refine A7 (B8 [0,1,2,3,4,5,6,7,8] kz ?_)
 refine B3 [0,1,2,3,4] [5,6,7,8] [(3,.v (.int .i16 (IntKind.i16.wrap (P1 (be 2 x ++ rest))))),(23,.p 0 0),(27,.v (.slice A ((be 2 x ++ rest).length) c))] ac am fun aD ao=>?_
 refine B1 (Ec ao (t:=30) (A:=A) (m:=((be 2 x ++ rest).length)) (cp:=c) (q:=2) (d:=28) (j:=2) kz (e:=5) (bytes:=1) kz (rfl) (by first | omega | (simp only [List.length_append,be_length,List.length_cons,List.length_nil] at *; omega)) fun aE ap=>?_)
 refine B3 [6,7] [8] [(3,.v (.int .i16 (IntKind.i16.wrap (P1 (be 2 x ++ rest))))),(28,.v (.slice (J9 A c 2) (((be 2 x ++ rest).length) - 2) (c - 2))),(30,.p 0 0)] ac ap fun aF ar=>?_
 refine B1 (C7 ac ar (oi:=0) (cs:=[.slice (J9 A c 2) (((be 2 x ++ rest).length) - 2) (c - 2),.bool false]) kz fun aG aw ae au=>?_)
 refine B4 (A7 ?_)
 refine C1 [(2,.v (.int .i16 (IntKind.i16.wrap (P1 (be 2 x ++ rest)))))] ae au fun aH av=>?_
 refine wp_ret (D5 av ae.cells (v:=.int .i16 (IntKind.i16.wrap (P1 (be 2 x ++ rest)))) kz ?_)
 exact ⟨_,_,_,_,rfl,Str.of ae 0 rfl,RdS.drop (s:=be 2 x) ⟨rfl,ho.move ae.step (fun b_ o_ h_ _=>hFd b_ o_ h_) E6⟩ (by simp only [be_length,List.length_cons,List.length_nil]),ae.step,by rw [LN,LP]⟩
theorem Eu (x:Int) (rest:Bs)  {br:Nat} {A:Option Addr} {m c:Nat} {w:World} {F:Nat → Nat → Prop} (hst:Str w br [.slice A m c,.bool false]) (hr:RdS w F A m c (be 4 x ++ rest)) (hFd:∀ b o,F b o → ¬ H2 br b o) :
  Calls Tryz.prog 95 #[.pointer (some ⟨br,0,none⟩)] w (RdPost w br F rest fun v w'=>v = .int .i32 (IntKind.i32.wrap x)):=by
 obtain ⟨hm,ho⟩:=hr
 subst hm
 have hle:=ho.le
 refine enter (n:=32) Tryz.func95 rfl Tryz.ntmps95 kz fun a hE=>?_
 let ab:Value:=.slice A ((be 4 x ++ rest).length) c
 have hW:WOk w (H2 br) w [⟨br,0,[ab,.bool false],true⟩] []:=WOk.startStr hst
 have hE1:=(hE.grow ⟨br,0,[ab,.bool false],true⟩).recast 0 (.v (.pointer (some ⟨br,0,none⟩))) (.p 0 0) rfl rfl (Nat.le_of_ble_eq_true (n:=1) rfl)
 refine C1 [(0,.p 0 0)] hW hE1 fun a1 hE2=>?_
 refine wp_seq (C1 [(0,.p 0 0),(9,.v (.bool (decide ((((be 4 x ++ rest).length:Nat):Int) < 4))))] hW hE2 fun a3 hE4=>?_)
 refine F6 hE4 (b:=decide ((((be 4 x ++ rest).length:Nat):Int) < 4)) kz (decide_eq_false (by first | omega | (simp only [List.length_append,be_length,List.length_cons,List.length_nil] at *; omega))) ?_
 refine wp_skip (A7 (J2 7 kz hW fun w5 hF6 hW7 hT8=>?_))
 refine D6 [1,2,3,4] [(0,.p 0 0),(20,.v (.slice A ((be 4 x ++ rest).length) c))] 4 (B2 C6) (fun _ h=>h.cells) hT8 hE4 fun a9 ah=>?_
 refine P4 ah (i:=0) (t:=158) (b:=0) (o:=0) (d:=16) kz (cs:=[]) (v:=.agg #[]) kz (fun w' h'=>(fun j_ v_ h_=>by simp at h_)) kz kz (B2 C6) hT8 fun ax ai=>?_
 refine C9 (i:=5) kz (C3 ai (f:=122) (vs:=[.agg #[],ab]) (d:=21) kz Tryz.call122 (MK _ (ho.move hW7.step (fun b_ o_ h_ _=>hFd b_ o_ h_) (hW7.immM hFd)) (by first | omega | (simp only [List.length_append,be_length,List.length_cons,List.length_nil] at *; omega))) ?_)
 rintro e_ ay ⟨rfl,af⟩
 refine ⟨_,rfl,fun aA aj=>?_⟩
 have ac:=hW7.next_nil af
 have ak:=hW7.frN af
 have ag:=TT.ofW ak ac
 refine ⟨fun _=>ag,?_⟩
 refine D6 [6] [(0,.p 0 0),(22,.v (.int .i32 (IntKind.i32.wrap (P2 (be 4 x ++ rest)))))] 1 (B2 C6) (fun _ h=>h.cells) ag aj fun aB al=>?_
 refine C9 (i:=7) kz (T5 [0,3] ac.cells al (env':=[(0,.p 0 0),(3,.v (.int .i32 (IntKind.i32.wrap (P2 (be 4 x ++ rest)))))]) kz fun aC am=>?_)
 refine ⟨fun h=>absurd rfl h,?_⟩
 refine F3 kz ?_ _
 refine A7 (B8 [0,1,2,3,4,5,6,7,8] kz ?_)
 refine B3 [0,1,2,3,4] [5,6,7,8] [(3,.v (.int .i32 (IntKind.i32.wrap (P2 (be 4 x ++ rest))))),(23,.p 0 0),(27,.v (.slice A ((be 4 x ++ rest).length) c))] ac am fun aD ao=>?_
 refine B1 (Ec ao (t:=30) (A:=A) (m:=((be 4 x ++ rest).length)) (cp:=c) (q:=4) (d:=28) (j:=4) kz (e:=5) (bytes:=1) kz (rfl) (by first | omega | (simp only [List.length_append,be_length,List.length_cons,List.length_nil] at *; omega)) fun aE ap=>?_)
 refine B3 [6,7] [8] [(3,.v (.int .i32 (IntKind.i32.wrap (P2 (be 4 x ++ rest))))),(28,.v (.slice (J9 A c 4) (((be 4 x ++ rest).length) - 4) (c - 4))),(30,.p 0 0)] ac ap fun aF ar=>?_
 refine B1 (C7 ac ar (oi:=0) (cs:=[.slice (J9 A c 4) (((be 4 x ++ rest).length) - 4) (c - 4),.bool false]) kz fun aG aw ae au=>?_)
 refine B4 (A7 ?_)
 refine C1 [(2,.v (.int .i32 (IntKind.i32.wrap (P2 (be 4 x ++ rest)))))] ae au fun aH av=>?_
 refine wp_ret (D5 av ae.cells (v:=.int .i32 (IntKind.i32.wrap (P2 (be 4 x ++ rest)))) kz ?_)
 exact ⟨_,_,_,_,rfl,Str.of ae 0 rfl,RdS.drop (s:=be 4 x) ⟨rfl,ho.move ae.step (fun b_ o_ h_ _=>hFd b_ o_ h_) E6⟩ (by simp only [be_length,List.length_cons,List.length_nil]),ae.step,by rw [LO,LQ]⟩
def M2 (s:Bs):Nat × Nat:=if oc s 0 < 128 then (oc s 0,1) else if oc s 1 < 128 then (oc s 0 - 128 + oc s 1 * 128,2) else if oc s 2 < 128 then (oc s 0 - 128 + (oc s 1 - 128) * 128 + oc s 2 * 16384,3) else if oc s 3 < 128 then (oc s 0 - 128 + (oc s 1 - 128) * 128 + (oc s 2 - 128) * 16384 + oc s 3 * 2097152,4) else (oc s 0 - 128 + (oc s 1 - 128) * 128 + (oc s 2 - 128) * 16384 + (oc s 3 - 128) * 2097152 + oc s 4 * 268435456,5)
theorem ML {s:Bs} :1 ≤ (M2 s).2:=by
 unfold M2
 repeat' split
 all_goals (first | exact Nat.le_refl _ | (simp only []; omega) | decide)
theorem MM {s:Bs} (q0:¬ oc s 0 < 128):2 ≤ (M2 s).2:=by
 unfold M2
 rw [if_neg q0]
 repeat' split
 all_goals (first | exact Nat.le_refl _ | (simp only []; omega) | decide)
theorem MN {s:Bs} (q0:¬ oc s 0 < 128) (q1:¬ oc s 1 < 128):3 ≤ (M2 s).2:=by
 unfold M2
 rw [if_neg q0,if_neg q1]
 repeat' split
 all_goals (first | exact Nat.le_refl _ | (simp only []; omega) | decide)
theorem MO {s:Bs} (q0:¬ oc s 0 < 128) (q1:¬ oc s 1 < 128) (q2:¬ oc s 2 < 128):4 ≤ (M2 s).2:=by
 unfold M2
 rw [if_neg q0,if_neg q1,if_neg q2]
 repeat' split
 all_goals (first | exact Nat.le_refl _ | (simp only []; omega) | decide)
theorem Ju {s:Bs} (q0:¬ oc s 0 < 128) (q1:¬ oc s 1 < 128) (q2:¬ oc s 2 < 128) (q3:¬ oc s 3 < 128):(M2 s).2 = 5:=by
 unfold M2
 rw [if_neg q0,if_neg q1,if_neg q2,if_neg q3]
theorem Gw {A:Option Addr} {c:Nat} (s:Bs) {w:World} {F:Nat → Nat → Prop} (ho:Octs w F A c s) (hl:(M2 s).2 ≤ s.length) (g4:(M2 s).2 = 5 → oc s 4 < 16) :
  Calls Tryz.prog 132 #[.slice A s.length c] w (N5 w (.tuple #[.int .u32 (((M2 s).1:Nat):Int),.int .i64 (((M2 s).2:Nat):Int)])):=by
 refine enter (n:=87) Tryz.func132 rfl Tryz.ntmps132 kz fun a hE=>?_
 have hW:=WOk.start w B5
 have hl1:=Nat.le_trans (ML (s:=s)) hl
 let ab:Nat × SV:=(0,.v (.slice A s.length c))
 refine C1 [ab] hW hE fun a1 hE2=>?_
 refine wp_scope_straight (C1 [ab] hW hE2 fun a3 hE4=>?_)
 refine C1 [ab] hW hE4 fun a5 hE6=>?_
 refine wp_seq (C1 [ab,(8,.v (.bool (decide (((s.length:Nat):Int) < 1))))] hW hE6 fun a7 hE8=>?_)
 refine F6 hE8 (b:=decide (((s.length:Nat):Int) < 1)) kz (decide_eq_false (by omega)) ?_
 refine wp_skip (A7 (B8 [0,1,2,3,4,5] kz ?_))
 refine B3 [0] [1,2,3,4,5] [ab,(9,.v (.slice A s.length c))] hW hE8 fun a9 aT=>?_
 obtain ⟨bJ,bK,ax,bT,ag⟩:=Slots.get ho (i:=0) (by first | omega | (simp only [List.length_append,be_length,List.length_cons,List.length_nil] at *; omega))
 refine B1 (F2 aT (t:=30) (A:=A) (m:=s.length) (q:=0) (d:=10) kz (e:=5) (size:=1) (bytes:=1) (j:=0) kz ax rfl (by first | omega | (simp only [List.length_append,be_length,List.length_cons,List.length_nil] at *; omega)) fun cC aU=>?_)
 refine B1 (G7 aU (t:=5) (b:=bJ) (o:=bK + 0 * 1) (d:=11) kz (cs:=[.int .u8 ((s.getD 0 0).toNat:Int)]) (v:=.int .u8 ((s.getD 0 0).toNat:Int)) kz (AtF.move ag hW.step B0 E6).at_ fun cE aV=>?_)
 refine B3 [3,4,5] [] [ab,(4,.v (.int .u32 (IntKind.u32.wrap (IntKind.u8.wrap (BitVec.ofInt 8 ((s.getD 0 0).toNat:Int) &&& BitVec.ofInt 8 127).toNat))))] hW aV fun cG aW=>?_
 refine B4 (A7 ?_)
 refine wp_seq (B8 [0,1,2,3,4] kz ?_)
 refine B3 [0] [1,2,3,4] [ab,(4,.v (.int .u32 (IntKind.u32.wrap (IntKind.u8.wrap (BitVec.ofInt 8 ((s.getD 0 0).toNat:Int) &&& BitVec.ofInt 8 127).toNat)))),(14,.v (.slice A s.length c))] hW aW fun cH aX=>?_
 refine B1 (F2 aX (t:=30) (A:=A) (m:=s.length) (q:=0) (d:=15) kz (e:=5) (size:=1) (bytes:=1) (j:=0) kz ax rfl (by first | omega | (simp only [List.length_append,be_length,List.length_cons,List.length_nil] at *; omega)) fun cI aY=>?_)
 refine B1 (G7 aY (t:=5) (b:=bJ) (o:=bK + 0 * 1) (d:=16) kz (cs:=[.int .u8 ((s.getD 0 0).toNat:Int)]) (v:=.int .u8 ((s.getD 0 0).toNat:Int)) kz (AtF.move ag hW.step B0 E6).at_ fun cJ aZ=>?_)
 refine B3 [3,4] [] [ab,(4,.v (.int .u32 (IntKind.u32.wrap (IntKind.u8.wrap (BitVec.ofInt 8 ((s.getD 0 0).toNat:Int) &&& BitVec.ofInt 8 127).toNat)))),(18,.v (.bool ((IntKind.u8.wrap (BitVec.ofInt 8 ((s.getD 0 0).toNat:Int) &&& BitVec.ofInt 8 128).toNat) == 0)))] hW aZ fun cK ao=>?_
 refine B4 (A7 ?_)
 refine D8 ao (b:=(IntKind.u8.wrap (BitVec.ofInt 8 ((s.getD 0 0).toNat:Int) &&& BitVec.ofInt 8 128).toNat) == 0) kz (fun ap=>?_) (fun ap=>?_)
 ·
  have q0:oc s 0 < 128:=of_decide_eq_true ((Z9 _ (H6 s 0)).symm.trans ap)
  refine C1 [(2,.v (.int .u32 (IntKind.u32.wrap (IntKind.u8.wrap (BitVec.ofInt 8 ((s.getD 0 0).toNat:Int) &&& BitVec.ofInt 8 127).toNat)))),(3,.v (.int .i64 1))] hW ao fun cL ba=>?_
  refine wp_ret (F5 (CU (D5 ba hW.cells (v:=.tuple #[.int .u32 (IntKind.u32.wrap (IntKind.u8.wrap (BitVec.ofInt 8 ((s.getD 0 0).toNat:Int) &&& BitVec.ofInt 8 127).toNat)),.int .i64 1]) kz ?_)))
  have e_:=Gb (oc s 0) (H6 s 0)
  have r_:M2 s = (oc s 0,1):=by unfold M2; rw [if_pos q0]
  have b0_:=H6 s 0
  rw [r_]
  refine ⟨congrArg (fun z_:Int=>Ending.returned (.tuple #[.int .u32 z_,.int .i64 1])) (Eq.trans e_ ?_),hW.step⟩
  show _ = ((oc s 0:Nat):Int)
  omega
 have q0:¬ oc s 0 < 128:=of_decide_eq_false ((Z9 _ (H6 s 0)).symm.trans ap)
 have hl2:=Nat.le_trans (MM q0) hl
 refine C1 [ab,(4,.v (.int .u32 (IntKind.u32.wrap (IntKind.u8.wrap (BitVec.ofInt 8 ((s.getD 0 0).toNat:Int) &&& BitVec.ofInt 8 127).toNat)))),(22,.v (.bool (decide (((s.length:Nat):Int) < 2))))] hW ao fun cM ay=>?_
 refine F6 ay (b:=decide (((s.length:Nat):Int) < 2)) kz (decide_eq_false (by omega)) ?_
 refine wp_skip (A7 (B8 [0,1,2,3,4,5,6,7,8] kz ?_))
 refine B3 [0,1] [2,3,4,5,6,7,8] [ab,(23,.v (.int .u32 (IntKind.u32.wrap (IntKind.u8.wrap (BitVec.ofInt 8 ((s.getD 0 0).toNat:Int) &&& BitVec.ofInt 8 127).toNat)))),(24,.v (.slice A s.length c))] hW ay fun cN bd=>?_
 obtain ⟨bM,bN,aA,bU,ah⟩:=Slots.get ho (i:=1) (by first | omega | (simp only [List.length_append,be_length,List.length_cons,List.length_nil] at *; omega))
 refine B1 (F2 bd (t:=30) (A:=A) (m:=s.length) (q:=1) (d:=25) kz (e:=5) (size:=1) (bytes:=1) (j:=1) kz aA rfl (by first | omega | (simp only [List.length_append,be_length,List.length_cons,List.length_nil] at *; omega)) fun cO bf=>?_)
 refine B1 (G7 bf (t:=5) (b:=bM) (o:=bN + 1 * 1) (d:=26) kz (cs:=[.int .u8 ((s.getD 1 0).toNat:Int)]) (v:=.int .u8 ((s.getD 1 0).toNat:Int)) kz (AtF.move ah hW.step B0 E6).at_ fun cP bg=>?_)
 refine B3 [4,5,6,7,8] [] [ab,(4,.v (.int .u32 (IntKind.u32.wrap (BitVec.ofInt 32 (IntKind.u32.wrap (IntKind.u8.wrap (BitVec.ofInt 8 ((s.getD 0 0).toNat:Int) &&& BitVec.ofInt 8 127).toNat)) ||| BitVec.ofInt 32 (IntKind.u32.wrap ((IntKind.u32.wrap (IntKind.u8.wrap (BitVec.ofInt 8 ((s.getD 1 0).toNat:Int) &&& BitVec.ofInt 8 127).toNat)) * 128))).toNat)))] hW bg fun cQ bh=>?_
 refine B4 (A7 ?_)
 refine wp_seq (B8 [0,1,2,3,4] kz ?_)
 refine B3 [0] [1,2,3,4] [ab,(4,.v (.int .u32 (IntKind.u32.wrap (BitVec.ofInt 32 (IntKind.u32.wrap (IntKind.u8.wrap (BitVec.ofInt 8 ((s.getD 0 0).toNat:Int) &&& BitVec.ofInt 8 127).toNat)) ||| BitVec.ofInt 32 (IntKind.u32.wrap ((IntKind.u32.wrap (IntKind.u8.wrap (BitVec.ofInt 8 ((s.getD 1 0).toNat:Int) &&& BitVec.ofInt 8 127).toNat)) * 128))).toNat))),(31,.v (.slice A s.length c))] hW bh fun cR bi=>?_
 refine B1 (F2 bi (t:=30) (A:=A) (m:=s.length) (q:=1) (d:=32) kz (e:=5) (size:=1) (bytes:=1) (j:=1) kz aA rfl (by first | omega | (simp only [List.length_append,be_length,List.length_cons,List.length_nil] at *; omega)) fun cS bj=>?_)
 refine B1 (G7 bj (t:=5) (b:=bM) (o:=bN + 1 * 1) (d:=33) kz (cs:=[.int .u8 ((s.getD 1 0).toNat:Int)]) (v:=.int .u8 ((s.getD 1 0).toNat:Int)) kz (AtF.move ah hW.step B0 E6).at_ fun cV bk=>?_)
 refine B3 [3,4] [] [ab,(4,.v (.int .u32 (IntKind.u32.wrap (BitVec.ofInt 32 (IntKind.u32.wrap (IntKind.u8.wrap (BitVec.ofInt 8 ((s.getD 0 0).toNat:Int) &&& BitVec.ofInt 8 127).toNat)) ||| BitVec.ofInt 32 (IntKind.u32.wrap ((IntKind.u32.wrap (IntKind.u8.wrap (BitVec.ofInt 8 ((s.getD 1 0).toNat:Int) &&& BitVec.ofInt 8 127).toNat)) * 128))).toNat))),(35,.v (.bool ((IntKind.u8.wrap (BitVec.ofInt 8 ((s.getD 1 0).toNat:Int) &&& BitVec.ofInt 8 128).toNat) == 0)))] hW bk fun cW ar=>?_
 refine B4 (A7 ?_)
 refine D8 ar (b:=(IntKind.u8.wrap (BitVec.ofInt 8 ((s.getD 1 0).toNat:Int) &&& BitVec.ofInt 8 128).toNat) == 0) kz (fun au=>?_) (fun au=>?_)
 ·
  have q1:oc s 1 < 128:=of_decide_eq_true ((Z9 _ (H6 s 1)).symm.trans au)
  refine C1 [(2,.v (.int .u32 (IntKind.u32.wrap (BitVec.ofInt 32 (IntKind.u32.wrap (IntKind.u8.wrap (BitVec.ofInt 8 ((s.getD 0 0).toNat:Int) &&& BitVec.ofInt 8 127).toNat)) ||| BitVec.ofInt 32 (IntKind.u32.wrap ((IntKind.u32.wrap (IntKind.u8.wrap (BitVec.ofInt 8 ((s.getD 1 0).toNat:Int) &&& BitVec.ofInt 8 127).toNat)) * 128))).toNat))),(3,.v (.int .i64 2))] hW ar fun cX bn=>?_
  refine wp_ret (F5 (CU (D5 bn hW.cells (v:=.tuple #[.int .u32 (IntKind.u32.wrap (BitVec.ofInt 32 (IntKind.u32.wrap (IntKind.u8.wrap (BitVec.ofInt 8 ((s.getD 0 0).toNat:Int) &&& BitVec.ofInt 8 127).toNat)) ||| BitVec.ofInt 32 (IntKind.u32.wrap ((IntKind.u32.wrap (IntKind.u8.wrap (BitVec.ofInt 8 ((s.getD 1 0).toNat:Int) &&& BitVec.ofInt 8 127).toNat)) * 128))).toNat),.int .i64 2]) kz ?_)))
  have e_:=Gc (oc s 0) (oc s 1) (H6 s 0) (H6 s 1)
  have r_:M2 s = (oc s 0 - 128 + oc s 1 * 128,2):=by unfold M2; rw [if_neg q0,if_pos q1]
  have b0_:=H6 s 0
  have b1_:=H6 s 1
  rw [r_]
  refine ⟨congrArg (fun z_:Int=>Ending.returned (.tuple #[.int .u32 z_,.int .i64 2])) (Eq.trans e_ ?_),hW.step⟩
  show _ = ((oc s 0 - 128 + oc s 1 * 128:Nat):Int)
  omega
 have q1:¬ oc s 1 < 128:=of_decide_eq_false ((Z9 _ (H6 s 1)).symm.trans au)
 have hl3:=Nat.le_trans (MN q0 q1) hl
 refine C1 [ab,(4,.v (.int .u32 (IntKind.u32.wrap (BitVec.ofInt 32 (IntKind.u32.wrap (IntKind.u8.wrap (BitVec.ofInt 8 ((s.getD 0 0).toNat:Int) &&& BitVec.ofInt 8 127).toNat)) ||| BitVec.ofInt 32 (IntKind.u32.wrap ((IntKind.u32.wrap (IntKind.u8.wrap (BitVec.ofInt 8 ((s.getD 1 0).toNat:Int) &&& BitVec.ofInt 8 127).toNat)) * 128))).toNat))),(39,.v (.bool (decide (((s.length:Nat):Int) < 3))))] hW ar fun cY aB=>?_
 refine F6 aB (b:=decide (((s.length:Nat):Int) < 3)) kz (decide_eq_false (by omega)) ?_
 refine wp_skip (A7 (B8 [0,1,2,3,4,5,6,7,8] kz ?_))
 refine B3 [0,1] [2,3,4,5,6,7,8] [ab,(40,.v (.int .u32 (IntKind.u32.wrap (BitVec.ofInt 32 (IntKind.u32.wrap (IntKind.u8.wrap (BitVec.ofInt 8 ((s.getD 0 0).toNat:Int) &&& BitVec.ofInt 8 127).toNat)) ||| BitVec.ofInt 32 (IntKind.u32.wrap ((IntKind.u32.wrap (IntKind.u8.wrap (BitVec.ofInt 8 ((s.getD 1 0).toNat:Int) &&& BitVec.ofInt 8 127).toNat)) * 128))).toNat))),(41,.v (.slice A s.length c))] hW aB fun cZ bp=>?_
 obtain ⟨bO,bP,aC,bV,ai⟩:=Slots.get ho (i:=2) (by first | omega | (simp only [List.length_append,be_length,List.length_cons,List.length_nil] at *; omega))
 refine B1 (F2 bp (t:=30) (A:=A) (m:=s.length) (q:=2) (d:=42) kz (e:=5) (size:=1) (bytes:=1) (j:=2) kz aC rfl (by first | omega | (simp only [List.length_append,be_length,List.length_cons,List.length_nil] at *; omega)) fun da bq=>?_)
 refine B1 (G7 bq (t:=5) (b:=bO) (o:=bP + 2 * 1) (d:=43) kz (cs:=[.int .u8 ((s.getD 2 0).toNat:Int)]) (v:=.int .u8 ((s.getD 2 0).toNat:Int)) kz (AtF.move ai hW.step B0 E6).at_ fun db bt=>?_)
 refine B3 [4,5,6,7,8] [] [ab,(4,.v (.int .u32 (IntKind.u32.wrap (BitVec.ofInt 32 (IntKind.u32.wrap (BitVec.ofInt 32 (IntKind.u32.wrap (IntKind.u8.wrap (BitVec.ofInt 8 ((s.getD 0 0).toNat:Int) &&& BitVec.ofInt 8 127).toNat)) ||| BitVec.ofInt 32 (IntKind.u32.wrap ((IntKind.u32.wrap (IntKind.u8.wrap (BitVec.ofInt 8 ((s.getD 1 0).toNat:Int) &&& BitVec.ofInt 8 127).toNat)) * 128))).toNat) ||| BitVec.ofInt 32 (IntKind.u32.wrap ((IntKind.u32.wrap (IntKind.u8.wrap (BitVec.ofInt 8 ((s.getD 2 0).toNat:Int) &&& BitVec.ofInt 8 127).toNat)) * 16384))).toNat)))] hW bt fun dc bu=>?_
 refine B4 (A7 ?_)
 refine wp_seq (B8 [0,1,2,3,4] kz ?_)
 refine B3 [0] [1,2,3,4] [ab,(4,.v (.int .u32 (IntKind.u32.wrap (BitVec.ofInt 32 (IntKind.u32.wrap (BitVec.ofInt 32 (IntKind.u32.wrap (IntKind.u8.wrap (BitVec.ofInt 8 ((s.getD 0 0).toNat:Int) &&& BitVec.ofInt 8 127).toNat)) ||| BitVec.ofInt 32 (IntKind.u32.wrap ((IntKind.u32.wrap (IntKind.u8.wrap (BitVec.ofInt 8 ((s.getD 1 0).toNat:Int) &&& BitVec.ofInt 8 127).toNat)) * 128))).toNat) ||| BitVec.ofInt 32 (IntKind.u32.wrap ((IntKind.u32.wrap (IntKind.u8.wrap (BitVec.ofInt 8 ((s.getD 2 0).toNat:Int) &&& BitVec.ofInt 8 127).toNat)) * 16384))).toNat))),(48,.v (.slice A s.length c))] hW bu fun de bw=>?_
 refine B1 (F2 bw (t:=30) (A:=A) (m:=s.length) (q:=2) (d:=49) kz (e:=5) (size:=1) (bytes:=1) (j:=2) kz aC rfl (by first | omega | (simp only [List.length_append,be_length,List.length_cons,List.length_nil] at *; omega)) fun df bz=>?_)
 refine B1 (G7 bz (t:=5) (b:=bO) (o:=bP + 2 * 1) (d:=50) kz (cs:=[.int .u8 ((s.getD 2 0).toNat:Int)]) (v:=.int .u8 ((s.getD 2 0).toNat:Int)) kz (AtF.move ai hW.step B0 E6).at_ fun dg bD=>?_)
 refine B3 [3,4] [] [ab,(4,.v (.int .u32 (IntKind.u32.wrap (BitVec.ofInt 32 (IntKind.u32.wrap (BitVec.ofInt 32 (IntKind.u32.wrap (IntKind.u8.wrap (BitVec.ofInt 8 ((s.getD 0 0).toNat:Int) &&& BitVec.ofInt 8 127).toNat)) ||| BitVec.ofInt 32 (IntKind.u32.wrap ((IntKind.u32.wrap (IntKind.u8.wrap (BitVec.ofInt 8 ((s.getD 1 0).toNat:Int) &&& BitVec.ofInt 8 127).toNat)) * 128))).toNat) ||| BitVec.ofInt 32 (IntKind.u32.wrap ((IntKind.u32.wrap (IntKind.u8.wrap (BitVec.ofInt 8 ((s.getD 2 0).toNat:Int) &&& BitVec.ofInt 8 127).toNat)) * 16384))).toNat))),(52,.v (.bool ((IntKind.u8.wrap (BitVec.ofInt 8 ((s.getD 2 0).toNat:Int) &&& BitVec.ofInt 8 128).toNat) == 0)))] hW bD fun dh av=>?_
 refine B4 (A7 ?_)
 refine D8 av (b:=(IntKind.u8.wrap (BitVec.ofInt 8 ((s.getD 2 0).toNat:Int) &&& BitVec.ofInt 8 128).toNat) == 0) kz (fun aw=>?_) (fun aw=>?_)
 ·
  have q2:oc s 2 < 128:=of_decide_eq_true ((Z9 _ (H6 s 2)).symm.trans aw)
  refine C1 [(2,.v (.int .u32 (IntKind.u32.wrap (BitVec.ofInt 32 (IntKind.u32.wrap (BitVec.ofInt 32 (IntKind.u32.wrap (IntKind.u8.wrap (BitVec.ofInt 8 ((s.getD 0 0).toNat:Int) &&& BitVec.ofInt 8 127).toNat)) ||| BitVec.ofInt 32 (IntKind.u32.wrap ((IntKind.u32.wrap (IntKind.u8.wrap (BitVec.ofInt 8 ((s.getD 1 0).toNat:Int) &&& BitVec.ofInt 8 127).toNat)) * 128))).toNat) ||| BitVec.ofInt 32 (IntKind.u32.wrap ((IntKind.u32.wrap (IntKind.u8.wrap (BitVec.ofInt 8 ((s.getD 2 0).toNat:Int) &&& BitVec.ofInt 8 127).toNat)) * 16384))).toNat))),(3,.v (.int .i64 3))] hW av fun di bE=>?_
  refine wp_ret (F5 (CU (D5 bE hW.cells (v:=.tuple #[.int .u32 (IntKind.u32.wrap (BitVec.ofInt 32 (IntKind.u32.wrap (BitVec.ofInt 32 (IntKind.u32.wrap (IntKind.u8.wrap (BitVec.ofInt 8 ((s.getD 0 0).toNat:Int) &&& BitVec.ofInt 8 127).toNat)) ||| BitVec.ofInt 32 (IntKind.u32.wrap ((IntKind.u32.wrap (IntKind.u8.wrap (BitVec.ofInt 8 ((s.getD 1 0).toNat:Int) &&& BitVec.ofInt 8 127).toNat)) * 128))).toNat) ||| BitVec.ofInt 32 (IntKind.u32.wrap ((IntKind.u32.wrap (IntKind.u8.wrap (BitVec.ofInt 8 ((s.getD 2 0).toNat:Int) &&& BitVec.ofInt 8 127).toNat)) * 16384))).toNat),.int .i64 3]) kz ?_)))
  have e_:=Gd (oc s 0) (oc s 1) (oc s 2) (H6 s 0) (H6 s 1) (H6 s 2)
  have r_:M2 s = (oc s 0 - 128 + (oc s 1 - 128) * 128 + oc s 2 * 16384,3):=by unfold M2; rw [if_neg q0,if_neg q1,if_pos q2]
  have b0_:=H6 s 0
  have b1_:=H6 s 1
  have b2_:=H6 s 2
  rw [r_]
  refine ⟨congrArg (fun z_:Int=>Ending.returned (.tuple #[.int .u32 z_,.int .i64 3])) (Eq.trans e_ ?_),hW.step⟩
  show _ = ((oc s 0 - 128 + (oc s 1 - 128) * 128 + oc s 2 * 16384:Nat):Int)
  omega
 have q2:¬ oc s 2 < 128:=of_decide_eq_false ((Z9 _ (H6 s 2)).symm.trans aw)
 have hl4:=Nat.le_trans (MO q0 q1 q2) hl
 refine C1 [ab,(4,.v (.int .u32 (IntKind.u32.wrap (BitVec.ofInt 32 (IntKind.u32.wrap (BitVec.ofInt 32 (IntKind.u32.wrap (IntKind.u8.wrap (BitVec.ofInt 8 ((s.getD 0 0).toNat:Int) &&& BitVec.ofInt 8 127).toNat)) ||| BitVec.ofInt 32 (IntKind.u32.wrap ((IntKind.u32.wrap (IntKind.u8.wrap (BitVec.ofInt 8 ((s.getD 1 0).toNat:Int) &&& BitVec.ofInt 8 127).toNat)) * 128))).toNat) ||| BitVec.ofInt 32 (IntKind.u32.wrap ((IntKind.u32.wrap (IntKind.u8.wrap (BitVec.ofInt 8 ((s.getD 2 0).toNat:Int) &&& BitVec.ofInt 8 127).toNat)) * 16384))).toNat))),(56,.v (.bool (decide (((s.length:Nat):Int) < 4))))] hW av fun dj aD=>?_
 refine F6 aD (b:=decide (((s.length:Nat):Int) < 4)) kz (decide_eq_false (by omega)) ?_
 refine wp_skip (A7 (B8 [0,1,2,3,4,5,6,7,8] kz ?_))
 refine B3 [0,1] [2,3,4,5,6,7,8] [ab,(57,.v (.int .u32 (IntKind.u32.wrap (BitVec.ofInt 32 (IntKind.u32.wrap (BitVec.ofInt 32 (IntKind.u32.wrap (IntKind.u8.wrap (BitVec.ofInt 8 ((s.getD 0 0).toNat:Int) &&& BitVec.ofInt 8 127).toNat)) ||| BitVec.ofInt 32 (IntKind.u32.wrap ((IntKind.u32.wrap (IntKind.u8.wrap (BitVec.ofInt 8 ((s.getD 1 0).toNat:Int) &&& BitVec.ofInt 8 127).toNat)) * 128))).toNat) ||| BitVec.ofInt 32 (IntKind.u32.wrap ((IntKind.u32.wrap (IntKind.u8.wrap (BitVec.ofInt 8 ((s.getD 2 0).toNat:Int) &&& BitVec.ofInt 8 127).toNat)) * 16384))).toNat))),(58,.v (.slice A s.length c))] hW aD fun dl bF=>?_
 obtain ⟨bQ,bR,aE,bW,aj⟩:=Slots.get ho (i:=3) (by first | omega | (simp only [List.length_append,be_length,List.length_cons,List.length_nil] at *; omega))
 refine B1 (F2 bF (t:=30) (A:=A) (m:=s.length) (q:=3) (d:=59) kz (e:=5) (size:=1) (bytes:=1) (j:=3) kz aE rfl (by first | omega | (simp only [List.length_append,be_length,List.length_cons,List.length_nil] at *; omega)) fun dm bG=>?_)
 refine B1 (G7 bG (t:=5) (b:=bQ) (o:=bR + 3 * 1) (d:=60) kz (cs:=[.int .u8 ((s.getD 3 0).toNat:Int)]) (v:=.int .u8 ((s.getD 3 0).toNat:Int)) kz (AtF.move aj hW.step B0 E6).at_ fun dn bH=>?_)
 refine B3 [4,5,6,7,8] [] [ab,(4,.v (.int .u32 (IntKind.u32.wrap (BitVec.ofInt 32 (IntKind.u32.wrap (BitVec.ofInt 32 (IntKind.u32.wrap (BitVec.ofInt 32 (IntKind.u32.wrap (IntKind.u8.wrap (BitVec.ofInt 8 ((s.getD 0 0).toNat:Int) &&& BitVec.ofInt 8 127).toNat)) ||| BitVec.ofInt 32 (IntKind.u32.wrap ((IntKind.u32.wrap (IntKind.u8.wrap (BitVec.ofInt 8 ((s.getD 1 0).toNat:Int) &&& BitVec.ofInt 8 127).toNat)) * 128))).toNat) ||| BitVec.ofInt 32 (IntKind.u32.wrap ((IntKind.u32.wrap (IntKind.u8.wrap (BitVec.ofInt 8 ((s.getD 2 0).toNat:Int) &&& BitVec.ofInt 8 127).toNat)) * 16384))).toNat) ||| BitVec.ofInt 32 (IntKind.u32.wrap ((IntKind.u32.wrap (IntKind.u8.wrap (BitVec.ofInt 8 ((s.getD 3 0).toNat:Int) &&& BitVec.ofInt 8 127).toNat)) * 2097152))).toNat)))] hW bH fun dp bI=>?_
 refine B4 (A7 ?_)
 refine wp_seq (B8 [0,1,2,3,4] kz ?_)
 refine B3 [0] [1,2,3,4] [ab,(4,.v (.int .u32 (IntKind.u32.wrap (BitVec.ofInt 32 (IntKind.u32.wrap (BitVec.ofInt 32 (IntKind.u32.wrap (BitVec.ofInt 32 (IntKind.u32.wrap (IntKind.u8.wrap (BitVec.ofInt 8 ((s.getD 0 0).toNat:Int) &&& BitVec.ofInt 8 127).toNat)) ||| BitVec.ofInt 32 (IntKind.u32.wrap ((IntKind.u32.wrap (IntKind.u8.wrap (BitVec.ofInt 8 ((s.getD 1 0).toNat:Int) &&& BitVec.ofInt 8 127).toNat)) * 128))).toNat) ||| BitVec.ofInt 32 (IntKind.u32.wrap ((IntKind.u32.wrap (IntKind.u8.wrap (BitVec.ofInt 8 ((s.getD 2 0).toNat:Int) &&& BitVec.ofInt 8 127).toNat)) * 16384))).toNat) ||| BitVec.ofInt 32 (IntKind.u32.wrap ((IntKind.u32.wrap (IntKind.u8.wrap (BitVec.ofInt 8 ((s.getD 3 0).toNat:Int) &&& BitVec.ofInt 8 127).toNat)) * 2097152))).toNat))),(65,.v (.slice A s.length c))] hW bI fun bX aF=>?_
 refine B1 (F2 aF (t:=30) (A:=A) (m:=s.length) (q:=3) (d:=66) kz (e:=5) (size:=1) (bytes:=1) (j:=3) kz aE rfl (by first | omega | (simp only [List.length_append,be_length,List.length_cons,List.length_nil] at *; omega)) fun bY aG=>?_)
 refine B1 (G7 aG (t:=5) (b:=bQ) (o:=bR + 3 * 1) (d:=67) kz (cs:=[.int .u8 ((s.getD 3 0).toNat:Int)]) (v:=.int .u8 ((s.getD 3 0).toNat:Int)) kz (AtF.move aj hW.step B0 E6).at_ fun bZ aH=>?_)
 refine B3 [3,4] [] [ab,(4,.v (.int .u32 (IntKind.u32.wrap (BitVec.ofInt 32 (IntKind.u32.wrap (BitVec.ofInt 32 (IntKind.u32.wrap (BitVec.ofInt 32 (IntKind.u32.wrap (IntKind.u8.wrap (BitVec.ofInt 8 ((s.getD 0 0).toNat:Int) &&& BitVec.ofInt 8 127).toNat)) ||| BitVec.ofInt 32 (IntKind.u32.wrap ((IntKind.u32.wrap (IntKind.u8.wrap (BitVec.ofInt 8 ((s.getD 1 0).toNat:Int) &&& BitVec.ofInt 8 127).toNat)) * 128))).toNat) ||| BitVec.ofInt 32 (IntKind.u32.wrap ((IntKind.u32.wrap (IntKind.u8.wrap (BitVec.ofInt 8 ((s.getD 2 0).toNat:Int) &&& BitVec.ofInt 8 127).toNat)) * 16384))).toNat) ||| BitVec.ofInt 32 (IntKind.u32.wrap ((IntKind.u32.wrap (IntKind.u8.wrap (BitVec.ofInt 8 ((s.getD 3 0).toNat:Int) &&& BitVec.ofInt 8 127).toNat)) * 2097152))).toNat))),(69,.v (.bool ((IntKind.u8.wrap (BitVec.ofInt 8 ((s.getD 3 0).toNat:Int) &&& BitVec.ofInt 8 128).toNat) == 0)))] hW aH fun cd ac=>?_
 refine B4 (A7 ?_)
 refine D8 ac (b:=(IntKind.u8.wrap (BitVec.ofInt 8 ((s.getD 3 0).toNat:Int) &&& BitVec.ofInt 8 128).toNat) == 0) kz (fun ae=>?_) (fun ae=>?_)
 ·
  have q3:oc s 3 < 128:=of_decide_eq_true ((Z9 _ (H6 s 3)).symm.trans ae)
  refine C1 [(2,.v (.int .u32 (IntKind.u32.wrap (BitVec.ofInt 32 (IntKind.u32.wrap (BitVec.ofInt 32 (IntKind.u32.wrap (BitVec.ofInt 32 (IntKind.u32.wrap (IntKind.u8.wrap (BitVec.ofInt 8 ((s.getD 0 0).toNat:Int) &&& BitVec.ofInt 8 127).toNat)) ||| BitVec.ofInt 32 (IntKind.u32.wrap ((IntKind.u32.wrap (IntKind.u8.wrap (BitVec.ofInt 8 ((s.getD 1 0).toNat:Int) &&& BitVec.ofInt 8 127).toNat)) * 128))).toNat) ||| BitVec.ofInt 32 (IntKind.u32.wrap ((IntKind.u32.wrap (IntKind.u8.wrap (BitVec.ofInt 8 ((s.getD 2 0).toNat:Int) &&& BitVec.ofInt 8 127).toNat)) * 16384))).toNat) ||| BitVec.ofInt 32 (IntKind.u32.wrap ((IntKind.u32.wrap (IntKind.u8.wrap (BitVec.ofInt 8 ((s.getD 3 0).toNat:Int) &&& BitVec.ofInt 8 127).toNat)) * 2097152))).toNat))),(3,.v (.int .i64 4))] hW ac fun ce aI=>?_
  refine wp_ret (F5 (CU (D5 aI hW.cells (v:=.tuple #[.int .u32 (IntKind.u32.wrap (BitVec.ofInt 32 (IntKind.u32.wrap (BitVec.ofInt 32 (IntKind.u32.wrap (BitVec.ofInt 32 (IntKind.u32.wrap (IntKind.u8.wrap (BitVec.ofInt 8 ((s.getD 0 0).toNat:Int) &&& BitVec.ofInt 8 127).toNat)) ||| BitVec.ofInt 32 (IntKind.u32.wrap ((IntKind.u32.wrap (IntKind.u8.wrap (BitVec.ofInt 8 ((s.getD 1 0).toNat:Int) &&& BitVec.ofInt 8 127).toNat)) * 128))).toNat) ||| BitVec.ofInt 32 (IntKind.u32.wrap ((IntKind.u32.wrap (IntKind.u8.wrap (BitVec.ofInt 8 ((s.getD 2 0).toNat:Int) &&& BitVec.ofInt 8 127).toNat)) * 16384))).toNat) ||| BitVec.ofInt 32 (IntKind.u32.wrap ((IntKind.u32.wrap (IntKind.u8.wrap (BitVec.ofInt 8 ((s.getD 3 0).toNat:Int) &&& BitVec.ofInt 8 127).toNat)) * 2097152))).toNat),.int .i64 4]) kz ?_)))
  have e_:=Ge (oc s 0) (oc s 1) (oc s 2) (oc s 3) (H6 s 0) (H6 s 1) (H6 s 2) (H6 s 3)
  have r_:M2 s = (oc s 0 - 128 + (oc s 1 - 128) * 128 + (oc s 2 - 128) * 16384 + oc s 3 * 2097152,4):=by unfold M2; rw [if_neg q0,if_neg q1,if_neg q2,if_pos q3]
  have b0_:=H6 s 0
  have b1_:=H6 s 1
  have b2_:=H6 s 2
  have b3_:=H6 s 3
  rw [r_]
  refine ⟨congrArg (fun z_:Int=>Ending.returned (.tuple #[.int .u32 z_,.int .i64 4])) (Eq.trans e_ ?_),hW.step⟩
  show _ = ((oc s 0 - 128 + (oc s 1 - 128) * 128 + (oc s 2 - 128) * 16384 + oc s 3 * 2097152:Nat):Int)
  omega
 have q3:¬ oc s 3 < 128:=of_decide_eq_false ((Z9 _ (H6 s 3)).symm.trans ae)
 have hl5:5 ≤ s.length:=by have:=Ju q0 q1 q2 q3; omega
 have g5:=g4 (Ju q0 q1 q2 q3)
 refine C1 [ab,(4,.v (.int .u32 (IntKind.u32.wrap (BitVec.ofInt 32 (IntKind.u32.wrap (BitVec.ofInt 32 (IntKind.u32.wrap (BitVec.ofInt 32 (IntKind.u32.wrap (IntKind.u8.wrap (BitVec.ofInt 8 ((s.getD 0 0).toNat:Int) &&& BitVec.ofInt 8 127).toNat)) ||| BitVec.ofInt 32 (IntKind.u32.wrap ((IntKind.u32.wrap (IntKind.u8.wrap (BitVec.ofInt 8 ((s.getD 1 0).toNat:Int) &&& BitVec.ofInt 8 127).toNat)) * 128))).toNat) ||| BitVec.ofInt 32 (IntKind.u32.wrap ((IntKind.u32.wrap (IntKind.u8.wrap (BitVec.ofInt 8 ((s.getD 2 0).toNat:Int) &&& BitVec.ofInt 8 127).toNat)) * 16384))).toNat) ||| BitVec.ofInt 32 (IntKind.u32.wrap ((IntKind.u32.wrap (IntKind.u8.wrap (BitVec.ofInt 8 ((s.getD 3 0).toNat:Int) &&& BitVec.ofInt 8 127).toNat)) * 2097152))).toNat))),(73,.v (.bool (decide (((s.length:Nat):Int) < 5))))] hW ac fun cg ak=>?_
 refine F6 ak (b:=decide (((s.length:Nat):Int) < 5)) kz (decide_eq_false (by omega)) ?_
 refine wp_skip (A7 (B8 [0,1,2,3,4,5,6,7] kz ?_))
 refine B3 [0,1] [2,3,4,5,6,7] [ab,(74,.v (.int .u32 (IntKind.u32.wrap (BitVec.ofInt 32 (IntKind.u32.wrap (BitVec.ofInt 32 (IntKind.u32.wrap (BitVec.ofInt 32 (IntKind.u32.wrap (IntKind.u8.wrap (BitVec.ofInt 8 ((s.getD 0 0).toNat:Int) &&& BitVec.ofInt 8 127).toNat)) ||| BitVec.ofInt 32 (IntKind.u32.wrap ((IntKind.u32.wrap (IntKind.u8.wrap (BitVec.ofInt 8 ((s.getD 1 0).toNat:Int) &&& BitVec.ofInt 8 127).toNat)) * 128))).toNat) ||| BitVec.ofInt 32 (IntKind.u32.wrap ((IntKind.u32.wrap (IntKind.u8.wrap (BitVec.ofInt 8 ((s.getD 2 0).toNat:Int) &&& BitVec.ofInt 8 127).toNat)) * 16384))).toNat) ||| BitVec.ofInt 32 (IntKind.u32.wrap ((IntKind.u32.wrap (IntKind.u8.wrap (BitVec.ofInt 8 ((s.getD 3 0).toNat:Int) &&& BitVec.ofInt 8 127).toNat)) * 2097152))).toNat))),(75,.v (.slice A s.length c))] hW ak fun cm aJ=>?_
 obtain ⟨aK,aL,al,bS,af⟩:=Slots.get ho (i:=4) (by first | omega | (simp only [List.length_append,be_length,List.length_cons,List.length_nil] at *; omega))
 refine B1 (F2 aJ (t:=30) (A:=A) (m:=s.length) (q:=4) (d:=76) kz (e:=5) (size:=1) (bytes:=1) (j:=4) kz al rfl (by first | omega | (simp only [List.length_append,be_length,List.length_cons,List.length_nil] at *; omega)) fun cn aM=>?_)
 refine B1 (G7 aM (t:=5) (b:=aK) (o:=aL + 4 * 1) (d:=77) kz (cs:=[.int .u8 ((s.getD 4 0).toNat:Int)]) (v:=.int .u8 ((s.getD 4 0).toNat:Int)) kz (AtF.move af hW.step B0 E6).at_ fun cq aN=>?_)
 refine B3 [4,5,6,7] [] [ab,(4,.v (.int .u32 (IntKind.u32.wrap (BitVec.ofInt 32 (IntKind.u32.wrap (BitVec.ofInt 32 (IntKind.u32.wrap (BitVec.ofInt 32 (IntKind.u32.wrap (BitVec.ofInt 32 (IntKind.u32.wrap (IntKind.u8.wrap (BitVec.ofInt 8 ((s.getD 0 0).toNat:Int) &&& BitVec.ofInt 8 127).toNat)) ||| BitVec.ofInt 32 (IntKind.u32.wrap ((IntKind.u32.wrap (IntKind.u8.wrap (BitVec.ofInt 8 ((s.getD 1 0).toNat:Int) &&& BitVec.ofInt 8 127).toNat)) * 128))).toNat) ||| BitVec.ofInt 32 (IntKind.u32.wrap ((IntKind.u32.wrap (IntKind.u8.wrap (BitVec.ofInt 8 ((s.getD 2 0).toNat:Int) &&& BitVec.ofInt 8 127).toNat)) * 16384))).toNat) ||| BitVec.ofInt 32 (IntKind.u32.wrap ((IntKind.u32.wrap (IntKind.u8.wrap (BitVec.ofInt 8 ((s.getD 3 0).toNat:Int) &&& BitVec.ofInt 8 127).toNat)) * 2097152))).toNat) ||| BitVec.ofInt 32 (IntKind.u32.wrap ((IntKind.u32.wrap ((s.getD 4 0).toNat:Int)) * 268435456))).toNat)))] hW aN fun cr aO=>?_
 refine B4 (A7 ?_)
 refine wp_seq (B8 [0,1,2,3] kz ?_)
 refine B3 [0] [1,2,3] [(4,.v (.int .u32 (IntKind.u32.wrap (BitVec.ofInt 32 (IntKind.u32.wrap (BitVec.ofInt 32 (IntKind.u32.wrap (BitVec.ofInt 32 (IntKind.u32.wrap (BitVec.ofInt 32 (IntKind.u32.wrap (IntKind.u8.wrap (BitVec.ofInt 8 ((s.getD 0 0).toNat:Int) &&& BitVec.ofInt 8 127).toNat)) ||| BitVec.ofInt 32 (IntKind.u32.wrap ((IntKind.u32.wrap (IntKind.u8.wrap (BitVec.ofInt 8 ((s.getD 1 0).toNat:Int) &&& BitVec.ofInt 8 127).toNat)) * 128))).toNat) ||| BitVec.ofInt 32 (IntKind.u32.wrap ((IntKind.u32.wrap (IntKind.u8.wrap (BitVec.ofInt 8 ((s.getD 2 0).toNat:Int) &&& BitVec.ofInt 8 127).toNat)) * 16384))).toNat) ||| BitVec.ofInt 32 (IntKind.u32.wrap ((IntKind.u32.wrap (IntKind.u8.wrap (BitVec.ofInt 8 ((s.getD 3 0).toNat:Int) &&& BitVec.ofInt 8 127).toNat)) * 2097152))).toNat) ||| BitVec.ofInt 32 (IntKind.u32.wrap ((IntKind.u32.wrap ((s.getD 4 0).toNat:Int)) * 268435456))).toNat))),(81,.v (.slice A s.length c))] hW aO fun cu aP=>?_
 refine B1 (F2 aP (t:=30) (A:=A) (m:=s.length) (q:=4) (d:=82) kz (e:=5) (size:=1) (bytes:=1) (j:=4) kz al rfl (by first | omega | (simp only [List.length_append,be_length,List.length_cons,List.length_nil] at *; omega)) fun cw aQ=>?_)
 refine B1 (G7 aQ (t:=5) (b:=aK) (o:=aL + 4 * 1) (d:=83) kz (cs:=[.int .u8 ((s.getD 4 0).toNat:Int)]) (v:=.int .u8 ((s.getD 4 0).toNat:Int)) kz (AtF.move af hW.step B0 E6).at_ fun cz aR=>?_)
 refine B3 [3] [] [(4,.v (.int .u32 (IntKind.u32.wrap (BitVec.ofInt 32 (IntKind.u32.wrap (BitVec.ofInt 32 (IntKind.u32.wrap (BitVec.ofInt 32 (IntKind.u32.wrap (BitVec.ofInt 32 (IntKind.u32.wrap (IntKind.u8.wrap (BitVec.ofInt 8 ((s.getD 0 0).toNat:Int) &&& BitVec.ofInt 8 127).toNat)) ||| BitVec.ofInt 32 (IntKind.u32.wrap ((IntKind.u32.wrap (IntKind.u8.wrap (BitVec.ofInt 8 ((s.getD 1 0).toNat:Int) &&& BitVec.ofInt 8 127).toNat)) * 128))).toNat) ||| BitVec.ofInt 32 (IntKind.u32.wrap ((IntKind.u32.wrap (IntKind.u8.wrap (BitVec.ofInt 8 ((s.getD 2 0).toNat:Int) &&& BitVec.ofInt 8 127).toNat)) * 16384))).toNat) ||| BitVec.ofInt 32 (IntKind.u32.wrap ((IntKind.u32.wrap (IntKind.u8.wrap (BitVec.ofInt 8 ((s.getD 3 0).toNat:Int) &&& BitVec.ofInt 8 127).toNat)) * 2097152))).toNat) ||| BitVec.ofInt 32 (IntKind.u32.wrap ((IntKind.u32.wrap ((s.getD 4 0).toNat:Int)) * 268435456))).toNat))),(84,.v (.bool (decide (((s.getD 4 0).toNat:Int) ≤ 15))))] hW aR fun cA am=>?_
 refine B4 (A7 ?_)
 refine Q6 am (b:=decide (((s.getD 4 0).toNat:Int) ≤ 15)) kz (decide_eq_true (by have:=g5; unfold oc at this; omega)) ?_
 refine C1 [(2,.v (.int .u32 (IntKind.u32.wrap (BitVec.ofInt 32 (IntKind.u32.wrap (BitVec.ofInt 32 (IntKind.u32.wrap (BitVec.ofInt 32 (IntKind.u32.wrap (BitVec.ofInt 32 (IntKind.u32.wrap (IntKind.u8.wrap (BitVec.ofInt 8 ((s.getD 0 0).toNat:Int) &&& BitVec.ofInt 8 127).toNat)) ||| BitVec.ofInt 32 (IntKind.u32.wrap ((IntKind.u32.wrap (IntKind.u8.wrap (BitVec.ofInt 8 ((s.getD 1 0).toNat:Int) &&& BitVec.ofInt 8 127).toNat)) * 128))).toNat) ||| BitVec.ofInt 32 (IntKind.u32.wrap ((IntKind.u32.wrap (IntKind.u8.wrap (BitVec.ofInt 8 ((s.getD 2 0).toNat:Int) &&& BitVec.ofInt 8 127).toNat)) * 16384))).toNat) ||| BitVec.ofInt 32 (IntKind.u32.wrap ((IntKind.u32.wrap (IntKind.u8.wrap (BitVec.ofInt 8 ((s.getD 3 0).toNat:Int) &&& BitVec.ofInt 8 127).toNat)) * 2097152))).toNat) ||| BitVec.ofInt 32 (IntKind.u32.wrap ((IntKind.u32.wrap ((s.getD 4 0).toNat:Int)) * 268435456))).toNat))),(3,.v (.int .i64 5))] hW am fun cB aS=>?_
 refine wp_ret (F5 (CU (D5 aS hW.cells (v:=.tuple #[.int .u32 (IntKind.u32.wrap (BitVec.ofInt 32 (IntKind.u32.wrap (BitVec.ofInt 32 (IntKind.u32.wrap (BitVec.ofInt 32 (IntKind.u32.wrap (BitVec.ofInt 32 (IntKind.u32.wrap (IntKind.u8.wrap (BitVec.ofInt 8 ((s.getD 0 0).toNat:Int) &&& BitVec.ofInt 8 127).toNat)) ||| BitVec.ofInt 32 (IntKind.u32.wrap ((IntKind.u32.wrap (IntKind.u8.wrap (BitVec.ofInt 8 ((s.getD 1 0).toNat:Int) &&& BitVec.ofInt 8 127).toNat)) * 128))).toNat) ||| BitVec.ofInt 32 (IntKind.u32.wrap ((IntKind.u32.wrap (IntKind.u8.wrap (BitVec.ofInt 8 ((s.getD 2 0).toNat:Int) &&& BitVec.ofInt 8 127).toNat)) * 16384))).toNat) ||| BitVec.ofInt 32 (IntKind.u32.wrap ((IntKind.u32.wrap (IntKind.u8.wrap (BitVec.ofInt 8 ((s.getD 3 0).toNat:Int) &&& BitVec.ofInt 8 127).toNat)) * 2097152))).toNat) ||| BitVec.ofInt 32 (IntKind.u32.wrap ((IntKind.u32.wrap ((s.getD 4 0).toNat:Int)) * 268435456))).toNat),.int .i64 5]) kz ?_)))
 have e_:=Gf (oc s 0) (oc s 1) (oc s 2) (oc s 3) (oc s 4) (H6 s 0) (H6 s 1) (H6 s 2) (H6 s 3) g5
 have r_:M2 s = (oc s 0 - 128 + (oc s 1 - 128) * 128 + (oc s 2 - 128) * 16384 + (oc s 3 - 128) * 2097152 + oc s 4 * 268435456,5):=by unfold M2; rw [if_neg q0,if_neg q1,if_neg q2,if_neg q3]
 have b0_:=H6 s 0
 have b1_:=H6 s 1
 have b2_:=H6 s 2
 have b3_:=H6 s 3
 have b4_:=H6 s 4
 rw [r_]
 refine ⟨congrArg (fun z_:Int=>Ending.returned (.tuple #[.int .u32 z_,.int .i64 5])) (Eq.trans e_ ?_),hW.step⟩
 show _ = ((oc s 0 - 128 + (oc s 1 - 128) * 128 + (oc s 2 - 128) * 16384 + (oc s 3 - 128) * 2097152 + oc s 4 * 268435456:Nat):Int)
 omega
theorem MP (x:Nat) (hx:x < 4294967296) (rest:Bs):M2 (uv x ++ rest) = (x,(uv x).length) ∧ ((uv x).length = 5 → oc (uv x ++ rest) 4 < 16):=by
 have hl:=Z5 hx
 unfold M2
 by_cases h1:x < 128
 ·rw [if_pos h1] at hl
  have o0:oc (uv x ++ rest) 0 = x:=by rw [Y0,if_pos h1]
  exact ⟨by rw [if_pos (by omega),o0,hl],fun h=>by omega⟩
 rw [if_neg h1] at hl
 have o0:oc (uv x ++ rest) 0 = x % 128 + 128:=by rw [Y0,if_neg h1]
 have o1:oc (uv x ++ rest) 1 = oc (uv (x / 128) ++ rest) 0:=V3 (by omega) rest 0
 by_cases h2:x < 16384
 ·rw [if_pos h2] at hl
  rw [Y0,if_pos (by omega)] at o1
  exact ⟨by rw [if_neg (by omega),if_pos (by omega),o0,o1,hl]; exact congrArg (fun z_=>(z_,2)) (by omega),fun h=>by omega⟩
 rw [if_neg h2] at hl
 have o2:oc (uv x ++ rest) 2 = oc (uv (x / 128 / 128) ++ rest) 0:=(V3 (by omega) rest 1).trans (V3 (by omega) rest 0)
 rw [Y0,if_neg (by omega)] at o1
 by_cases h3:x < 2097152
 ·rw [if_pos h3] at hl
  rw [Y0,if_pos (by omega)] at o2
  exact ⟨by rw [if_neg (by omega),if_neg (by omega),if_pos (by omega),o0,o1,o2,hl]; exact congrArg (fun z_=>(z_,3)) (by omega),fun h=>by omega⟩
 rw [if_neg h3] at hl
 have o3:oc (uv x ++ rest) 3 = oc (uv (x / 128 / 128 / 128) ++ rest) 0:=(V3 (by omega) rest 2).trans ((V3 (by omega) rest 1).trans (V3 (by omega) rest 0))
 rw [Y0,if_neg (by omega)] at o2
 by_cases h4:x < 268435456
 ·rw [if_pos h4] at hl
  rw [Y0,if_pos (by omega)] at o3
  exact ⟨by rw [if_neg (by omega),if_neg (by omega),if_neg (by omega),if_pos (by omega),o0,o1,o2,o3,hl]; exact congrArg (fun z_=>(z_,4)) (by omega),fun h=>by omega⟩
 rw [if_neg h4] at hl
 have o4:oc (uv x ++ rest) 4 = oc (uv (x / 128 / 128 / 128 / 128) ++ rest) 0:=(V3 (by omega) rest 3).trans ((V3 (by omega) rest 2).trans ((V3 (by omega) rest 1).trans (V3 (by omega) rest 0)))
 rw [Y0,if_neg (by omega)] at o3
 rw [Y0,if_pos (by omega)] at o4
 exact ⟨by rw [if_neg (by omega),if_neg (by omega),if_neg (by omega),if_neg (by omega),o0,o1,o2,o3,o4,hl]; exact congrArg (fun z_=>(z_,5)) (by omega),fun h=>by omega⟩
theorem MQ (x:Nat) (hx:x < 4294967296) (rest:Bs) {A:Option Addr} {c:Nat} {w:World} {F:Nat → Nat → Prop} (ho:Octs w F A c (uv x ++ rest)) :
  Calls Tryz.prog 132 #[.slice A (uv x ++ rest).length c] w (N5 w (.tuple #[.int .u32 ((x:Nat):Int),.int .i64 (((uv x).length:Nat):Int)])):=by
 have h:=MP x hx rest
 have h2:=Gw (uv x ++ rest) ho (by rw [h.1,List.length_append]; exact Nat.le_add_right _ _) (fun e=>h.2 (by rw [h.1] at e; exact e))
 rw [h.1] at h2
 exact h2
theorem Bg (x:Nat) (hx:x < 4294967296) (rest:Bs)  {br:Nat} {A:Option Addr} {m c:Nat} {w:World} {F:Nat → Nat → Prop} (hst:Str w br [.slice A m c,.bool false]) (hr:RdS w F A m c (uv x ++ rest)) (hFd:∀ b o,F b o → ¬ H2 br b o) :
  Calls Tryz.prog 119 #[.pointer (some ⟨br,0,none⟩)] w (RdPost w br F rest fun v w'=>v = .int .u32 ((x:Nat):Int)):=by
 obtain ⟨hm,ho⟩:=hr
 subst hm
 have hle:=ho.le
 have hpos:=DO x
 refine enter (n:=31) Tryz.func119 rfl Tryz.ntmps119 kz fun a hE=>?_
 let ac:Value:=.slice A ((uv x ++ rest).length) c
 have hW:WOk w (H2 br) w [⟨br,0,[ac,.bool false],true⟩] []:=WOk.startStr hst
 have hE1:=(hE.grow ⟨br,0,[ac,.bool false],true⟩).recast 0 (.v (.pointer (some ⟨br,0,none⟩))) (.p 0 0) rfl rfl (Nat.le_of_ble_eq_true (n:=1) rfl)
 refine C1 [(0,.p 0 0)] hW hE1 fun a1 hE2=>?_
 refine B8 [0,1,2,3,4,5,6,7,8,9] kz ?_
 refine B3 [0,1,2,3] [4,5,6,7,8,9] [(0,.p 0 0),(9,.v (.slice A ((uv x ++ rest).length) c))] hW hE2 fun a3 hE4=>?_
 refine B1 (C3 hE4 (f:=132) (vs:=[ac]) (d:=10) kz Tryz.call132 (MQ x hx rest (ho.move hW.step (fun b_ o_ h_ _=>hFd b_ o_ h_) (hW.immM hFd))) ?_)
 rintro e_ w6 ⟨rfl,hs5⟩
 refine ⟨_,rfl,fun a7 hE8=>?_⟩
 have hW9:=hW.next_nil hs5
 have ao:=hW.frN hs5
 let ab:Nat × SV:=(3,.v (.int .u32 ((x:Nat):Int)))
 let af:Nat × SV:=(4,.v (.int .i64 (((uv x).length:Nat):Int)))
 refine B3 [5,6,7,8,9] [] [(0,.p 0 0),ab,af] hW9 hE8 fun ar ah=>?_
 refine B4 (A7 ?_)
 refine wp_seq (C1 [(0,.p 0 0),ab,af,(14,.v (.bool (decide ((((uv x).length:Nat):Int) ≤ 0))))] hW9 ah fun au ag=>?_)
 refine F6 ag (b:=decide ((((uv x).length:Nat):Int) ≤ 0)) kz (decide_eq_false (by omega)) ?_
 refine wp_skip (A7 (B8 [0,1,2,3,4,5,6,7,8,9] kz ?_))
 refine B3 [0,1,2,3,4,5] [6,7,8,9] [ab,(21,.p 0 0),(25,.v (.slice A ((uv x ++ rest).length) c)),(26,.v (.int .i64 (((uv x).length:Nat):Int)))] hW9 ag fun av ai=>?_
 refine B1 (Ec ai (t:=30) (A:=A) (m:=((uv x ++ rest).length)) (cp:=c) (q:=(((uv x).length:Nat):Int)) (d:=27) (j:=((uv x).length)) kz (e:=5) (bytes:=1) kz (rfl) (by first | omega | (simp only [List.length_append,be_length,List.length_cons,List.length_nil] at *; omega)) fun aw aj=>?_)
 refine B3 [7,8] [9] [ab,(27,.v (.slice (J9 A c ((uv x).length)) (((uv x ++ rest).length) - ((uv x).length)) (c - ((uv x).length)))),(29,.p 0 0)] hW9 aj fun ax ak=>?_
 refine B1 (C7 hW9 ak (oi:=0) (cs:=[.slice (J9 A c ((uv x).length)) (((uv x ++ rest).length) - ((uv x).length)) (c - ((uv x).length)),.bool false]) kz fun ay ap ae al=>?_)
 refine B4 (A7 ?_)
 refine C1 [(2,.v (.int .u32 ((x:Nat):Int)))] ae al fun aA am=>?_
 refine wp_ret (D5 am ae.cells (v:=.int .u32 ((x:Nat):Int)) kz ?_)
 exact ⟨_,_,_,_,rfl,Str.of ae 0 rfl,RdS.drop (s:=uv x) ⟨rfl,ho.move ae.step (fun b_ o_ h_ _=>hFd b_ o_ h_) E6⟩ (rfl),ae.step,rfl⟩
theorem Bh (X:Bs) (rest:Bs)  {br:Nat} {A:Option Addr} {m c:Nat} {w:World} {F:Nat → Nat → Prop} (hst:Str w br [.slice A m c,.bool false]) (hr:RdS w F A m c (X ++ rest)) (hFd:∀ b o,F b o → ¬ H2 br b o) :
  Calls Tryz.prog 121 #[.pointer (some ⟨br,0,none⟩),.int .i64 ((X.length:Nat):Int)] w (RdPost w br F rest fun v w'=>∃ A2,v = .slice A2 X.length X.length ∧ Octs w' F A2 X.length X):=by
 obtain ⟨hm,ho⟩:=hr
 subst hm
 have hle:=ho.le
 refine enter (n:=40) Tryz.func121 rfl Tryz.ntmps121 kz fun a hE=>?_
 have hW:WOk w (H2 br) w [⟨br,0,[.slice A ((X ++ rest).length) c,.bool false],true⟩] []:=WOk.startStr hst
 have hE1:=(hE.grow ⟨br,0,[.slice A ((X ++ rest).length) c,.bool false],true⟩).recast 0 (.v (.pointer (some ⟨br,0,none⟩))) (.p 0 0) rfl rfl (Nat.le_of_ble_eq_true (n:=1) rfl)
 let ab:Nat × SV:=(0,.p 0 0)
 let ac:Nat × SV:=(1,.v (.int .i64 ((X.length:Nat):Int)))
 refine C1 [ab,ac] hW hE1 fun a1 hE2=>?_
 refine wp_seq (B8 [0,1,2,3,4,5,6,7,8,9,10] kz ?_)
 refine B3 [0,1,2,3,4,5,6,7] [8,9,10] [ab,ac,(13,.v (.bool (decide ((((X ++ rest).length:Nat):Int) < ((X.length:Nat):Int)))))] hW hE2 fun a3 hE4=>?_
 have hc5:(decide ((((X ++ rest).length:Nat):Int) < ((X.length:Nat):Int))) = false:=decide_eq_false (by first | omega | (simp only [List.length_append,be_length,List.length_cons,List.length_nil] at *; omega))
 have hE6:=hE4
 rw [hc5] at hE6
 refine B3 [8,9,10] [] [ab,ac,(16,.v (.bool (decide (((X.length:Nat):Int) < 0))))] hW hE6 fun a7 hE8=>?_
 refine B4 (A7 ?_)
 refine F6 hE8 (b:=decide (((X.length:Nat):Int) < 0)) kz (decide_eq_false (by first | omega | (simp only [List.length_append,be_length,List.length_cons,List.length_nil] at *; omega))) ?_
 refine wp_skip (A7 (B8 [0,1,2,3,4,5,6,7] kz ?_))
 refine B3 [0,1,2,3,4,5] [6,7] [ab,ac,(26,.v (.slice A ((X ++ rest).length) c)),(27,.v (.int .i64 ((X.length:Nat):Int))),(28,.v (.int .i64 ((X.length:Nat):Int)))] hW hE8 fun a9 ag=>?_
 refine B1 (LL ag (t:=30) (A:=A) (m:=((X ++ rest).length)) (cp:=c) (k:=.i64) (q:=((X.length:Nat):Int)) (d:=29) (j:=X.length) kz (e:=5) (bytes:=1) kz (rfl) (by first | omega | (simp only [List.length_append,be_length,List.length_cons,List.length_nil] at *; omega)) fun ar ah=>?_)
 let af:Nat × SV:=(5,.v (.slice A X.length X.length))
 refine B3 [7] [] [ab,ac,af] hW ah fun au ai=>?_
 refine B4 (A7 ?_)
 refine B8 [0,1,2,3,4,5,6,7,8,9] kz ?_
 refine B3 [0,1,2,3,4,5] [6,7,8,9] [af,(30,.p 0 0),(34,.v (.slice A ((X ++ rest).length) c)),(35,.v (.int .i64 ((X.length:Nat):Int)))] hW ai fun av aj=>?_
 refine B1 (Ec aj (t:=30) (A:=A) (m:=((X ++ rest).length)) (cp:=c) (q:=((X.length:Nat):Int)) (d:=36) (j:=X.length) kz (e:=5) (bytes:=1) kz (rfl) (by first | omega | (simp only [List.length_append,be_length,List.length_cons,List.length_nil] at *; omega)) fun aw ak=>?_)
 refine B3 [7,8] [9] [af,(36,.v (.slice (J9 A c X.length) (((X ++ rest).length) - X.length) (c - X.length))),(38,.p 0 0)] hW ak fun ax al=>?_
 refine B1 (C7 hW al (oi:=0) (cs:=[.slice (J9 A c X.length) (((X ++ rest).length) - X.length) (c - X.length),.bool false]) kz fun ay ap ae am=>?_)
 refine B4 (A7 ?_)
 refine C1 [(4,.v (.slice A X.length X.length))] ae am fun aA ao=>?_
 refine wp_ret (D5 ao ae.cells (v:=.slice A X.length X.length) kz ?_)
 exact ⟨_,_,_,_,rfl,Str.of ae 0 rfl,RdS.drop (s:=X) ⟨rfl,ho.move ae.step (fun b_ o_ h_ _=>hFd b_ o_ h_) E6⟩ (rfl),ae.step,A,rfl,RdS.front (s:=X) ⟨rfl,ho.move ae.step (fun b_ o_ h_ _=>hFd b_ o_ h_) E6⟩ rfl⟩
abbrev z2 (x0) (x1) (x2) (x3):=([⟨x0,0,[.slice x1 x2 x3,.bool false],true⟩]:Tb)
theorem Gx {br:Nat} {A:Option Addr} {m c:Nat} {w:World} (hst:Str w br [.slice A m c,.bool false]) :
  Calls Tryz.prog 103 #[.pointer (some ⟨br,0,none⟩)] w (fun e w'=>e = .returned .nilIface ∧ w' = w):=by
 refine enter (n:=8) Tryz.func103 rfl Tryz.ntmps103 kz fun a hE=>?_
 have hW:WOk w (H2 br) w (z2 br A m c) []:=WOk.startStr hst
 have hE1:=(hE.grow ⟨br,0,[.slice A m c,.bool false],true⟩).recast 0 (.v (.pointer (some ⟨br,0,none⟩))) (.p 0 0) rfl rfl (Nat.le_of_ble_eq_true (n:=1) rfl)
 refine C1 [(0,.p 0 0)] hW hE1 fun a1 hE2=>?_
 refine wp_seq (C1 [(6,.v (.bool false))] hW hE2 fun a3 hE4=>?_)
 refine F6 hE4 (b:=false) kz rfl ?_
 refine wp_skip (A7 (C1 [(2,.v (.nilIface))] hW hE4 fun a5 hE6=>?_))
 refine wp_ret (D5 hE6 hW.cells (v:=.nilIface) kz ?_)
 exact ⟨rfl,rfl⟩
structure TR (w w':World) (br p2 p3:Nat) (F:Nat → Nat → Prop) (A:Option Addr) (n c:Nat) (s:Bs) (m:Option Nat) (u:List (Int × Bs)):Prop where
 step:Step w w' (H2 br)
 old:br < w.heap.size
 new2:w.heap.size ≤ p2
 new3:w.heap.size ≤ p3
 ne:p2 ≠ p3
 rd:Str w' br [.slice A n c,.bool false]
 s2:Str w' p2 [.map none]
 s3:Str w' p3 [.map m]
 oct:RdS w' (fun b o=>F b o ∧ b < w.heap.size) A n c s
 own:OwnM w' (fun b o=>F b o ∧ b < w.heap.size) m u
 new:∀ r,m = some r → w.heap.size ≤ r
theorem TR.mne {w w':World} {br p2 p3:Nat} {F:Nat → Nat → Prop} {A:Option Addr} {n c:Nat} {s:Bs} {m:Option Nat} {u:List (Int × Bs)} (h:TR w w' br p2 p3 F A n c s m u):m ≠ some p2 ∧ m ≠ some p3:=by
 refine ⟨fun e=>?_,fun e=>?_⟩
 ·obtain ⟨es,clk,h1,_⟩:=h.own.some_ p2 e
  exact DQ (h.s2.at_ 0 _ rfl) h1 rfl
 obtain ⟨es,clk,h1,_⟩:=h.own.some_ p3 e
 exact DQ (h.s3.at_ 0 _ rfl) h1 rfl
theorem TR.read {w w' w1:World} {br p2 p3:Nat} {F:Nat → Nat → Prop} {A A':Option Addr} {n c n' c':Nat} {s s':Bs} {m:Option Nat} {u:List (Int × Bs)} (h:TR w w' br p2 p3 F A n c s m u) (hFd:∀ b o,F b o → ¬ H2 br b o) (hs:Str w1 br [.slice A' n' c',.bool false]) (hr:RdS w1 (fun b o=>F b o ∧ b < w.heap.size) A' n' c' s') (hst:Step w' w1 (H2 br)):TR w w1 br p2 p3 F A' n' c' s' m u:=by
 have ho:=h.old
 have h2:=h.new2
 have h3:=h.new3
 refine ⟨h.step.trans hst fun _ _ _ e=>e,ho,h2,h3,h.ne,hs,h.s2.move hst fun o e=>?_,h.s3.move hst fun o e=>?_,hr,h.own.move hst (fun b o hg _=>hFd b o hg.1) E6 (fun r o e he=>?_),h.new⟩
 ·have:=e.1; omega
 ·have:=e.1; omega
 have:=h.new r e; have:=he.1; omega
theorem TR.set {w w':World} {br p2 p3:Nat} {F:Nat → Nat → Prop} {A A1:Option Addr} {n c c1 j:Nat} {s x:Bs} {k:Int} {m:Option Nat} {u:List (Int × Bs)} (h:TR w w' br p2 p3 F A n c s m (u.take j)) (hsort:P7 u) (hj:u[j]? = some (k,x)) (hx:Octs w' (fun b o=>F b o ∧ b < w.heap.size) A1 c1 x) (hk:0 ≤ k ∧ k < 4294967296) :
  Calls Tryz.prog 64 [.pointer (some ⟨p3,0,none⟩),.int .u32 k,.slice A1 x.length c1].toArray w' (fun e w1=>e = .returned (.tuple #[]) ∧ ∃ r,TR w w1 br p2 p3 F A n c s (some r) (u.take (j + 1))):=by
 have hcell:w'.cell? ⟨p3,0,none⟩ = some (.map m):=h.s3.at_ 0 _ rfl
 have hfz:w'.frozen? ⟨p3,0,none⟩ = false:=h.s3.frz 0 (by simp)
 have hnew:=h.new
 have h2:=h.new2
 have h3:=h.new3
 have ho:=h.old
 have hsz:=h.step.size
 obtain ⟨m2,m3⟩:=h.mne
 refine (HU hcell hfz h.own hx hk (fun b' o' hg=>⟨fun e=>?_,fun e=>?_⟩) (fun b' o' hg=>Nat.lt_of_lt_of_le hg.2 hsz)).mono ?_
 ·have:=hg.2; omega
 ·have:=hnew b' e; have:=hg.2; omega
 rintro e w1 ⟨rfl,r,g1,g2,g3,g4,g5⟩
 rw [Ih hsort hj] at g3
 refine ⟨rfl,r,h.step.trans g5 fun b o hl e=>?_,ho,h2,h3,h.ne,h.rd.move g5 fun o e=>?_,h.s2.move g5 fun o e=>?_,⟨fun i v hi=>?_,fun i hi=>?_⟩,⟨h.oct.len,Octs.move h.oct.oct g5 (fun b o hg _ e=>?_) E6⟩,g3,fun r' hr'=>?_⟩
 ·rcases e with ⟨e1,_⟩ | e1
  ·omega
  have:=hnew b e1; omega
 ·rcases e with ⟨e1,_⟩ | e1
  ·omega
  have:=hnew br e1; omega
 ·rcases e with ⟨e1,_⟩ | e1
  ·exact h.ne e1
  exact m2 e1
 ·cases i with
  | zero =>
   simp only [List.getElem?_cons_zero,Option.some.injEq] at hi
   subst hi
   exact g1
  | succ i=>simp at hi
 ·have:i = 0:=by simp at hi; omega
  subst this
  exact g2
 ·have:=hg.2
  rcases e with ⟨e1,_⟩ | e1
  ·omega
  have:=hnew b e1; omega
 obtain rfl:=Option.some.inj hr'
 rcases g4 with g4 | g4
 ·exact hnew _ g4
 exact Nat.le_trans hsz g4
theorem MR (x:Int × Bs) (u:List (Int × Bs)):H0 (x :: u) = N9 x.1 x.2 ++ H0 u:=by unfold H0; rw [List.flatMap_cons]
theorem MS {u:List (Int × Bs)} {j:Nat} {k:Int} {x:Bs} (h:u[j]? = some (k,x)) (rest:Bs):H0 (u.drop j) ++ rest = uv k.toNat ++ (uv x.length ++ (x ++ (H0 (u.drop (j + 1)) ++ rest))):=by
 obtain ⟨hlt,he⟩:=List.getElem?_eq_some_iff.1 h
 rw [List.drop_eq_getElem_cons hlt,he,MR]
 simp only [N9,List.append_assoc]
abbrev z5 (x0) (x1):=([.pointer (some ⟨x0,0,none⟩),.int .i64 ((x1:Nat):Int)]:List Value)
theorem MT (u:List (Int × Bs)) (rest:Bs) (hsort:P7 u) (hk:∀ x ∈ u,0 ≤ x.1 ∧ x.1 < 4294967296) (hul:u.length ≤ 1000000) (hxl:∀ x ∈ u,x.2.length < 4294967296) {br:Nat} {A:Option Addr} {m c:Nat} {w:World} {F:Nat → Nat → Prop} (hst:Str w br [.slice A m c,.bool false]) (hr:RdS w F A m c (uv u.length ++ (H0 u ++ rest))) (hFd:∀ b o,F b o → ¬ H2 br b o) :
  Calls Tryz.prog 107 #[.pointer (some ⟨br,0,none⟩)] w (RdPost w br (Fp F w) rest fun v w'=>∃ mm,v = .agg #[.map mm] ∧ MapR w' (Fp F w) mm u ∧ (u = [] → mm = none)):=by
 have hbr:br < w.heap.size:=World.lt_of_cell (hst.at_ 0 _ rfl)
 refine enter (n:=24) (vs:=[.pointer (some ⟨br,0,none⟩)]) Tryz.func107 rfl Tryz.ntmps107 kz fun a hE=>?_
 have hW:=WOk.start w B5
 refine B8 [0] kz ?_
 refine B1 (D7 hW hE (d:=2) (cs:=[.map none]) kz fun p2 a1 w1 hp2 hz2 hF1 hW1 hE1=>B4 (A7 ?_))
 refine B8 [0] kz ?_
 refine B1 (D7 hW1 hE1 (d:=3) (cs:=[.map none]) kz fun p3 a2 w2 hp3 hz3 hF2 hW2 hE2=>B4 (A7 ?_))
 have hne:p2 ≠ p3:=by
  have h1:=hW1.live 0 _ rfl
  simp only at h1
  omega
 have hS:Step w w2 B5:=hW2.step
 have hT0:TR w w2 br p2 p3 F A m c (uv u.length ++ (H0 u ++ rest)) none (u.take 0):=by
  refine ⟨hS.mono fun _ _ _ h=>h.elim,hbr,hz2,hz3,hne,hst.move hS (fun _ h=>h),Str.of hW2 0 rfl,Str.of hW2 1 rfl,hr.move hS B0 (fun b o h hb=>⟨h,hb⟩),?_,fun _ h=>by cases h⟩
  rw [List.take_zero]
  exact OwnM.nil _ _
 refine wp_seq ?_
 have hE3:=(((hE2.recast 2 (.p 0 0) (.v (.pointer (some ⟨p2,0,none⟩))) rfl rfl trivial).recast 3 (.p 1 0) (.v (.pointer (some ⟨p3,0,none⟩))) rfl rfl trivial).pick (ks:=[0,2,3]) (env':=[(0,.v (.pointer (some ⟨br,0,none⟩))),(2,.v (.pointer (some ⟨p2,0,none⟩))),(3,.v (.pointer (some ⟨p3,0,none⟩)))]) kz).cutTb 0 kz
 have hWz:=WOk.start w2 B5
 refine B8 [0,1,2] kz ?_
 refine B3 [0] [1,2] [(0,.v (.pointer (some ⟨br,0,none⟩))),(2,.v (.pointer (some ⟨p2,0,none⟩))),(3,.v (.pointer (some ⟨p3,0,none⟩))),(7,.v (.pointer (some ⟨br,0,none⟩)))] hWz hE3 fun a3 hE4=>?_
 have hFd':∀ b o,(F b o ∧ b < w.heap.size) → ¬ H2 br b o:=fun b o h=>hFd b o h.1
 refine B1 (C3 hE4 (f:=119) (vs:=[.pointer (some ⟨br,0,none⟩)]) (d:=8) kz Tryz.call119 (Bg u.length (by omega) (H0 u ++ rest) hT0.rd hT0.oct hFd') ?_)
 rintro e_ w3 ⟨_,A3,n3,c3,rfl,hs3,hr3,hst3,rfl⟩
 have hT1:=hT0.read hFd hs3 hr3 hst3
 refine ⟨_,rfl,fun a4 hE5=>?_⟩
 refine B3 [2] [] [(0,.v (.pointer (some ⟨br,0,none⟩))),(2,.v (.pointer (some ⟨p2,0,none⟩))),(3,.v (.pointer (some ⟨p3,0,none⟩))),(4,.v (.int .u32 ((u.length:Nat):Int)))] (WOk.start w3 B5) hE5 fun a5 hE6=>B4 (A7 ?_)
 refine wp_block ?_
 refine wp_loop_ghost (fun q a_ w_=>∃ (j:Nat) (m_:Option Nat) (A_:Option Addr) (n_ c_:Nat),(j = 0 → m_ = none) ∧ q = u.length - j ∧ j ≤ u.length ∧ EnvOk 24 [] [(0,.v (.pointer (some ⟨br,0,none⟩))),(2,.v (.pointer (some ⟨p2,0,none⟩))),(3,.v (.pointer (some ⟨p3,0,none⟩))),(4,.v (.int .u32 ((u.length - j:Nat):Int)))] a_ ∧ TR w w_ br p2 p3 F A_ n_ c_ (H0 (u.drop j) ++ rest) m_ (u.take j)) u.length
  ⟨0,none,A3,n3,c3,fun _=>rfl,by omega,by omega,hE6,hT1⟩ ?_
 rintro q aq wq ⟨j,m_,A_,n_,c_,hj0,rfl,hj,hEq,hT⟩
 have hWq:=WOk.start wq B5
 refine wp_seq (C1 [(0,.v (.pointer (some ⟨br,0,none⟩))),(2,.v (.pointer (some ⟨p2,0,none⟩))),(3,.v (.pointer (some ⟨p3,0,none⟩))),(4,.v (.int .u32 ((u.length - j:Nat):Int))),(10,.v (.bool (decide (((u.length - j:Nat):Int) > 0))))] hWq hEq fun aq1 hE7=>?_)
 refine D8 hE7 (b:=decide (((u.length - j:Nat):Int) > 0)) kz (fun hc=>?_) (fun hc=>?_)
 ·have hlt:j < u.length:=by have:=of_decide_eq_true hc; omega
  obtain ⟨⟨k,x⟩,hu⟩:∃ y,u[j]? = some y:=⟨_,List.getElem?_eq_getElem hlt⟩
  have hk':=hk (k,x) (List.mem_of_getElem? hu)
  have hx':=hxl (k,x) (List.mem_of_getElem? hu)
  dsimp only at hk' hx'
  have hoct:=hT.oct
  rw [MS hu rest] at hoct
  refine wp_skip (A7 (wp_seq (wp_block ?_)))
  refine B8 [0,1,2,3,4,5] kz ?_
  refine B3 [0] [1,2,3,4,5] [(0,.v (.pointer (some ⟨br,0,none⟩))),(2,.v (.pointer (some ⟨p2,0,none⟩))),(3,.v (.pointer (some ⟨p3,0,none⟩))),(4,.v (.int .u32 ((u.length - j:Nat):Int))),(13,.v (.pointer (some ⟨br,0,none⟩)))] hWq hE7 fun aq2 hE8=>?_
  refine B1 (C3 hE8 (f:=119) (vs:=[.pointer (some ⟨br,0,none⟩)]) (d:=14) kz Tryz.call119 (Bg k.toNat (by omega) _ hT.rd hoct hFd') ?_)
  rintro e_ wa ⟨_,Aa,na,ca,rfl,hsa,hra,hsta,rfl⟩
  have hTa:=hT.read hFd hsa hra hsta
  refine ⟨_,rfl,fun aq3 hE9=>?_⟩
  refine B3 [2] [3,4,5] [(0,.v (.pointer (some ⟨br,0,none⟩))),(2,.v (.pointer (some ⟨p2,0,none⟩))),(3,.v (.pointer (some ⟨p3,0,none⟩))),(4,.v (.int .u32 ((u.length - j:Nat):Int))),(14,.v (.int .u32 ((k.toNat:Nat):Int))),(15,.v (.pointer (some ⟨br,0,none⟩)))] (WOk.start wa B5) hE9 fun aq4 hE10=>?_
  refine B1 (C3 hE10 (f:=119) (vs:=[.pointer (some ⟨br,0,none⟩)]) (d:=16) kz Tryz.call119 (Bg x.length hx' _ hTa.rd hTa.oct hFd') ?_)
  rintro e_ wb ⟨_,Ab,nb,cb,rfl,hsb,hrb,hstb,rfl⟩
  have hTb:=hTa.read hFd hsb hrb hstb
  refine ⟨_,rfl,fun aq5 hE11=>?_⟩
  refine B3 [4,5] [] [(0,.v (.pointer (some ⟨br,0,none⟩))),(2,.v (.pointer (some ⟨p2,0,none⟩))),(3,.v (.pointer (some ⟨p3,0,none⟩))),(4,.v (.int .u32 ((u.length - j:Nat):Int))),(5,.v (.int .u32 ((k.toNat:Nat):Int))),(6,.v (.int .u32 ((x.length:Nat):Int)))] (WOk.start wb B5) hE11 fun aq6 hE12=>B4 (A7 ?_)
  refine D9 [0,1,2,3,4,5] kz ?_
  refine B3 [0,1,2,3] [4,5] [(0,.v (.pointer (some ⟨br,0,none⟩))),(2,.v (.pointer (some ⟨p2,0,none⟩))),(3,.v (.pointer (some ⟨p3,0,none⟩))),(4,.v (.int .u32 ((u.length - j:Nat):Int))),(17,.v (.int .u32 ((k.toNat:Nat):Int))),(18,.v (.pointer (some ⟨br,0,none⟩))),(20,.v (.int .i64 (IntKind.i64.wrap ((x.length:Nat):Int))))] (WOk.start wb B5) hE12 fun aq7 hE13=>?_
  rw [show IntKind.i64.wrap ((x.length:Nat):Int) = ((x.length:Nat):Int) by rw [J0]; omega,show ((k.toNat:Nat):Int) = k by omega] at hE13
  refine B1 (C3 hE13 (f:=121) (vs:=(z5 br x.length)) (d:=21) kz Tryz.call121 (Bh x _ hTb.rd hTb.oct hFd') ?_)
  rintro e_ wc ⟨_,Ac,nc,cc,rfl,hsc,hrc,hstc,Ax,rfl,hox⟩
  have hTc:=hTb.read hFd hsc hrc hstc
  refine ⟨_,rfl,fun aq8 hE14=>?_⟩
  refine B1 (C3 hE14 (f:=64) (vs:=[.pointer (some ⟨p3,0,none⟩),.int .u32 k,.slice Ax x.length x.length]) (d:=22) kz Tryz.call64 (hTc.set hsort hu hox hk') ?_)
  rintro e_ wd ⟨rfl,r,hTd⟩
  refine ⟨_,rfl,fun aq9 hE15=>B4 (G2 (A7 ?_))⟩
  refine D9 [0,1,2] kz (B3 [0,1,2] [] [(0,.v (.pointer (some ⟨br,0,none⟩))),(2,.v (.pointer (some ⟨p2,0,none⟩))),(3,.v (.pointer (some ⟨p3,0,none⟩))),(4,.v (.int .u32 (IntKind.u32.wrap (((u.length - j:Nat):Int) - 1))))] (WOk.start wd B5) hE15 fun aqa hE16=>B4 (A7 ?_))
  rw [show IntKind.u32.wrap (((u.length - j:Nat):Int) - 1) = ((u.length - (j + 1):Nat):Int) by rw [E1]; omega] at hE16
  exact ⟨u.length - (j + 1),by omega,j + 1,some r,Ac,nc,cc,(fun h=>by omega),rfl,by omega,hE16,hTd⟩
 obtain rfl:j = u.length:=by have:=of_decide_eq_false hc; omega
 refine wp_exit (E2 (E2 (G3 (A7 ?_))))
 rw [List.take_length,List.drop_length] at hT
 have hT':TR w wq br p2 p3 F A_ n_ c_ rest m_ u:=hT
 have h2:=hT'.new2
 have h3:=hT'.new3
 have hW9:WOk w (H2 br) wq ([] ++ [⟨p3,0,[.map m_],true⟩] ++ [⟨p2,0,[.map none],true⟩]) []:=by
  have hb:WOk w (H2 br) wq [] []:=⟨hT'.step,fun i o hi=>by simp at hi,fun i o hi=>by simp at hi,fun i o hi=>by simp at hi,fun i j o o' _ hi=>by simp at hi,fun i r hi=>by simp at hi,fun i r hi=>by simp at hi,fun i r hi=>by simp at hi,fun i j r r' _ hi=>by simp at hi⟩
  have h4:=hb.add ⟨p3,0,[.map m_],true⟩ (World.lt_of_cell (hT'.s3.at_ 0 _ rfl)) (fun j v hj=>by rw [Nat.zero_add]; exact hT'.s3.at_ j v hj) (fun _ j hj=>⟨.inl h3,by rw [Nat.zero_add]; exact hT'.s3.frz j hj⟩) (fun i o hi=>by simp at hi) (fun i r hi=>by simp at hi)
  refine h4.add ⟨p2,0,[.map none],true⟩ (World.lt_of_cell (hT'.s2.at_ 0 _ rfl)) (fun j v hj=>by rw [Nat.zero_add]; exact hT'.s2.at_ j v hj) (fun _ j hj=>⟨.inl h2,by rw [Nat.zero_add]; exact hT'.s2.frz j hj⟩) (fun i o hi _=>.inl ?_) (fun i r hi=>by simp at hi)
  have:o = ⟨p3,0,[.map m_],true⟩:=by
   have hm:=List.mem_of_getElem? hi
   simpa using hm
  rw [this]
  exact fun e=>hT'.ne e.symm
 have hE17:=(((hE7.retable [⟨p3,0,[.map m_],true⟩,⟨p2,0,[.map none],true⟩]).recast 3 (.v (.pointer (some ⟨p3,0,none⟩))) (.p 0 0) rfl rfl (Nat.le_of_ble_eq_true (n:=1) rfl)).recast 2 (.v (.pointer (some ⟨p2,0,none⟩))) (.p 1 0) rfl rfl (Nat.le_of_ble_eq_true (n:=2) rfl))
 have hE18:EnvOk 24 [⟨p3,0,[.map m_],true⟩,⟨p2,0,[.map none],true⟩] [(2,.p 1 0),(3,.p 0 0)] _:=hE17.pk
 refine B8 [0,1] kz ?_
 refine B3 [0] [1] [(2,.p 1 0),(23,.v (.agg #[.map m_]))] hW9 hE18 fun aqb hE19=>?_
 refine B1 (C7 hW9 hE19 (oi:=1) (cs:=[.map m_]) kz fun wz hFz hWz hEz=>B4 (A7 (wp_ret ?_)))
 have hsz:=hT'.step.size
 have hstz:Step wq wz (fun b o=>b = p2 ∨ b = p3):=hFz.step.mono fun b o _ ha=>by
  rcases ha with ⟨i,ob,hi,_,rfl,_⟩ | ⟨i,r,hi,_⟩
  ·have hm:=List.mem_of_getElem? hi
   simp only [List.nil_append,List.cons_append,List.mem_cons,List.not_mem_nil,or_false] at hm
   rcases hm with rfl | rfl
   ·exact .inr rfl
   exact .inl rfl
  simp at hi
 obtain ⟨m2,m3⟩:=hT'.mne
 refine D5 hEz hWz.cells (v:=.agg #[.map m_]) kz ⟨_,A_,n_,c_,rfl,hT'.rd.move hstz (fun o e=>?_),hT'.oct.move hstz (fun b o hg _ e=>?_) (fun b o hg _=>.inl hg.1),hWz.step,m_,rfl,?_,?_⟩
 ·have:=hT'.old; rcases e with e | e <;> omega
 ·have:=hg.2; rcases e with e | e <;> omega
 ·refine (hT'.own.move hstz (fun b o hg _ e=>?_) E6 (fun r o e he=>?_)).map (fun b o h=>.inl h.1) (fun r o e=>.inr (hT'.new r e)) hsort hk
  ·have:=hg.2; rcases e with e | e <;> omega
  rcases he with he | he
  ·exact m2 (by rw [e,he])
  exact m3 (by rw [e,he])
 exact fun e=>hj0 (by rw [e]; rfl)
theorem MU (X:Bs) (hX:X.length ≤ 32767) (rest:Bs)  {br:Nat} {A:Option Addr} {m c:Nat} {w:World} {F:Nat → Nat → Prop} (hst:Str w br [.slice A m c,.bool false]) (hr:RdS w F A m c ((be 2 ((X.length:Nat):Int)) ++ (X ++ rest))) (hFd:∀ b o,F b o → ¬ H2 br b o) :
  Calls Tryz.prog 94 #[.pointer (some ⟨br,0,none⟩)] w (RdPost w br (Fp F w) rest fun v w'=>v = .string (bs X)):=by
 refine enter (n:=11) Tryz.func94 rfl Tryz.ntmps94 kz fun a hE=>?_
 have hW:WOk w (H2 br) w (z2 br A m c) []:=WOk.startStr hst
 have hE1:=(hE.grow ⟨br,0,[.slice A m c,.bool false],true⟩).recast 0 (.v (.pointer (some ⟨br,0,none⟩))) (.p 0 0) rfl rfl (Nat.le_of_ble_eq_true (n:=1) rfl)
 refine C1 [(0,.p 0 0)] hW hE1 fun a1 hE2=>?_
 refine B8 [0,1,2] kz ?_
 refine B3 [0] [1,2] [(0,.p 0 0),(4,.p 0 0)] hW hE2 fun a3 hE4=>?_
 refine B1 (C3 hE4 (f:=117) (vs:=[.pointer (some ⟨br,0,none⟩)]) (d:=5) kz Tryz.call117 (Et ((X.length:Nat):Int) (X ++ rest) (Str.of hW 0 rfl) (hr.move hW.step (fun b_ o_ h_ _=>hFd b_ o_ h_) (hW.immM hFd)) (O7 0 rfl)) ?_)
 rintro e_ w5 ⟨_,A6,n7,c8,rfl,hs9,ak,ah,rfl⟩
 let af:Ob:=⟨br,0,[.slice A6 n7 c8,.bool false],true⟩
 obtain ⟨ac,al,aI⟩:=hW.wrote 0 [af] rfl ah hs9
 have am:=ak.move (Step.refl _ B5) B0 (fun b_ o_ h_ _=>al.to b_ o_ h_)
 refine ⟨_,rfl,fun aO ao=>?_⟩
 have ap:EnvOk 11 [af] [(5,.v (.int .i16 (IntKind.i16.wrap ((X.length:Nat):Int)))),(0,.p 0 0),(4,.p 0 0)] _:=ao.places (⟨rfl,rfl,trivial⟩)
 refine B3 [2] [] [(0,.p 0 0),(3,.v (.int .i16 (IntKind.i16.wrap ((X.length:Nat):Int))))] ac ap fun aP ar=>?_
 refine B4 (A7 ?_)
 refine B8 [0,1,2,3,4,5] kz ?_
 refine B3 [0,1,2] [3,4,5] [(6,.p 0 0),(8,.v (.int .i64 (IntKind.i64.wrap (IntKind.i16.wrap ((X.length:Nat):Int)))))] ac ar fun aQ au=>?_
 have av:IntKind.i64.wrap (IntKind.i16.wrap ((X.length:Nat):Int)) = ((X.length:Nat):Int):=by simp only [K3,G5,J0]; omega
 have aw:=EnvOk.pick au (ks:=[6,8]) (env':=[(6,.p 0 0),(8,.v (.int .i64 (IntKind.i64.wrap (IntKind.i16.wrap ((X.length:Nat):Int)))))]) kz
 let ab:Nat × SV:=(8,.v (.int .i64 ((X.length:Nat):Int)))
 have ax:=aw.cast (env':=[(6,.p 0 0),ab]) (by simp only [ab,av]; try rfl)
 refine B1 (C3 ax (f:=121) (vs:=(z5 br X.length)) (d:=9) kz Tryz.call121 (Bh X (rest) (Str.of ac 0 rfl) am (O7 0 rfl)) ?_)
 rintro e_ aR ⟨_,aJ,aK,aL,rfl,ay,aA,ai,⟨aM,rfl,aB⟩⟩
 let ag:Ob:=⟨br,0,[.slice aJ aK aL,.bool false],true⟩
 obtain ⟨ae,aj,aN⟩:=ac.wrote 0 [ag] rfl ai ay
 have aC:=aA.move (Step.refl _ B5) B0 (fun b_ o_ h_ _=>aj.to b_ o_ h_)
 refine ⟨_,rfl,fun aS aD=>?_⟩
 have aE:EnvOk 11 [ag] [(9,.v (.slice aM X.length X.length)),(6,.p 0 0),ab] _:=aD.places (⟨rfl,rfl,trivial⟩)
 have aF:=aB.move (Step.refl _ B5) B0 (fun b_ o_ h_ _=>aj.to b_ o_ h_)
 refine B1 (V2 aE (src:=30) (dst:=9) (e:=5) (d:=10) kz kz kz kz aF fun aT aG=>?_)
 refine B3 [5] [] [(2,.v (.string (bs X)))] ae aG fun aU aH=>?_
 refine B4 (A7 ?_)
 refine wp_ret (D5 aH ae.cells (v:=.string (bs X)) kz ?_)
 refine ⟨_,_,_,_,rfl,Str.of ae 0 rfl,(aC.move (Step.refl _ B5) B0 G0),ae.step,rfl⟩
theorem MV (X:Bs) (hX:X.length ≤ 1000000) (rest:Bs)  {br:Nat} {A:Option Addr} {m c:Nat} {w:World} {F:Nat → Nat → Prop} (hst:Str w br [.slice A m c,.bool false]) (hr:RdS w F A m c ((uv (X.length + 1)) ++ (X ++ rest))) (hFd:∀ b o,F b o → ¬ H2 br b o) :
  Calls Tryz.prog 93 #[.pointer (some ⟨br,0,none⟩)] w (RdPost w br (Fp F w) rest fun v w'=>v = .string (bs X)):=by
 refine enter (n:=12) Tryz.func93 rfl Tryz.ntmps93 kz fun a hE=>?_
 have hW:WOk w (H2 br) w (z2 br A m c) []:=WOk.startStr hst
 have hE1:=(hE.grow ⟨br,0,[.slice A m c,.bool false],true⟩).recast 0 (.v (.pointer (some ⟨br,0,none⟩))) (.p 0 0) rfl rfl (Nat.le_of_ble_eq_true (n:=1) rfl)
 refine C1 [(0,.p 0 0)] hW hE1 fun a1 hE2=>?_
 refine B8 [0,1,2,3,4] kz ?_
 refine B3 [0] [1,2,3,4] [(0,.p 0 0),(4,.p 0 0)] hW hE2 fun a3 hE4=>?_
 refine B1 (C3 hE4 (f:=119) (vs:=[.pointer (some ⟨br,0,none⟩)]) (d:=5) kz Tryz.call119 (Bg (X.length + 1) (by omega) (X ++ rest) (Str.of hW 0 rfl) (hr.move hW.step (fun b_ o_ h_ _=>hFd b_ o_ h_) (hW.immM hFd)) (O7 0 rfl)) ?_)
 rintro e_ w5 ⟨_,A6,n7,c8,rfl,hs9,ak,ah,rfl⟩
 let af:Ob:=⟨br,0,[.slice A6 n7 c8,.bool false],true⟩
 obtain ⟨ac,al,aI⟩:=hW.wrote 0 [af] rfl ah hs9
 have am:=ak.move (Step.refl _ B5) B0 (fun b_ o_ h_ _=>al.to b_ o_ h_)
 refine ⟨_,rfl,fun aO ao=>?_⟩
 have ap:EnvOk 12 [af] [(5,.v (.int .u32 ((X.length + 1:Nat):Int))),(0,.p 0 0),(4,.p 0 0)] _:=ao.places (⟨rfl,rfl,trivial⟩)
 refine B3 [2,3,4] [] [(0,.p 0 0),(3,.v (.int .i64 (IntKind.i64.wrap ((IntKind.i64.wrap ((X.length + 1:Nat):Int)) - 1))))] ac ap fun aP ar=>?_
 refine B4 (A7 ?_)
 refine B8 [0,1,2,3,4] kz ?_
 refine B3 [0,1] [2,3,4] [(8,.p 0 0),(9,.v (.int .i64 (IntKind.i64.wrap ((IntKind.i64.wrap ((X.length + 1:Nat):Int)) - 1))))] ac ar fun aQ au=>?_
 have av:IntKind.i64.wrap ((IntKind.i64.wrap ((X.length + 1:Nat):Int)) - 1) = ((X.length:Nat):Int):=by simp only [K3,G5,J0]; omega
 have aw:=EnvOk.pick au (ks:=[8,9]) (env':=[(8,.p 0 0),(9,.v (.int .i64 (IntKind.i64.wrap ((IntKind.i64.wrap ((X.length + 1:Nat):Int)) - 1))))]) kz
 let ab:Nat × SV:=(9,.v (.int .i64 ((X.length:Nat):Int)))
 have ax:=aw.cast (env':=[(8,.p 0 0),ab]) (by simp only [ab,av]; try rfl)
 refine B1 (C3 ax (f:=121) (vs:=(z5 br X.length)) (d:=10) kz Tryz.call121 (Bh X (rest) (Str.of ac 0 rfl) am (O7 0 rfl)) ?_)
 rintro e_ aR ⟨_,aJ,aK,aL,rfl,ay,aA,ai,⟨aM,rfl,aB⟩⟩
 let ag:Ob:=⟨br,0,[.slice aJ aK aL,.bool false],true⟩
 obtain ⟨ae,aj,aN⟩:=ac.wrote 0 [ag] rfl ai ay
 have aC:=aA.move (Step.refl _ B5) B0 (fun b_ o_ h_ _=>aj.to b_ o_ h_)
 refine ⟨_,rfl,fun aS aD=>?_⟩
 have aE:EnvOk 12 [ag] [(10,.v (.slice aM X.length X.length)),(8,.p 0 0),ab] _:=aD.places (⟨rfl,rfl,trivial⟩)
 have aF:=aB.move (Step.refl _ B5) B0 (fun b_ o_ h_ _=>aj.to b_ o_ h_)
 refine B1 (V2 aE (src:=30) (dst:=9) (e:=5) (d:=11) kz kz kz kz aF fun aT aG=>?_)
 refine B3 [4] [] [(2,.v (.string (bs X)))] ae aG fun aU aH=>?_
 refine B4 (A7 ?_)
 refine wp_ret (D5 aH ae.cells (v:=.string (bs X)) kz ?_)
 refine ⟨_,_,_,_,rfl,Str.of ae 0 rfl,(aC.move (Step.refl _ B5) B0 G0),ae.step,rfl⟩
theorem MW (X:Bs) (hX:X.length ≤ 1000000) (rest:Bs)  {br:Nat} {A:Option Addr} {m c:Nat} {w:World} {F:Nat → Nat → Prop} (hst:Str w br [.slice A m c,.bool false]) (hr:RdS w F A m c ((be 4 ((X.length:Nat):Int)) ++ (X ++ rest))) (hFd:∀ b o,F b o → ¬ H2 br b o) :
  Calls Tryz.prog 106 #[.pointer (some ⟨br,0,none⟩)] w (RdPost w br (Fp F w) rest fun v w'=>∃ A2,v = .slice A2 X.length X.length ∧ Octs w' (Fp F w) A2 X.length X):=by
 refine enter (n:=13) Tryz.func106 rfl Tryz.ntmps106 kz fun a hE=>?_
 have hW:WOk w (H2 br) w (z2 br A m c) []:=WOk.startStr hst
 have hE1:=(hE.grow ⟨br,0,[.slice A m c,.bool false],true⟩).recast 0 (.v (.pointer (some ⟨br,0,none⟩))) (.p 0 0) rfl rfl (Nat.le_of_ble_eq_true (n:=1) rfl)
 refine C1 [(0,.p 0 0)] hW hE1 fun a1 hE2=>?_
 refine B8 [0,1,2] kz ?_
 refine B3 [0] [1,2] [(0,.p 0 0),(4,.p 0 0)] hW hE2 fun a3 hE4=>?_
 refine B1 (C3 hE4 (f:=95) (vs:=[.pointer (some ⟨br,0,none⟩)]) (d:=5) kz Tryz.call95 (Eu ((X.length:Nat):Int) (X ++ rest) (Str.of hW 0 rfl) (hr.move hW.step (fun b_ o_ h_ _=>hFd b_ o_ h_) (hW.immM hFd)) (O7 0 rfl)) ?_)
 rintro e_ w5 ⟨_,A6,n7,c8,rfl,hs9,al,ah,rfl⟩
 let af:Ob:=⟨br,0,[.slice A6 n7 c8,.bool false],true⟩
 obtain ⟨ab,am,aJ⟩:=hW.wrote 0 [af] rfl ah hs9
 have ao:=al.move (Step.refl _ B5) B0 (fun b_ o_ h_ _=>am.to b_ o_ h_)
 refine ⟨_,rfl,fun aO ap=>?_⟩
 have ar:EnvOk 13 [af] [(5,.v (.int .i32 (IntKind.i32.wrap ((X.length:Nat):Int)))),(0,.p 0 0),(4,.p 0 0)] _:=ap.places (⟨rfl,rfl,trivial⟩)
 refine B3 [2] [] [(0,.p 0 0),(3,.v (.int .i32 (IntKind.i32.wrap ((X.length:Nat):Int))))] ab ar fun aP au=>?_
 refine B4 (A7 ?_)
 refine wp_seq (C1 [(0,.p 0 0),(3,.v (.int .i32 (IntKind.i32.wrap ((X.length:Nat):Int)))),(7,.v (.bool ((IntKind.i32.wrap ((X.length:Nat):Int)) == (-1))))] ab au fun aQ ai=>?_)
 refine F6 ai (b:=(IntKind.i32.wrap ((X.length:Nat):Int)) == (-1)) kz ((by rw [beq_eq_false_iff_ne]; simp only [G5,J0]; omega)) ?_
 refine wp_skip (A7 (B8 [0,1,2,3,4] kz ?_))
 refine B3 [0,1,2] [3,4] [(9,.p 0 0),(11,.v (.int .i64 (IntKind.i64.wrap (IntKind.i32.wrap ((X.length:Nat):Int)))))] ab ai fun aR av=>?_
 have aw:IntKind.i64.wrap (IntKind.i32.wrap ((X.length:Nat):Int)) = ((X.length:Nat):Int):=by simp only [K3,G5,J0]; omega
 have ax:=EnvOk.pick av (ks:=[9,11]) (env':=[(9,.p 0 0),(11,.v (.int .i64 (IntKind.i64.wrap (IntKind.i32.wrap ((X.length:Nat):Int)))))]) kz
 let ac:Nat × SV:=(11,.v (.int .i64 ((X.length:Nat):Int)))
 have ay:=ax.cast (env':=[(9,.p 0 0),ac]) (by simp only [ac,aw]; try rfl)
 refine B1 (C3 ay (f:=121) (vs:=(z5 br X.length)) (d:=12) kz Tryz.call121 (Bh X (rest) (Str.of ab 0 rfl) ao (O7 0 rfl)) ?_)
 rintro e_ aS ⟨_,aK,aL,aM,rfl,aA,aB,aj,⟨aC,rfl,aD⟩⟩
 let ag:Ob:=⟨br,0,[.slice aK aL aM,.bool false],true⟩
 obtain ⟨ae,ak,aN⟩:=ab.wrote 0 [ag] rfl aj aA
 have aE:=aB.move (Step.refl _ B5) B0 (fun b_ o_ h_ _=>ak.to b_ o_ h_)
 refine ⟨_,rfl,fun aT aF=>?_⟩
 have aG:EnvOk 13 [ag] [(12,.v (.slice aC X.length X.length)),(9,.p 0 0),ac] _:=aF.places (⟨rfl,rfl,trivial⟩)
 have aH:=aD.move (Step.refl _ B5) B0 (fun b_ o_ h_ _=>ak.to b_ o_ h_)
 refine B3 [4] [] [(2,.v (.slice aC X.length X.length))] ae aG fun aU aI=>?_
 refine B4 (A7 ?_)
 refine wp_ret (D5 aI ae.cells (v:=.slice aC X.length X.length) kz ?_)
 refine ⟨_,_,_,_,rfl,Str.of ae 0 rfl,(aE.move (Step.refl _ B5) B0 G0),ae.step,_,rfl,(aH.move (Step.refl _ B5) B0 G0)⟩
theorem MX (X:Bs) (hX:X.length ≤ 1000000) (rest:Bs)  {br:Nat} {A:Option Addr} {m c:Nat} {w:World} {F:Nat → Nat → Prop} (hst:Str w br [.slice A m c,.bool false]) (hr:RdS w F A m c ((uv (X.length + 1)) ++ (X ++ rest))) (hFd:∀ b o,F b o → ¬ H2 br b o) :
  Calls Tryz.prog 105 #[.pointer (some ⟨br,0,none⟩)] w (RdPost w br (Fp F w) rest fun v w'=>∃ A2,v = .slice A2 X.length X.length ∧ Octs w' (Fp F w) A2 X.length X):=by
 refine enter (n:=14) Tryz.func105 rfl Tryz.ntmps105 kz fun a hE=>?_
 have hW:WOk w (H2 br) w (z2 br A m c) []:=WOk.startStr hst
 have hE1:=(hE.grow ⟨br,0,[.slice A m c,.bool false],true⟩).recast 0 (.v (.pointer (some ⟨br,0,none⟩))) (.p 0 0) rfl rfl (Nat.le_of_ble_eq_true (n:=1) rfl)
 refine C1 [(0,.p 0 0)] hW hE1 fun a1 hE2=>?_
 refine B8 [0,1,2,3,4] kz ?_
 refine B3 [0] [1,2,3,4] [(0,.p 0 0),(4,.p 0 0)] hW hE2 fun a3 hE4=>?_
 refine B1 (C3 hE4 (f:=119) (vs:=[.pointer (some ⟨br,0,none⟩)]) (d:=5) kz Tryz.call119 (Bg (X.length + 1) (by omega) (X ++ rest) (Str.of hW 0 rfl) (hr.move hW.step (fun b_ o_ h_ _=>hFd b_ o_ h_) (hW.immM hFd)) (O7 0 rfl)) ?_)
 rintro e_ w5 ⟨_,A6,n7,c8,rfl,hs9,al,ah,rfl⟩
 let af:Ob:=⟨br,0,[.slice A6 n7 c8,.bool false],true⟩
 obtain ⟨ab,am,aJ⟩:=hW.wrote 0 [af] rfl ah hs9
 have ao:=al.move (Step.refl _ B5) B0 (fun b_ o_ h_ _=>am.to b_ o_ h_)
 refine ⟨_,rfl,fun aO ap=>?_⟩
 have ar:EnvOk 14 [af] [(5,.v (.int .u32 ((X.length + 1:Nat):Int))),(0,.p 0 0),(4,.p 0 0)] _:=ap.places (⟨rfl,rfl,trivial⟩)
 refine B3 [2,3,4] [] [(0,.p 0 0),(3,.v (.int .i64 (IntKind.i64.wrap ((IntKind.i64.wrap ((X.length + 1:Nat):Int)) - 1))))] ab ar fun aP au=>?_
 refine B4 (A7 ?_)
 refine wp_seq (C1 [(0,.p 0 0),(3,.v (.int .i64 (IntKind.i64.wrap ((IntKind.i64.wrap ((X.length + 1:Nat):Int)) - 1)))),(9,.v (.bool ((IntKind.i64.wrap ((IntKind.i64.wrap ((X.length + 1:Nat):Int)) - 1)) == (-1))))] ab au fun aQ ai=>?_)
 refine F6 ai (b:=(IntKind.i64.wrap ((IntKind.i64.wrap ((X.length + 1:Nat):Int)) - 1)) == (-1)) kz ((by rw [beq_eq_false_iff_ne]; simp only [G5,J0]; omega)) ?_
 refine wp_skip (A7 (B8 [0,1,2,3] kz ?_))
 refine B3 [0,1] [2,3] [(11,.p 0 0),(12,.v (.int .i64 (IntKind.i64.wrap ((IntKind.i64.wrap ((X.length + 1:Nat):Int)) - 1))))] ab ai fun aR av=>?_
 have aw:IntKind.i64.wrap ((IntKind.i64.wrap ((X.length + 1:Nat):Int)) - 1) = ((X.length:Nat):Int):=by simp only [K3,G5,J0]; omega
 have ax:=EnvOk.pick av (ks:=[11,12]) (env':=[(11,.p 0 0),(12,.v (.int .i64 (IntKind.i64.wrap ((IntKind.i64.wrap ((X.length + 1:Nat):Int)) - 1))))]) kz
 let ac:Nat × SV:=(12,.v (.int .i64 ((X.length:Nat):Int)))
 have ay:=ax.cast (env':=[(11,.p 0 0),ac]) (by simp only [ac,aw]; try rfl)
 refine B1 (C3 ay (f:=121) (vs:=(z5 br X.length)) (d:=13) kz Tryz.call121 (Bh X (rest) (Str.of ab 0 rfl) ao (O7 0 rfl)) ?_)
 rintro e_ aS ⟨_,aK,aL,aM,rfl,aA,aB,aj,⟨aC,rfl,aD⟩⟩
 let ag:Ob:=⟨br,0,[.slice aK aL aM,.bool false],true⟩
 obtain ⟨ae,ak,aN⟩:=ab.wrote 0 [ag] rfl aj aA
 have aE:=aB.move (Step.refl _ B5) B0 (fun b_ o_ h_ _=>ak.to b_ o_ h_)
 refine ⟨_,rfl,fun aT aF=>?_⟩
 have aG:EnvOk 14 [ag] [(13,.v (.slice aC X.length X.length)),(11,.p 0 0),ac] _:=aF.places (⟨rfl,rfl,trivial⟩)
 have aH:=aD.move (Step.refl _ B5) B0 (fun b_ o_ h_ _=>ak.to b_ o_ h_)
 refine B3 [3] [] [(2,.v (.slice aC X.length X.length))] ae aG fun aU aI=>?_
 refine B4 (A7 ?_)
 refine wp_ret (D5 aI ae.cells (v:=.slice aC X.length X.length) kz ?_)
 refine ⟨_,_,_,_,rfl,Str.of ae 0 rfl,(aE.move (Step.refl _ B5) B0 G0),ae.step,_,rfl,(aH.move (Step.refl _ B5) B0 G0)⟩
theorem MY (X:Bs) (hX:X.length ≤ 1000000) (rest:Bs)  {br:Nat} {A:Option Addr} {m c:Nat} {w:World} {F:Nat → Nat → Prop} (hst:Str w br [.slice A m c,.bool false]) (hr:RdS w F A m c ((be 4 ((X.length:Nat):Int)) ++ (X ++ rest))) (hFd:∀ b o,F b o → ¬ H2 br b o) :
  Calls Tryz.prog 130 #[.pointer (some ⟨br,0,none⟩)] w (RdPost w br (Fp F w) rest fun v w'=>∃ A2,v = .slice A2 X.length X.length ∧ Octs w' (Fp F w) A2 X.length X):=by
 refine enter (n:=14) Tryz.func130 rfl Tryz.ntmps130 kz fun a hE=>?_
 have hW:WOk w (H2 br) w (z2 br A m c) []:=WOk.startStr hst
 have hE1:=(hE.grow ⟨br,0,[.slice A m c,.bool false],true⟩).recast 0 (.v (.pointer (some ⟨br,0,none⟩))) (.p 0 0) rfl rfl (Nat.le_of_ble_eq_true (n:=1) rfl)
 refine C1 [(0,.p 0 0)] hW hE1 fun a1 hE2=>?_
 refine B8 [0,1,2] kz ?_
 refine B3 [0] [1,2] [(0,.p 0 0),(5,.p 0 0)] hW hE2 fun a3 hE4=>?_
 refine B1 (C3 hE4 (f:=95) (vs:=[.pointer (some ⟨br,0,none⟩)]) (d:=6) kz Tryz.call95 (Eu ((X.length:Nat):Int) (X ++ rest) (Str.of hW 0 rfl) (hr.move hW.step (fun b_ o_ h_ _=>hFd b_ o_ h_) (hW.immM hFd)) (O7 0 rfl)) ?_)
 rintro e_ w5 ⟨_,A6,n7,c8,rfl,hs9,am,ah,rfl⟩
 let af:Ob:=⟨br,0,[.slice A6 n7 c8,.bool false],true⟩
 obtain ⟨ab,ao,aK⟩:=hW.wrote 0 [af] rfl ah hs9
 have ap:=am.move (Step.refl _ B5) B0 (fun b_ o_ h_ _=>ao.to b_ o_ h_)
 refine ⟨_,rfl,fun aP ar=>?_⟩
 have au:EnvOk 14 [af] [(6,.v (.int .i32 (IntKind.i32.wrap ((X.length:Nat):Int)))),(0,.p 0 0),(5,.p 0 0)] _:=ar.places (⟨rfl,rfl,trivial⟩)
 refine B3 [2] [] [(0,.p 0 0),(3,.v (.int .i32 (IntKind.i32.wrap ((X.length:Nat):Int))))] ab au fun aQ av=>?_
 refine B4 (A7 ?_)
 refine wp_seq (C1 [(0,.p 0 0),(3,.v (.int .i32 (IntKind.i32.wrap ((X.length:Nat):Int)))),(8,.v (.bool (decide ((IntKind.i32.wrap ((X.length:Nat):Int)) < 0))))] ab av fun aR ai=>?_)
 refine F6 ai (b:=decide ((IntKind.i32.wrap ((X.length:Nat):Int)) < 0)) kz (decide_eq_false (by simp only [G5,J0]; omega)) ?_
 refine wp_skip (A7 (B8 [0,1,2,3,4] kz ?_))
 refine B3 [0,1,2] [3,4] [(9,.p 0 0),(11,.v (.int .i64 (IntKind.i64.wrap (IntKind.i32.wrap ((X.length:Nat):Int)))))] ab ai fun aS aw=>?_
 have ax:IntKind.i64.wrap (IntKind.i32.wrap ((X.length:Nat):Int)) = ((X.length:Nat):Int):=by simp only [K3,G5,J0]; omega
 have ay:=EnvOk.pick aw (ks:=[9,11]) (env':=[(9,.p 0 0),(11,.v (.int .i64 (IntKind.i64.wrap (IntKind.i32.wrap ((X.length:Nat):Int)))))]) kz
 let ac:Nat × SV:=(11,.v (.int .i64 ((X.length:Nat):Int)))
 have aA:=ay.cast (env':=[(9,.p 0 0),ac]) (by simp only [ac,ax]; try rfl)
 refine B1 (C3 aA (f:=121) (vs:=(z5 br X.length)) (d:=12) kz Tryz.call121 (Bh X (rest) (Str.of ab 0 rfl) ap (O7 0 rfl)) ?_)
 rintro e_ aT ⟨_,aL,aM,aN,rfl,aB,aC,aj,⟨al,rfl,aD⟩⟩
 let ag:Ob:=⟨br,0,[.slice aL aM aN,.bool false],true⟩
 obtain ⟨ae,ak,aO⟩:=ab.wrote 0 [ag] rfl aj aB
 have aE:=aC.move (Step.refl _ B5) B0 (fun b_ o_ h_ _=>ak.to b_ o_ h_)
 refine ⟨_,rfl,fun aU aF=>?_⟩
 have aG:EnvOk 14 [ag] [(12,.v (.slice al X.length X.length)),(9,.p 0 0),ac] _:=aF.places (⟨rfl,rfl,trivial⟩)
 have aH:=aD.move (Step.refl _ B5) B0 (fun b_ o_ h_ _=>ak.to b_ o_ h_)
 refine B3 [4] [] [(4,.v (.slice al X.length X.length))] ae aG fun aV aI=>?_
 refine B4 (A7 ?_)
 refine C1 [(2,.v (.slice al X.length X.length))] ae aI fun aW aJ=>?_
 refine wp_ret (D5 aJ ae.cells (v:=.slice al X.length X.length) kz ?_)
 refine ⟨_,_,_,_,rfl,Str.of ae 0 rfl,(aE.move (Step.refl _ B5) B0 G0),ae.step,_,rfl,(aH.move (Step.refl _ B5) B0 G0)⟩
theorem MZ (X:Bs) (rest:Bs)  {br:Nat} {A:Option Addr} {m c:Nat} {w:World} {F:Nat → Nat → Prop} (hst:Str w br [.slice A m c,.bool false]) (hr:RdS w F A m c ((be 2 (-1)) ++ rest)) (hFd:∀ b o,F b o → ¬ H2 br b o) :
  Calls Tryz.prog 99 #[.pointer (some ⟨br,0,none⟩)] w (RdPost w br (Fp F w) rest fun v w'=>∃ A2,v = .pointer A2 ∧ (∀ ad,A2 = some ad → ∃ b o,ad = ⟨b,o,none⟩ ∧ AtF w' (Fp F w) b o [.string (bs X)]) ∧ A2.isNone = true):=by
 refine enter (n:=14) Tryz.func99 rfl Tryz.ntmps99 kz fun a hE=>?_
 have hW:WOk w (H2 br) w (z2 br A m c) []:=WOk.startStr hst
 have hE1:=(hE.grow ⟨br,0,[.slice A m c,.bool false],true⟩).recast 0 (.v (.pointer (some ⟨br,0,none⟩))) (.p 0 0) rfl rfl (Nat.le_of_ble_eq_true (n:=1) rfl)
 refine C1 [(0,.p 0 0)] hW hE1 fun a1 hE2=>?_
 refine B8 [0,1,2] kz ?_
 refine B3 [0] [1,2] [(0,.p 0 0),(5,.p 0 0)] hW hE2 fun a3 hE4=>?_
 refine B1 (C3 hE4 (f:=117) (vs:=[.pointer (some ⟨br,0,none⟩)]) (d:=6) kz Tryz.call117 (Et (-1) (rest) (Str.of hW 0 rfl) (hr.move hW.step (fun b_ o_ h_ _=>hFd b_ o_ h_) (hW.immM hFd)) (O7 0 rfl)) ?_)
 rintro e_ w5 ⟨_,A6,n7,c8,rfl,hs9,af,ac,rfl⟩
 obtain ⟨ab,ag,am⟩:=hW.wrote 0 (z2 br A6 n7 c8) rfl ac hs9
 have ah:=af.move (Step.refl _ B5) B0 (fun b_ o_ h_ _=>ag.to b_ o_ h_)
 refine ⟨_,rfl,fun ao ai=>?_⟩
 have aj:EnvOk 14 (z2 br A6 n7 c8) [(6,.v (.int .i16 (IntKind.i16.wrap (-1)))),(0,.p 0 0),(5,.p 0 0)] _:=ai.places (⟨rfl,rfl,trivial⟩)
 refine B3 [2] [] [(0,.p 0 0),(3,.v (.int .i16 (IntKind.i16.wrap (-1))))] ab aj fun ap ak=>?_
 refine B4 (A7 ?_)
 refine wp_seq (C1 [(0,.p 0 0),(3,.v (.int .i16 (IntKind.i16.wrap (-1)))),(8,.v (.bool (decide ((IntKind.i16.wrap (-1)) < 0))))] ab ak fun ar ae=>?_)
 refine Q6 ae (b:=decide ((IntKind.i16.wrap (-1)) < 0)) kz (decide_eq_true (by simp only [K3,G5,J0]; omega)) ?_
 refine C1 [(2,.v (.pointer none))] ab ae fun au al=>?_
 refine wp_ret (F5 (D5 al ab.cells (v:=.pointer none) kz ?_))
 refine ⟨_,_,_,_,rfl,Str.of ab 0 rfl,(ah.move (Step.refl _ B5) B0 G0),ab.step,_,rfl,(fun ad h_=>by cases h_),rfl⟩
theorem Na (X:Bs) (hX:X.length ≤ 32767) (rest:Bs)  {br:Nat} {A:Option Addr} {m c:Nat} {w:World} {F:Nat → Nat → Prop} (hst:Str w br [.slice A m c,.bool false]) (hr:RdS w F A m c ((be 2 ((X.length:Nat):Int)) ++ (X ++ rest))) (hFd:∀ b o,F b o → ¬ H2 br b o) :
  Calls Tryz.prog 99 #[.pointer (some ⟨br,0,none⟩)] w (RdPost w br (Fp F w) rest fun v w'=>∃ A2,v = .pointer A2 ∧ (∀ ad,A2 = some ad → ∃ b o,ad = ⟨b,o,none⟩ ∧ AtF w' (Fp F w) b o [.string (bs X)]) ∧ A2.isNone = false):=by
 refine enter (n:=14) Tryz.func99 rfl Tryz.ntmps99 kz fun a hE=>?_
 have hW:WOk w (H2 br) w (z2 br A m c) []:=WOk.startStr hst
 have hE1:=(hE.grow ⟨br,0,[.slice A m c,.bool false],true⟩).recast 0 (.v (.pointer (some ⟨br,0,none⟩))) (.p 0 0) rfl rfl (Nat.le_of_ble_eq_true (n:=1) rfl)
 refine C1 [(0,.p 0 0)] hW hE1 fun a1 hE2=>?_
 refine B8 [0,1,2] kz ?_
 refine B3 [0] [1,2] [(0,.p 0 0),(5,.p 0 0)] hW hE2 fun a3 hE4=>?_
 refine B1 (C3 hE4 (f:=117) (vs:=[.pointer (some ⟨br,0,none⟩)]) (d:=6) kz Tryz.call117 (Et ((X.length:Nat):Int) (X ++ rest) (Str.of hW 0 rfl) (hr.move hW.step (fun b_ o_ h_ _=>hFd b_ o_ h_) (hW.immM hFd)) (O7 0 rfl)) ?_)
 rintro e_ w5 ⟨_,A6,n7,c8,rfl,hs9,ao,ah,rfl⟩
 let af:Ob:=⟨br,0,[.slice A6 n7 c8,.bool false],true⟩
 obtain ⟨ab,ap,aP⟩:=hW.wrote 0 [af] rfl ah hs9
 have ar:=ao.move (Step.refl _ B5) B0 (fun b_ o_ h_ _=>ap.to b_ o_ h_)
 refine ⟨_,rfl,fun aY au=>?_⟩
 have av:EnvOk 14 [af] [(6,.v (.int .i16 (IntKind.i16.wrap ((X.length:Nat):Int)))),(0,.p 0 0),(5,.p 0 0)] _:=au.places (⟨rfl,rfl,trivial⟩)
 refine B3 [2] [] [(0,.p 0 0),(3,.v (.int .i16 (IntKind.i16.wrap ((X.length:Nat):Int))))] ab av fun aZ aw=>?_
 refine B4 (A7 ?_)
 refine wp_seq (C1 [(0,.p 0 0),(3,.v (.int .i16 (IntKind.i16.wrap ((X.length:Nat):Int)))),(8,.v (.bool (decide ((IntKind.i16.wrap ((X.length:Nat):Int)) < 0))))] ab aw fun ba ai=>?_)
 refine F6 ai (b:=decide ((IntKind.i16.wrap ((X.length:Nat):Int)) < 0)) kz (decide_eq_false (by simp only [K3,G5,J0]; omega)) ?_
 refine wp_skip (A7 (B8 [0,1,2,3,4,5,6] kz ?_))
 refine B3 [0,1,2] [3,4,5,6] [(9,.p 0 0),(11,.v (.int .i64 (IntKind.i64.wrap (IntKind.i16.wrap ((X.length:Nat):Int)))))] ab ai fun bd ax=>?_
 have ay:IntKind.i64.wrap (IntKind.i16.wrap ((X.length:Nat):Int)) = ((X.length:Nat):Int):=by simp only [K3,G5,J0]; omega
 have aA:=EnvOk.pick ax (ks:=[9,11]) (env':=[(9,.p 0 0),(11,.v (.int .i64 (IntKind.i64.wrap (IntKind.i16.wrap ((X.length:Nat):Int)))))]) kz
 let ac:Nat × SV:=(11,.v (.int .i64 ((X.length:Nat):Int)))
 have aB:=aA.cast (env':=[(9,.p 0 0),ac]) (by simp only [ac,ay]; try rfl)
 refine B1 (C3 aB (f:=121) (vs:=(z5 br X.length)) (d:=12) kz Tryz.call121 (Bh X (rest) (Str.of ab 0 rfl) ar (O7 0 rfl)) ?_)
 rintro e_ bf ⟨_,aQ,aR,aS,rfl,aC,aD,aj,⟨aT,rfl,aE⟩⟩
 let ag:Ob:=⟨br,0,[.slice aQ aR aS,.bool false],true⟩
 obtain ⟨aF,ak,aU⟩:=ab.wrote 0 [ag] rfl aj aC
 have aG:=aD.move (Step.refl _ B5) B0 (fun b_ o_ h_ _=>ak.to b_ o_ h_)
 refine ⟨_,rfl,fun bg aH=>?_⟩
 have aI:EnvOk 14 [ag] [(12,.v (.slice aT X.length X.length)),(9,.p 0 0),ac] _:=aH.places (⟨rfl,rfl,trivial⟩)
 have aJ:=aE.move (Step.refl _ B5) B0 (fun b_ o_ h_ _=>ak.to b_ o_ h_)
 refine B1 (V2 aI (src:=30) (dst:=9) (e:=5) (d:=13) kz kz kz kz aJ fun bh aK=>?_)
 refine B1 (D7 aF aK (d:=4) (cs:=[.string ByteArray.empty]) kz fun aV bi bj aW aX al aL aM=>?_)
 refine B1 (C7 aL aM (oi:=1) (cs:=[.string (bs X)]) kz fun bk am ae aN=>?_)
 refine B4 (A7 ?_)
 refine C1 [(2,.p 1 0)] ae aN fun bn aO=>?_
 refine wp_ret (D5 aO ae.cells (v:=.pointer (some ⟨aV,0,none⟩)) kz ?_)
 refine ⟨_,_,_,_,rfl,Str.of ae 0 rfl,((aG.move (al.trans am).step immM (al.trans am).to').move (Step.refl _ B5) B0 G0),ae.step,_,rfl,(fun ad h_=>by
  obtain rfl:=Option.some.inj h_
  exact ⟨_,0,rfl,fun j v_ hj=>⟨.inr ‹_›,ae.cells 1 _ rfl j v_ hj⟩⟩),rfl⟩
theorem Nb (nul:Bool) (X:Bs) (hX:X.length ≤ 32767) (rest:Bs) {br:Nat} {A:Option Addr} {m c:Nat} {w:World} {F:Nat → Nat → Prop} (hst:Str w br [.slice A m c,.bool false]) (hr:RdS w F A m c ((if nul = true then be 2 (-1) else be 2 ((X.length:Nat):Int) ++ X) ++ rest)) (hFd:∀ b o,F b o → ¬ H2 br b o) :
  Calls Tryz.prog 99 #[.pointer (some ⟨br,0,none⟩)] w (RdPost w br (Fp F w) rest fun v w'=>∃ A2,v = .pointer A2 ∧ (∀ ad,A2 = some ad → ∃ b o,ad = ⟨b,o,none⟩ ∧ AtF w' (Fp F w) b o [.string (bs X)]) ∧ A2.isNone = nul):=by
 cases nul
 ·exact Na X hX rest hst (hr.cast (by simp only [Bool.false_eq_true,if_false,List.append_assoc])) hFd
 exact MZ X rest hst (hr.cast (by simp only [if_true])) hFd
theorem Nc (X:Bs) (rest:Bs)  {br:Nat} {A:Option Addr} {m c:Nat} {w:World} {F:Nat → Nat → Prop} (hst:Str w br [.slice A m c,.bool false]) (hr:RdS w F A m c ((uv 0) ++ rest)) (hFd:∀ b o,F b o → ¬ H2 br b o) :
  Calls Tryz.prog 97 #[.pointer (some ⟨br,0,none⟩)] w (RdPost w br (Fp F w) rest fun v w'=>∃ A2,v = .pointer A2 ∧ (∀ ad,A2 = some ad → ∃ b o,ad = ⟨b,o,none⟩ ∧ AtF w' (Fp F w) b o [.string (bs X)]) ∧ A2.isNone = true):=by
 refine enter (n:=15) Tryz.func97 rfl Tryz.ntmps97 kz fun a hE=>?_
 have hW:WOk w (H2 br) w (z2 br A m c) []:=WOk.startStr hst
 have hE1:=(hE.grow ⟨br,0,[.slice A m c,.bool false],true⟩).recast 0 (.v (.pointer (some ⟨br,0,none⟩))) (.p 0 0) rfl rfl (Nat.le_of_ble_eq_true (n:=1) rfl)
 refine C1 [(0,.p 0 0)] hW hE1 fun a1 hE2=>?_
 refine B8 [0,1,2,3,4] kz ?_
 refine B3 [0] [1,2,3,4] [(0,.p 0 0),(5,.p 0 0)] hW hE2 fun a3 hE4=>?_
 refine B1 (C3 hE4 (f:=119) (vs:=[.pointer (some ⟨br,0,none⟩)]) (d:=6) kz Tryz.call119 (Bg 0 (by omega) (rest) (Str.of hW 0 rfl) (hr.move hW.step (fun b_ o_ h_ _=>hFd b_ o_ h_) (hW.immM hFd)) (O7 0 rfl)) ?_)
 rintro e_ w5 ⟨_,A6,n7,c8,rfl,hs9,af,ac,rfl⟩
 obtain ⟨ab,ag,am⟩:=hW.wrote 0 (z2 br A6 n7 c8) rfl ac hs9
 have ah:=af.move (Step.refl _ B5) B0 (fun b_ o_ h_ _=>ag.to b_ o_ h_)
 refine ⟨_,rfl,fun ao ai=>?_⟩
 have aj:EnvOk 15 (z2 br A6 n7 c8) [(6,.v (.int .u32 ((0:Nat):Int))),(0,.p 0 0),(5,.p 0 0)] _:=ai.places (⟨rfl,rfl,trivial⟩)
 refine B3 [2,3,4] [] [(0,.p 0 0),(3,.v (.int .i64 (IntKind.i64.wrap ((IntKind.i64.wrap ((0:Nat):Int)) - 1))))] ab aj fun ap ak=>?_
 refine B4 (A7 ?_)
 refine wp_seq (C1 [(0,.p 0 0),(3,.v (.int .i64 (IntKind.i64.wrap ((IntKind.i64.wrap ((0:Nat):Int)) - 1)))),(10,.v (.bool (decide ((IntKind.i64.wrap ((IntKind.i64.wrap ((0:Nat):Int)) - 1)) < 0))))] ab ak fun ar ae=>?_)
 refine Q6 ae (b:=decide ((IntKind.i64.wrap ((IntKind.i64.wrap ((0:Nat):Int)) - 1)) < 0)) kz (decide_eq_true (by simp only [K3,G5,J0]; omega)) ?_
 refine C1 [(2,.v (.pointer none))] ab ae fun au al=>?_
 refine wp_ret (F5 (D5 al ab.cells (v:=.pointer none) kz ?_))
 refine ⟨_,_,_,_,rfl,Str.of ab 0 rfl,(ah.move (Step.refl _ B5) B0 G0),ab.step,_,rfl,(fun ad h_=>by cases h_),rfl⟩
theorem Nd (X:Bs) (hX:X.length ≤ 1000000) (rest:Bs)  {br:Nat} {A:Option Addr} {m c:Nat} {w:World} {F:Nat → Nat → Prop} (hst:Str w br [.slice A m c,.bool false]) (hr:RdS w F A m c ((uv (X.length + 1)) ++ (X ++ rest))) (hFd:∀ b o,F b o → ¬ H2 br b o) :
  Calls Tryz.prog 97 #[.pointer (some ⟨br,0,none⟩)] w (RdPost w br (Fp F w) rest fun v w'=>∃ A2,v = .pointer A2 ∧ (∀ ad,A2 = some ad → ∃ b o,ad = ⟨b,o,none⟩ ∧ AtF w' (Fp F w) b o [.string (bs X)]) ∧ A2.isNone = false):=by
 refine enter (n:=15) Tryz.func97 rfl Tryz.ntmps97 kz fun a hE=>?_
 have hW:WOk w (H2 br) w (z2 br A m c) []:=WOk.startStr hst
 have hE1:=(hE.grow ⟨br,0,[.slice A m c,.bool false],true⟩).recast 0 (.v (.pointer (some ⟨br,0,none⟩))) (.p 0 0) rfl rfl (Nat.le_of_ble_eq_true (n:=1) rfl)
 refine C1 [(0,.p 0 0)] hW hE1 fun a1 hE2=>?_
 refine B8 [0,1,2,3,4] kz ?_
 refine B3 [0] [1,2,3,4] [(0,.p 0 0),(5,.p 0 0)] hW hE2 fun a3 hE4=>?_
 refine B1 (C3 hE4 (f:=119) (vs:=[.pointer (some ⟨br,0,none⟩)]) (d:=6) kz Tryz.call119 (Bg (X.length + 1) (by omega) (X ++ rest) (Str.of hW 0 rfl) (hr.move hW.step (fun b_ o_ h_ _=>hFd b_ o_ h_) (hW.immM hFd)) (O7 0 rfl)) ?_)
 rintro e_ w5 ⟨_,A6,n7,c8,rfl,hs9,ao,ah,rfl⟩
 let af:Ob:=⟨br,0,[.slice A6 n7 c8,.bool false],true⟩
 obtain ⟨ab,ap,aP⟩:=hW.wrote 0 [af] rfl ah hs9
 have ar:=ao.move (Step.refl _ B5) B0 (fun b_ o_ h_ _=>ap.to b_ o_ h_)
 refine ⟨_,rfl,fun aY au=>?_⟩
 have av:EnvOk 15 [af] [(6,.v (.int .u32 ((X.length + 1:Nat):Int))),(0,.p 0 0),(5,.p 0 0)] _:=au.places (⟨rfl,rfl,trivial⟩)
 refine B3 [2,3,4] [] [(0,.p 0 0),(3,.v (.int .i64 (IntKind.i64.wrap ((IntKind.i64.wrap ((X.length + 1:Nat):Int)) - 1))))] ab av fun aZ aw=>?_
 refine B4 (A7 ?_)
 refine wp_seq (C1 [(0,.p 0 0),(3,.v (.int .i64 (IntKind.i64.wrap ((IntKind.i64.wrap ((X.length + 1:Nat):Int)) - 1)))),(10,.v (.bool (decide ((IntKind.i64.wrap ((IntKind.i64.wrap ((X.length + 1:Nat):Int)) - 1)) < 0))))] ab aw fun ba ai=>?_)
 refine F6 ai (b:=decide ((IntKind.i64.wrap ((IntKind.i64.wrap ((X.length + 1:Nat):Int)) - 1)) < 0)) kz (decide_eq_false (by simp only [K3,G5,J0]; omega)) ?_
 refine wp_skip (A7 (B8 [0,1,2,3,4,5] kz ?_))
 refine B3 [0,1] [2,3,4,5] [(11,.p 0 0),(12,.v (.int .i64 (IntKind.i64.wrap ((IntKind.i64.wrap ((X.length + 1:Nat):Int)) - 1))))] ab ai fun bd ax=>?_
 have ay:IntKind.i64.wrap ((IntKind.i64.wrap ((X.length + 1:Nat):Int)) - 1) = ((X.length:Nat):Int):=by simp only [K3,G5,J0]; omega
 have aA:=EnvOk.pick ax (ks:=[11,12]) (env':=[(11,.p 0 0),(12,.v (.int .i64 (IntKind.i64.wrap ((IntKind.i64.wrap ((X.length + 1:Nat):Int)) - 1))))]) kz
 let ac:Nat × SV:=(12,.v (.int .i64 ((X.length:Nat):Int)))
 have aB:=aA.cast (env':=[(11,.p 0 0),ac]) (by simp only [ac,ay]; try rfl)
 refine B1 (C3 aB (f:=121) (vs:=(z5 br X.length)) (d:=13) kz Tryz.call121 (Bh X (rest) (Str.of ab 0 rfl) ar (O7 0 rfl)) ?_)
 rintro e_ bf ⟨_,aQ,aR,aS,rfl,aC,aD,aj,⟨aT,rfl,aE⟩⟩
 let ag:Ob:=⟨br,0,[.slice aQ aR aS,.bool false],true⟩
 obtain ⟨aF,ak,aU⟩:=ab.wrote 0 [ag] rfl aj aC
 have aG:=aD.move (Step.refl _ B5) B0 (fun b_ o_ h_ _=>ak.to b_ o_ h_)
 refine ⟨_,rfl,fun bg aH=>?_⟩
 have aI:EnvOk 15 [ag] [(13,.v (.slice aT X.length X.length)),(11,.p 0 0),ac] _:=aH.places (⟨rfl,rfl,trivial⟩)
 have aJ:=aE.move (Step.refl _ B5) B0 (fun b_ o_ h_ _=>ak.to b_ o_ h_)
 refine B1 (V2 aI (src:=30) (dst:=9) (e:=5) (d:=14) kz kz kz kz aJ fun bh aK=>?_)
 refine B1 (D7 aF aK (d:=4) (cs:=[.string ByteArray.empty]) kz fun aV bi bj aW aX al aL aM=>?_)
 refine B1 (C7 aL aM (oi:=1) (cs:=[.string (bs X)]) kz fun bk am ae aN=>?_)
 refine B4 (A7 ?_)
 refine C1 [(2,.p 1 0)] ae aN fun bn aO=>?_
 refine wp_ret (D5 aO ae.cells (v:=.pointer (some ⟨aV,0,none⟩)) kz ?_)
 refine ⟨_,_,_,_,rfl,Str.of ae 0 rfl,((aG.move (al.trans am).step immM (al.trans am).to').move (Step.refl _ B5) B0 G0),ae.step,_,rfl,(fun ad h_=>by
  obtain rfl:=Option.some.inj h_
  exact ⟨_,0,rfl,fun j v_ hj=>⟨.inr ‹_›,ae.cells 1 _ rfl j v_ hj⟩⟩),rfl⟩
theorem Nf (nul:Bool) (X:Bs) (hX:X.length ≤ 1000000) (rest:Bs) {br:Nat} {A:Option Addr} {m c:Nat} {w:World} {F:Nat → Nat → Prop} (hst:Str w br [.slice A m c,.bool false]) (hr:RdS w F A m c ((if nul = true then uv 0 else uv (X.length + 1) ++ X) ++ rest)) (hFd:∀ b o,F b o → ¬ H2 br b o) :
  Calls Tryz.prog 97 #[.pointer (some ⟨br,0,none⟩)] w (RdPost w br (Fp F w) rest fun v w'=>∃ A2,v = .pointer A2 ∧ (∀ ad,A2 = some ad → ∃ b o,ad = ⟨b,o,none⟩ ∧ AtF w' (Fp F w) b o [.string (bs X)]) ∧ A2.isNone = nul):=by
 cases nul
 ·exact Nd X hX rest hst (hr.cast (by simp only [Bool.false_eq_true,if_false,List.append_assoc])) hFd
 exact Nc X rest hst (hr.cast (by simp only [if_true])) hFd
theorem Ng (x:Int) (hx:-1 ≤ x ∧ x ≤ 32767) (rest:Bs) (hl:x ≤ ((rest.length:Nat):Int)) {br:Nat} {A:Option Addr} {m c:Nat} {w:World} {F:Nat → Nat → Prop} (hst:Str w br [.slice A m c,.bool false]) (hr:RdS w F A m c ((be 4 x) ++ rest)) (hFd:∀ b o,F b o → ¬ H2 br b o) :
  Calls Tryz.prog 101 #[.pointer (some ⟨br,0,none⟩)] w (RdPost w br (Fp F w) rest fun v w'=>v = .int .i32 x):=by
 refine enter (n:=21) Tryz.func101 rfl Tryz.ntmps101 kz fun a hE=>?_
 have hW:WOk w (H2 br) w (z2 br A m c) []:=WOk.startStr hst
 have hE1:=(hE.grow ⟨br,0,[.slice A m c,.bool false],true⟩).recast 0 (.v (.pointer (some ⟨br,0,none⟩))) (.p 0 0) rfl rfl (Nat.le_of_ble_eq_true (n:=1) rfl)
 refine C1 [(0,.p 0 0)] hW hE1 fun a1 hE2=>?_
 refine B8 [0,1,2] kz ?_
 refine B3 [0] [1,2] [(0,.p 0 0),(4,.p 0 0)] hW hE2 fun a3 hE4=>?_
 refine B1 (C3 hE4 (f:=95) (vs:=[.pointer (some ⟨br,0,none⟩)]) (d:=5) kz Tryz.call95 (Eu x (rest) (Str.of hW 0 rfl) (hr.move hW.step (fun b_ o_ h_ _=>hFd b_ o_ h_) (hW.immM hFd)) (O7 0 rfl)) ?_)
 rintro e_ w5 ⟨_,A6,n7,c8,rfl,hs9,ag,ac,rfl⟩
 obtain ⟨ab,ah,am⟩:=hW.wrote 0 (z2 br A6 n7 c8) rfl ac hs9
 have ae:=ag.move (Step.refl _ B5) B0 (fun b_ o_ h_ _=>ah.to b_ o_ h_)
 refine ⟨_,rfl,fun ao ai=>?_⟩
 have aj:EnvOk 21 (z2 br A6 n7 c8) [(5,.v (.int .i32 (IntKind.i32.wrap x))),(0,.p 0 0),(4,.p 0 0)] _:=ai.places (⟨rfl,rfl,trivial⟩)
 refine B3 [2] [] [(0,.p 0 0),(3,.v (.int .i32 (IntKind.i32.wrap x)))] ab aj fun ap ak=>?_
 refine B4 (A7 ?_)
 refine wp_seq (C1 [(0,.p 0 0),(3,.v (.int .i32 (IntKind.i32.wrap x))),(13,.v (.bool (decide (((n7:Nat):Int) < (IntKind.i64.wrap (IntKind.i32.wrap x))))))] ab ak fun ar af=>?_)
 refine F6 af (b:=decide (((n7:Nat):Int) < (IntKind.i64.wrap (IntKind.i32.wrap x)))) kz (decide_eq_false (by have h_:=ae.len; simp only [G5,J0]; omega)) ?_
 refine wp_skip (A7 (C1 [(2,.v (.int .i32 (IntKind.i32.wrap x)))] ab af fun au al=>?_))
 refine wp_ret (D5 al ab.cells (v:=.int .i32 (IntKind.i32.wrap x)) kz ?_)
 refine ⟨_,_,_,_,rfl,Str.of ab 0 rfl,(ae.move (Step.refl _ B5) B0 G0),ab.step,congrArg (Value.int .i32) (by simp only [G5]; omega)⟩
theorem Nh (n:Nat) (hn:n ≤ 32768) (rest:Bs) (hl:n ≤ rest.length + 1) {br:Nat} {A:Option Addr} {m c:Nat} {w:World} {F:Nat → Nat → Prop} (hst:Str w br [.slice A m c,.bool false]) (hr:RdS w F A m c ((uv n) ++ rest)) (hFd:∀ b o,F b o → ¬ H2 br b o) :
  Calls Tryz.prog 100 #[.pointer (some ⟨br,0,none⟩)] w (RdPost w br (Fp F w) rest fun v w'=>v = .int .i32 (((n:Nat):Int) - 1)):=by
 refine enter (n:=23) Tryz.func100 rfl Tryz.ntmps100 kz fun a hE=>?_
 have hW:WOk w (H2 br) w (z2 br A m c) []:=WOk.startStr hst
 have hE1:=(hE.grow ⟨br,0,[.slice A m c,.bool false],true⟩).recast 0 (.v (.pointer (some ⟨br,0,none⟩))) (.p 0 0) rfl rfl (Nat.le_of_ble_eq_true (n:=1) rfl)
 refine C1 [(0,.p 0 0)] hW hE1 fun a1 hE2=>?_
 refine B8 [0,1,2,3,4] kz ?_
 refine B3 [0] [1,2,3,4] [(0,.p 0 0),(4,.p 0 0)] hW hE2 fun a3 hE4=>?_
 refine B1 (C3 hE4 (f:=119) (vs:=[.pointer (some ⟨br,0,none⟩)]) (d:=5) kz Tryz.call119 (Bg n (by omega) (rest) (Str.of hW 0 rfl) (hr.move hW.step (fun b_ o_ h_ _=>hFd b_ o_ h_) (hW.immM hFd)) (O7 0 rfl)) ?_)
 rintro e_ w5 ⟨_,A6,n7,c8,rfl,hs9,ag,ac,rfl⟩
 obtain ⟨ab,ah,am⟩:=hW.wrote 0 (z2 br A6 n7 c8) rfl ac hs9
 have ae:=ag.move (Step.refl _ B5) B0 (fun b_ o_ h_ _=>ah.to b_ o_ h_)
 refine ⟨_,rfl,fun ao ai=>?_⟩
 have aj:EnvOk 23 (z2 br A6 n7 c8) [(5,.v (.int .u32 ((n:Nat):Int))),(0,.p 0 0),(4,.p 0 0)] _:=ai.places (⟨rfl,rfl,trivial⟩)
 refine B3 [2,3,4] [] [(0,.p 0 0),(3,.v (.int .i32 (IntKind.i32.wrap ((IntKind.i32.wrap ((n:Nat):Int)) - 1))))] ab aj fun ap ak=>?_
 refine B4 (A7 ?_)
 refine wp_seq (C1 [(0,.p 0 0),(3,.v (.int .i32 (IntKind.i32.wrap ((IntKind.i32.wrap ((n:Nat):Int)) - 1)))),(15,.v (.bool (decide (((n7:Nat):Int) < (IntKind.i64.wrap (IntKind.i32.wrap ((IntKind.i32.wrap ((n:Nat):Int)) - 1)))))))] ab ak fun ar af=>?_)
 refine F6 af (b:=decide (((n7:Nat):Int) < (IntKind.i64.wrap (IntKind.i32.wrap ((IntKind.i32.wrap ((n:Nat):Int)) - 1))))) kz (decide_eq_false (by have h_:=ae.len; simp only [G5,J0]; omega)) ?_
 refine wp_skip (A7 (C1 [(2,.v (.int .i32 (IntKind.i32.wrap ((IntKind.i32.wrap ((n:Nat):Int)) - 1))))] ab af fun au al=>?_))
 refine wp_ret (D5 al ab.cells (v:=.int .i32 (IntKind.i32.wrap ((IntKind.i32.wrap ((n:Nat):Int)) - 1))) kz ?_)
 refine ⟨_,_,_,_,rfl,Str.of ab 0 rfl,(ae.move (Step.refl _ B5) B0 G0),ab.step,congrArg (Value.int .i32) (by simp only [G5]; omega)⟩
theorem Ni  (rest:Bs)  {br:Nat} {A:Option Addr} {m c:Nat} {w:World} {F:Nat → Nat → Prop} (hst:Str w br [.slice A m c,.bool false]) (hr:RdS w F A m c (rest)) (hFd:∀ b o,F b o → ¬ H2 br b o) :
  Calls Tryz.prog 102 #[.pointer (some ⟨br,0,none⟩)] w (RdPost w br (Fp F w) rest fun v w'=>v = .bool true):=by
 refine enter (n:=8) Tryz.func102 rfl Tryz.ntmps102 kz fun a hE=>?_
 have hW:WOk w (H2 br) w (z2 br A m c) []:=WOk.startStr hst
 have hE1:=(hE.grow ⟨br,0,[.slice A m c,.bool false],true⟩).recast 0 (.v (.pointer (some ⟨br,0,none⟩))) (.p 0 0) rfl rfl (Nat.le_of_ble_eq_true (n:=1) rfl)
 refine C1 [(0,.p 0 0)] hW hE1 fun a1 hE2=>?_
 refine C1 [(2,.v (.bool true))] hW hE2 fun a3 hE4=>?_
 refine wp_ret (D5 hE4 hW.cells (v:=.bool true) kz ?_)
 refine ⟨_,_,_,_,rfl,Str.of hW 0 rfl,((hr.move hW.step (fun b_ o_ h_ _=>hFd b_ o_ h_) (hW.immM hFd)).move (Step.refl _ B5) B0 G0),hW.step,rfl⟩
theorem R4 {P:Program} {c:Code} {Mid:Act → World → Prop} {Q:Exit → Act → World → Prop} {a:Act} {w:World} (h1:c.wp P (Exit.then Mid Q) a w) (h2:∀ a' w',Mid a' w' → Q .normal a' w'):c.wp P Q a w :=
 wp_mono h1 fun e a' w' h=>by
  cases e <;> first | exact h2 a' w' h | exact h
theorem Gy {k:Nat} (h:k < 32768):IntKind.i32.wrap (((k:Nat):Int) + 1) = ((k + 1:Nat):Int):=by rw [G5]; omega
theorem Jv {g:Tree → Bs}:∀ {L:List Tree},(∀ t,0 < (g t).length) → L.length ≤ (L.flatMap g).length
 | [],_=>Nat.zero_le _
 | t :: r,h=>by
  have h1:=h t
  have h2:=Jv (L:=r) h
  rw [List.flatMap_cons,List.length_append,List.length_cons]; omega
theorem flat_ge' {g:Tree → Bs} {L:List Tree} (h:∀ t,0 < (g t).length) (rest:Bs):L.length ≤ (L.flatMap g ++ rest).length:=by
 have:=Jv (L:=L) h
 rw [List.length_append]; omega
theorem Df {x y:Bs} (h:0 < x.length):0 < (x ++ y).length:=by rw [List.length_append]; omega
theorem Nj {b:Bool} {x y:Bs} (h:0 < x.length) (h':0 < y.length):0 < (if b = true then x else y).length:=by split <;> assumption
theorem Gz {m:Nat} {x:Int} (h:0 < m):0 < (be m x).length:=by rw [be_length]; exact h
section
variable {Pr:Program} {ops:Array Oper} {Q:Exit → Act → World → Prop} {w0:World} {M F:Nat → Nat → Prop} {n br:Nat} {tb:Tb} {env:C8} {P:I1} {s:Bs} {a:Act} {w:World}
theorem GA {id d:Nat} {t e:TypeId} {size bytes m cp:Nat} {A0:Option Addr} (env1 env':C8) (i:Nat) (h:RS w0 M F n br tb env P s a w) (K:∀ a',RS w0 M F n br tb env' P s a' w → Q .normal a' w)
  (hr:List.range ops.size = List.range i ++ (i :: (List.range ops.size).drop (i + 1)):=by kernel_rfl) (e1:∀ A m c,I3 Pr ops n (rdo br A m c :: tb) (List.range i) (L0 env1) env = some env1:=by intro _ _ _; kernel_rfl)
  (hc:∀ A m_ c,T4 (rdo br A m_ c :: tb) env1 ops n i = some (t,.slice A0 m cp,none,some 0,d):=by intro _ _ _; kernel_rfl) (ht:L4 Pr t = some (e,size,bytes):=by kernel_rfl)
  (e2:∀ A m_ c,I3 Pr ops n (rdo br A m_ c :: tb) ((List.range ops.size).drop (i + 1)) (L0 env') ((d,.v (.slice A0 0 cp)) :: env1) = some env':=by intro _ _ _; kernel_rfl):(Code.region id ops false).wp Pr Q a w:=by
 refine D9 _ hr (L8 (List.range i) _ env1 h (fun a1 h1=>?_) e1 rfl)
 obtain ⟨A,m1,c,hW,hrd,hE,hP⟩:=h1.open_
 refine B1 (DH hE (hc A m1 c) ht (j:=0) rfl (Nat.zero_le _) fun a2 hE2=>?_)
 exact L8 _ [] env' (RS.mk' hW hrd hE2 h1.mv hP) (fun a3 h3=>B4 (K a3 h3)) e2 (List.append_nil _).symm
theorem Jw {i d:Nat} {f:FuncId} {vs:List Value} {v0:Value} {N:Act → World → Prop} (h:RS w0 M F n br tb env P s a w) (hc:∀ w,Calls Pr f vs.toArray w (fun e w'=>e = .returned v0 ∧ w' = w))
  (hf:∀ args w,(callFunc f args).run Pr w = .ok (.enter f args) w) (K:∀ a',RS w0 M F n br tb ((d,.v v0) :: env) P s a' w → N a' w)
  (he:∀ A m c,O6 (rdo br A m c :: tb) env ops n i = some (f,vs,d):=by intro _ _ _; kernel_rfl):wpOp Pr ops Q i N a w:=by
 obtain ⟨A,m,c,hW,hr,hE,hP⟩:=h.open_
 refine C3 hE (he A m c) hf (hc w) ?_
 rintro e_ _ ⟨rfl,rfl⟩
 exact ⟨_,rfl,fun a1 hE1=>K a1 (RS.mk' hW hr hE1 h.mv hP)⟩
theorem GB {id d:Nat} {f:FuncId} {v0:Value} (env':C8) (h:RS w0 M F n br tb env P s a w) (hc:T1 Pr f [] s v0)
  (hf:∀ args w,(callFunc f args).run Pr w = .ok (.enter f args) w) (K:∀ a' w',RS w0 M F n br tb env' P s a' w' → Q .normal a' w')
  (he:∀ A m c,O6 (rdo br A m c :: tb) env ops n 0 = some (f,[.pointer (some ⟨br,0,none⟩)],d):=by intro _ _ _; kernel_rfl)
  (e:∀ A m c,I3 Pr ops n (rdo br A m c :: tb) ((List.range ops.size).drop 1) (L0 env') ((d,.v v0) :: env) = some env':=by intro _ _ _; kernel_rfl) (hs:Nat.blt 0 ops.size = true:=by kernel_rfl):(Code.region id ops false).wp Pr Q a w :=
 V8 (X:=[]) (rest:=s) env' h hc hf K he e hs
theorem Jx {i d k l g size bytes:Nat} {t e:TypeId} {z:Value} {N:Act → World → Prop} (h:RS w0 M F n br (tb ++ [J5 g size z l k]) env P s a w) (hk:k < l) (hz:z.cells.size = size) (hl:Q8 (tb.length + 1) env = true)
  (K:∀ a',RS w0 M F n br (tb ++ [J5 g size z l (k + 1),⟨g,k * size,z.cells.toList,true⟩]) ((d,.p (tb.length + 2) 0) :: env) P s a' w → N a' w)
  (he:∀ A m c,Q3 (rdo br A m c :: (tb ++ [J5 g size z l k])) env ops n i = some (t,some ⟨g,0,none⟩,l,((k:Nat):Int),d):=by intro _ _ _; kernel_rfl) (ht:L4 Pr t = some (e,size,bytes):=by kernel_rfl):wpOp Pr ops Q i N a w:=by
 obtain ⟨A,m,c,hW,hr,hE,hP⟩:=h.open_
 refine F2 hE (he A m c) ht rfl rfl hk fun a1 hE1=>K a1 ?_
 have h1:RS w0 M F n br (tb ++ [J5 g size z l k]) ((d,.v (.pointer (some ⟨g,0 + k * size,none⟩))) :: env) P s a1 w:=RS.mk' hW hr hE1 h.mv hP
 have h2:=h1.next hk hz (by simpa only [Q8] using hl)
 have h3:=h2.recast d (.v (.pointer (some ⟨g,0 + k * size,none⟩))) (.p (tb.length + 2) 0) (by simp [lk]) ?_ (by show tb.length + 2 < _; simp)
 ·refine ⟨h3.mv,h3.ex,?_,h3.fact⟩
  refine ⟨h3.env_.defers,h3.env_.size,fun q x hx=>h3.env_.at_ q x ?_⟩
  simp only [lk] at hx ⊢
  split at hx
  ·exact hx
  exact hx
 have:D0 (rdo br none 0 0 :: (tb ++ [J5 g size z l (k + 1),⟨g,k * size,z.cells.toList,true⟩])) (tb.length + 2) = ⟨g,k * size,z.cells.toList,true⟩:=by
  simp only [D0,List.getD_eq_getElem?_getD]
  rw [show tb.length + 2 = (tb.length + 1) + 1 from rfl,List.getElem?_cons_succ,List.getElem?_append_right (by omega)]
  simp
 simp only [SV.val,this]
 simp
theorem Jy {id d k l g size bytes:Nat} {t e:TypeId} {z:Value} (env1 env':C8) (i:Nat) (h:RS w0 M F n br (tb ++ [J5 g size z l k]) env P s a w) (hk:k < l) (hz:z.cells.size = size) (hl:Q8 (tb.length + 1) env1 = true)
  (K:∀ a',RS w0 M F n br (tb ++ [J5 g size z l (k + 1),⟨g,k * size,z.cells.toList,true⟩]) env' P s a' w → Q .normal a' w)
  (hr:List.range ops.size = List.range i ++ (i :: (List.range ops.size).drop (i + 1)):=by kernel_rfl) (e1:∀ A m c,I3 Pr ops n (rdo br A m c :: (tb ++ [J5 g size z l k])) (List.range i) (L0 env1) env = some env1:=by intro _ _ _; kernel_rfl)
  (he:∀ A m c,Q3 (rdo br A m c :: (tb ++ [J5 g size z l k])) env1 ops n i = some (t,some ⟨g,0,none⟩,l,((k:Nat):Int),d):=by intro _ _ _; kernel_rfl) (ht:L4 Pr t = some (e,size,bytes):=by kernel_rfl)
  (e2:∀ A m c,I3 Pr ops n (rdo br A m c :: (tb ++ [J5 g size z l (k + 1),⟨g,k * size,z.cells.toList,true⟩])) ((List.range ops.size).drop (i + 1)) (L0 env') ((d,.p (tb.length + 2) 0) :: env1) = some env':=by intro _ _ _; kernel_rfl):(Code.region id ops false).wp Pr Q a w:=by
 refine D9 _ hr (L8 (List.range i) _ env1 h (fun a1 h1=>B1 (Jx h1 hk hz hl (fun a2 h2=>?_) he ht)) e1 rfl)
 exact L8 _ [] env' h2 (fun a3 h3=>B4 (K a3 h3)) e2 (List.append_nil _).symm
end
theorem Jz (x:Int) (rest:Bs):T1 Tryz.prog 117 (be 2 (IntKind.i16.wrap x)) rest (.int .i16 (IntKind.i16.wrap x)):=fun hs hr hF=>(Et _ rest hs hr hF).mono fun e w' hp=>hp.fp fun v w' h=>by rw [h,FZ]
theorem GC (x:Int) (rest:Bs):T1 Tryz.prog 95 (be 4 (IntKind.i32.wrap x)) rest (.int .i32 (IntKind.i32.wrap x)):=fun hs hr hF=>(Eu _ rest hs hr hF).mono fun e w' hp=>hp.fp fun v w' h=>by rw [h,Ga]
theorem Ev (S:Bs) (hS:S.length ≤ 32767) (rest:Bs):T1 Tryz.prog 94 (be 2 S.length ++ S) rest (.string (bs S)):=fun hs hr hF=>(MU S hS rest hs (hr.cast (by simp only [List.append_assoc])) hF).mono fun e w' hp=>hp.q fun v w' h=>h
theorem GD (S:Bs) (hS:S.length ≤ 32767) (rest:Bs):T1 Tryz.prog 93 (uv (S.length + 1) ++ S) rest (.string (bs S)):=fun hs hr hF=>(MV S (by omega) rest hs (hr.cast (by simp only [List.append_assoc])) hF).mono fun e w' hp=>hp.q fun v w' h=>h
theorem Dg (nul:Bool) (S:Bs) (hS:S.length ≤ 32767) (rest:Bs):V7 Tryz.prog 99 (if nul = true then be 2 (-1) else be 2 S.length ++ S) rest (fun A:Option Addr=>.pointer A) (fun A=>L3 (Be A S) (Gr (A.isNone = nul))):=fun hs hr hF=>(Nb nul S (by omega) rest hs hr hF).mono fun e w' hp=>hp.q fun v w' h=>by
 obtain ⟨A,h1,h2,h3⟩:=h
 exact ⟨A,h1,h2,h3⟩
theorem Dh (nul:Bool) (S:Bs) (hS:S.length ≤ 32767) (rest:Bs):V7 Tryz.prog 97 (if nul = true then uv 0 else uv (S.length + 1) ++ S) rest (fun A:Option Addr=>.pointer A) (fun A=>L3 (Be A S) (Gr (A.isNone = nul))):=fun hs hr hF=>(Nf nul S (by omega) rest hs hr hF).mono fun e w' hp=>hp.q fun v w' h=>by
 obtain ⟨A,h1,h2,h3⟩:=h
 exact ⟨A,h1,h2,h3⟩
theorem JA (S:Bs) (hS:S.length ≤ 32767) (rest:Bs):V7 Tryz.prog 106 (be 4 S.length ++ S) rest (fun A:Option Addr=>.slice A S.length S.length) (fun A=>Em A S.length S):=fun hs hr hF=>(MW S (by omega) rest hs (hr.cast (by simp only [List.append_assoc])) hF).mono fun e w' hp=>hp.q fun v w' h=>by
 obtain ⟨A,h1,h2⟩:=h
 exact ⟨A,h1,h2⟩
theorem JB (S:Bs) (hS:S.length ≤ 32767) (rest:Bs):V7 Tryz.prog 105 (uv (S.length + 1) ++ S) rest (fun A:Option Addr=>.slice A S.length S.length) (fun A=>Em A S.length S):=fun hs hr hF=>(MX S (by omega) rest hs (hr.cast (by simp only [List.append_assoc])) hF).mono fun e w' hp=>hp.q fun v w' h=>by
 obtain ⟨A,h1,h2⟩:=h
 exact ⟨A,h1,h2⟩
theorem Nk (S:Bs) (hS:S.length ≤ 32767) (rest:Bs):V7 Tryz.prog 130 (be 4 S.length ++ S) rest (fun A:Option Addr=>.slice A S.length S.length) (fun A=>Em A S.length S):=fun hs hr hF=>(MY S (by omega) rest hs (hr.cast (by simp only [List.append_assoc])) hF).mono fun e w' hp=>hp.q fun v w' h=>by
 obtain ⟨A,h1,h2⟩:=h
 exact ⟨A,h1,h2⟩
theorem GE (n:Nat) (hn:n ≤ 32767) (rest:Bs) (hl:n ≤ rest.length):T1 Tryz.prog 101 (be 4 n) rest (.int .i32 ((n:Nat):Int)):=fun hs hr hF=>(Ng ((n:Nat):Int) (by omega) rest (by omega) hs hr hF).mono fun e w' hp=>hp.q fun v w' h=>h
theorem Nl (n:Nat) (hn:n ≤ 32767) (rest:Bs) (hl:n ≤ rest.length):T1 Tryz.prog 100 (uv (n + 1)) rest (.int .i32 ((n:Nat):Int)):=fun hs hr hF=>(Nh (n + 1) (by omega) rest (by omega) hs hr hF).mono fun e w' hp=>hp.q fun v w' h=>h.trans (congrArg (Value.int .i32) (by omega))
theorem GF (rest:Bs):T1 Tryz.prog 102 [] rest (.bool true):=fun hs hr hF=>(Ni rest hs hr hF).mono fun e w' hp=>hp.q fun v w' h=>h
theorem GG (u:List (Int × Bs)) (hU:T7 u) (hk:∀ x ∈ u,0 ≤ x.1 ∧ x.1 < 4294967296) (rest:Bs):V7 Tryz.prog 107 (uv u.length ++ H0 u) rest (fun m:Option Nat=>.agg #[.map m]) (fun m=>tagsM m u):=fun hs hr hF=>(MT u rest hU.1 hk hU.2.1 hU.2.2 hs (hr.cast (by simp only [List.append_assoc])) hF).mono fun e w' hp=>hp.q fun v w' h=>h
def I4 (v:Int) (T:Tree):Bs:=(((be 4 (lst (T.at_ 0)).length)) ++ ((lst (T.at_ 0)).flatMap fun ab=>((be 2 (ab.at_ 0).S.length ++ (ab.at_ 0).S)) ++ (((be 4 (lst (ab.at_ 1)).length)) ++ ((lst (ab.at_ 1)).flatMap fun ac=>be 4 ((IntKind.i32.wrap ac.N)))))) ++ (((be 4 (B9 (T.at_ 1)).length ++ (B9 (T.at_ 1)))) ++ ([]))
def V9 (v:Int) (T:Tree):Bs:=(be 2 (T.at_ 0).S.length ++ (T.at_ 0).S) ++ (((be 4 (lst (T.at_ 1)).length)) ++ ((lst (T.at_ 1)).flatMap (fun E=>be 4 (IntKind.i32.wrap E.N))))
theorem Nm (v:Int) (T:Tree):0 < (V9 v T).length:=Df (Df (Gz (by decide)))
def JC (v:Int) (T:Tree):Bs:=(((be 4 (lst (T.at_ 0)).length)) ++ ((lst (T.at_ 0)).flatMap (V9 v))) ++ ((be 4 (B9 (T.at_ 1)).length ++ (B9 (T.at_ 1))) ++ (([]:Bs)))
theorem Nn (v:Int) (T:Tree):I4 v T = JC v T:=rfl
def Di (v:Int) (D:DV) (T:Tree):Prop:=((D.f 0).s = bs (T.at_ 0).S) ∧ (((D.f 1).l = (lst (T.at_ 1)).length ∧ ∀ i,i < (D.f 1).l → ((D.f 1).f i).n = IntKind.i32.wrap ((lst (T.at_ 1)).getD i .zero).N)) ∧ True
def Cn (v:Int) (D:DV) (T:Tree):Prop:=(((D.f 0).l = (lst (T.at_ 0)).length ∧ ∀ i,i < (D.f 0).l → Di v ((D.f 0).f i) ((lst (T.at_ 0)).getD i .zero))) ∧ ((D.f 1).o = B9 (T.at_ 1)) ∧ True
theorem No (b o:Nat) (w:World):Calls Tryz.prog 129 #[.pointer (some ⟨b,o,none⟩)] w (fun e w'=>e = .returned (.tuple #[]) ∧ w' = w):=by
 refine enter (n:=2) (vs:=[.pointer (some ⟨b,o,none⟩)]) Tryz.func129 rfl Tryz.ntmps129 kz fun a hE=>?_
 refine wp_skip ?_
 exact M3 hE (WOk.start w B5).cells (v:=.tuple #[]) kz ⟨rfl,rfl⟩
set_option maxHeartbeats 4000000 in
theorem Np (v:Int) (T:Tree) (hv:IntKind.i16.wrap v = v) {bv:Nat} {A:Option Addr} {c:Nat} {w:World} {F:Nat → Nat → Prop} (hst:Str w bv [.int .i16 0,.slice none 0 0,.slice none 0 0]) (ho:Octs w F A c (be 2 v ++ I4 v T)) (hFd:∀ b o,F b o → ¬ (b = bv ∧ o < 3)) (hc:Bc T) (hR:T.ranged) :
  Calls Tryz.prog 115 #[.pointer (some ⟨bv,0,none⟩),.slice A (be 2 v ++ I4 v T).length c,.bool false] w (fun e w'=>∃ D:DV,e = .returned .nilIface ∧ Str w' bv [.int .i16 v,.slice ((D.f 0).A) ((D.f 0).l) ((D.f 0).c),.slice ((D.f 1).A) ((D.f 1).o.length) ((D.f 1).c)] ∧ V6 w' (Fp F w) D ∧ Cn v D T ∧ Step w w' (fun b o=>b = bv ∧ o < 3)):=by
 refine enter (n:=113) Tryz.func115 rfl Tryz.ntmps115 kz fun a hE=>?_
 have hW:=WOk.startStr hst
 let al:Value:=.slice none 0 0
 have hE1:=(hE.grow ⟨bv,0,[.int .i16 0,al,al],true⟩).recast 0 (.v (.pointer (some ⟨bv,0,none⟩))) (.p 0 0) rfl rfl (Nat.le_of_ble_eq_true (n:=1) rfl)
 let ac:Nat × SV:=(2,.v (.bool false))
 refine C1 [(0,.p 0 0),(1,.v (.slice A ((be 2 v ++ I4 v T).length) c)),ac] hW hE1 fun a1 hE2=>?_
 refine B8 [0,1] kz ?_
 refine B3 [0] [1] [(0,.p 0 0),(1,.v (.slice A ((be 2 v ++ I4 v T).length) c)),ac,(23,.p 0 0)] hW hE2 fun a3 hE4=>?_
 refine B1 (L6 hE4 (f:=114) (vs:=[.pointer (some ⟨bv,0,none⟩)]) (d:=24) (n':=2) kz Tryz.call114 Tryz.func114 rfl Tryz.ntmps114 kz fun a5 hE6=>?_)
 have hE7:=hE6.recast 0 (.v (.pointer (some ⟨bv,0,none⟩))) (.p 0 0) rfl rfl (Nat.le_of_ble_eq_true (n:=1) rfl)
 refine wp_skip (M3 hE7 hW.cells (v:=.tuple #[]) kz ?_)
 refine ⟨_,rfl,fun a8 hE9=>?_⟩
 have cX:EnvOk 113 [⟨bv,0,[.int .i16 0,al,al],true⟩] [(24,.v (.tuple #[])),(0,.p 0 0),(1,.v (.slice A ((be 2 v ++ I4 v T).length) c)),ac,(23,.p 0 0)] _:=hE9.places (⟨rfl,rfl,trivial⟩)
 refine B4 (A7 ?_)
 refine B8 [0,1,2,3] kz ?_
 refine B3 [0,1] [2,3] [(0,.p 0 0),ac,(26,.v (.agg #[.slice A ((be 2 v ++ I4 v T).length) c,.bool false]))] hW cX fun ek cY=>?_
 refine B1 (D7 hW cY (d:=7) (cs:=[al,.bool false]) kz fun cV em eo ea eb ec cZ da=>?_)
 refine B1 (C7 cZ da (oi:=1) (cs:=[.slice A ((be 2 v ++ I4 v T).length) c,.bool false]) kz fun eu ee bz db=>?_)
 refine B4 (A7 ?_)
 let ab:Nat × SV:=(7,.p 0 0)
 let aH:C8:=[(0,.p 1 0),ac,ab]
 have dc:=RS.start (F:=F) (s:=be 2 v ++ I4 v T) bz db (ho.move bz.step (fun b_ o_ h_ _=>hFd b_ o_ h_) (bz.immM hFd)) aH
 have dZ:=hc
 have e26r:=hR
 unfold Bc at dZ
 obtain ⟨⟨e26_0,e26_0e⟩,e26_1,_⟩:=dZ
 obtain ⟨aT,bF⟩:∃ R,R = (be 4 (B9 (T.at_ 1)).length ++ (B9 (T.at_ 1))) ++ ([]:Bs):=⟨_,rfl⟩
 obtain ⟨d5,bG⟩:∃ R,R = (((be 4 (lst (T.at_ 0)).length)) ++ ((lst (T.at_ 0)).flatMap (V9 v))) ++ aT:=⟨_,rfl⟩
 have de:=dc.cast (t:=be 2 v ++ d5) (by rw [Nn,bG,bF]; unfold JC; simp only [List.append_assoc])
 refine wp_seq (D9 [0,1,2,3,4] kz ?_)
 refine L8 [0] [1,2,3,4] [(0,.p 1 0),ac,ab,(27,.p 1 0)] de fun _ df=>?_
 refine B1 (Jr (d:=28) df ((by have h_:=@Jz v d5; rw [hv] at h_; exact @h_)) Tryz.call117 fun _ _ dg=>?_)
 refine L8 [2,3] [4] [(0,.p 1 0),ac,ab,(28,.v (.int .i16 v)),(30,.p 1 0)] dg fun _ dh=>?_
 let ak:Ob:=⟨bv,0,[.int .i16 v,al,al],true⟩
 refine B1 (Dd [ak] 0 dh fun _ di=>?_)
 refine B4 ?_
 have dj:=di.pk (env':=aH)
 refine A7 (wp_seq (E5 [(0,.p 1 0),ac,ab,(8,.v (.int .i16 v))] dj fun _ dl=>?_))
 refine A7 (wp_seq (E5 aH dl fun _ dm=>?_))
 refine A7 (wp_seq ?_)
 let ae:Nat × SV:=(9,.p 1 0)
 refine E5 [ac,ab,ae] dm fun _ dn=>?_
 refine A7 (wp_seq (wp_seq (E5 [ac,ab,ae,(10,.v (.slice none 0 0))] dn fun _ dp=>?_)))
 refine A7 (wp_seq ?_)
 let ax:Nat × SV:=(11,.v (.slice none 0 0))
 let aU:C8:=[ac,ab,ae,ax]
 refine E5 aU dp fun _ dq=>?_
 refine A7 (wp_seq (E5 aU dq fun _ dr=>?_))
 refine A7 (wp_seq ?_)
 have dt:=dr.cast bG
 have du:=dt.cast (t:=((be 4 (lst (T.at_ 0)).length)) ++ (((lst (T.at_ 0)).flatMap (V9 v)) ++ aT)) (by rw [List.append_assoc])
 let af:Nat × SV:=(12,.v (.int .i32 (((lst (T.at_ 0)).length:Nat):Int)))
 let aV:C8:=[ac,ab,ae,ax,af]
 refine V8 (d:=42) aV du (GE ((lst (T.at_ 0)).length) e26_0 _ (flat_ge' (Nm v) _)) Tryz.call101 fun _ _ dv=>?_
 refine A7 (wp_seq (wp_seq (GB (d:=43) [ac,ab,ae,ax,af,(44,.v (.bool false))] dv (GF _) Tryz.call102 fun _ _ bH=>?_)))
 refine A7 (F6 bH.env_ (b:=false) kz (rfl) ?_)
 refine wp_skip (A7 (wp_seq (GA (t:=101) (e:=132) (size:=2) (bytes:=40) (d:=47) (A0:=none) (m:=0) (cp:=0) [ac,ab,ae,af,(46,.v (.slice none 0 0))] aV 1 bH fun _ dw=>?_)))
 refine A7 (Gv (Mid:=fun a_ w_=>∃ (au:DV) (P':I1),(∀ w F,P' w F → Bx w F ∧ (Slots w F 2 au.A au.c au.l (fun i=>[.string (((au.f i).f 0).s),.slice (((au.f i).f 1).A) (((au.f i).f 1).l) (((au.f i).f 1).c)]) ∧ au.l ≤ 1000000 ∧ ∀ i,i < au.l → S4 w F (au.f i)) ∧ (au.l = (lst (T.at_ 0)).length ∧ ∀ i,i < au.l → Di v (au.f i) ((lst (T.at_ 0)).getD i .zero))) ∧ RS w (fun b o=>b = bv ∧ o < 3) F 113 cV [ak] [ab,ae,(11,.v (.slice au.A au.l au.c))] P' aT a_ w_) ?_ ?_)
 ·
  refine wp_seq (E5 [ac,ab,ae,ax,af,(49,.v (.bool (decide ((((lst (T.at_ 0)).length:Nat):Int) > 0))))] dw fun _ bD=>A7 ?_)
  let aI:Nat × SV:=(13,.v (.int .i32 0))
  refine D8 bD.env_ (b:=decide ((((lst (T.at_ 0)).length:Nat):Int) > 0)) kz (fun aQ=>?_) (fun aQ=>?_)
  ·
   have hn_g57:0 < (lst (T.at_ 0)).length:=by have h_:=of_decide_eq_true aQ; omega
   refine D9 [0,1,2,3] kz ?_
   refine L8 [0,1] [2,3] [ac,ab,ae,af,(50,.v (.slice none 0 0)),(51,.v (.int .i32 (((lst (T.at_ 0)).length:Nat):Int)))] bD fun _ dx=>?_
   let ay:Value:=.string ByteArray.empty
   refine B1 (Gt (A0:=none) (d:=52) (t:=101) (tn:=21) (e:=132) (size:=2) (bytes:=40) (k:=.i32) (kn:=.i32) (q:=(((lst (T.at_ 0)).length:Nat):Int)) (j:=(lst (T.at_ 0)).length) (.agg #[ay,al]) dx (fun aP cW _ _ hg_g57 hcap_g57 dy=>?_) rfl hn_g57 (by have:=e26_0; omega))
   let ag:Nat × SV:=(11,.v (.slice (some ⟨aP,0,none⟩) ((lst (T.at_ 0)).length) cW))
   refine L8 [3] [] [ac,ab,ae,ag,af] dy fun _ dA=>B4 ?_
   refine A7 (wp_seq (E5 [ac,ab,ae,ag,af,aI] dA fun _ bI=>?_))
   refine A7 (wp_block ?_)
   have aW:=bI.mv
   have dB:=(bI.cast (t:=(lst (T.at_ 0)).flatMap (V9 v) ++ aT) rfl).pk (env':=[ac,ab,ae,ag,af,(13,.v (.int .i32 ((0:Nat):Int)))])
   let d6:Value:=.agg #[.string ByteArray.empty,.slice none 0 0]
   refine Gu (tb:=[ak]) (z:=.agg #[ay,al]) (cl:=Dc) (ok:=S4) (rel:=(Di v)) (L:=lst (T.at_ 0)) (size:=2) (V9 v) aT (fun k=>[ac,ab,ae,ag,af,(13,.v (.int .i32 ((k:Nat):Int)))]) dB U0 (fun aB am _ _ bE dC dD=>?_) (fun _ _ dE=>?_)
   ·
    let ah:Nat × SV:=(13,.v (.int .i32 ((aB:Nat):Int)))
    let aX:C8:=[ac,ab,ae,ag,af,ah]
    let d7:Value:=(.agg #[.string ByteArray.empty,.slice none 0 0])
    obtain ⟨d8,bJ,dF⟩:∃ P',(∀ w F,P' w F → (Bx w F ∧ U1 aP 2 Dc S4 (Di v) (lst (T.at_ 0)) aB w F)) ∧ RS w (fun b o=>b = bv ∧ o < 3) F 113 cV [ak,J5 aP 2 (.agg #[ay,al]) ((lst (T.at_ 0)).length) aB] aX P' ((V9 v) am ++ (((lst (T.at_ 0)).drop (aB + 1)).flatMap (V9 v) ++ aT)) _ _:=⟨_,fun _ _ h=>h,dD⟩
    obtain ⟨aY,bK⟩:∃ R,R = ((lst (T.at_ 0)).drop (aB + 1)).flatMap (V9 v) ++ aT:=⟨_,rfl⟩
    have d9:=(e26_0e am (List.mem_of_getElem? bE))
    have e76r:=(IV (FU e26r 0) am (List.mem_of_getElem? bE))
    unfold Cm at d9
    obtain ⟨e76_0,e76_1,_⟩:=d9
    obtain ⟨ef,bM⟩:∃ R,R = (((be 4 (lst (am.at_ 1)).length)) ++ ((lst (am.at_ 1)).flatMap (fun E=>be 4 (IntKind.i32.wrap E.N)))) ++ aY:=⟨_,rfl⟩
    obtain ⟨eg,bN⟩:∃ R,R = (be 2 (am.at_ 0).S.length ++ (am.at_ 0).S) ++ ef:=⟨_,rfl⟩
    have dG:=dF.cast (t:=eg) (by rw [bN,bM,← bK]; unfold V9; simp only [List.append_assoc])
    refine wp_seq (wp_seq (E5 [ac,ab,ae,ag,af,ah,(55,.v (.bool (decide (((aB:Nat):Int) < (((lst (T.at_ 0)).length:Nat):Int)))))] dG fun _ bO=>A7 ?_))
    refine Q6 bO.env_ (b:=decide (((aB:Nat):Int) < (((lst (T.at_ 0)).length:Nat):Int))) kz (decide_eq_true (by omega)) ?_
    refine wp_skip (A7 (wp_seq (wp_block (wp_seq ?_))))
    let aZ:C8:=[ac,ab,ae,ag,af,ah,(14,.p 3 0)]
    refine Jy (t:=101) (e:=132) (size:=2) (bytes:=40) (d:=60) (tb:=[ak]) (z:=.agg #[ay,al]) [ac,ab,ae,ag,af,ah,(58,.v (.slice (some ⟨aP,0,none⟩) ((lst (T.at_ 0)).length) cW)),(59,.v (.int .i32 ((aB:Nat):Int)))] aZ 2 bO dC rfl kz fun _ dH=>?_
    let ar:Ob:=J5 aP 2 (.agg #[ay,al]) ((lst (T.at_ 0)).length) (aB + 1)
    have dI:=dH.tbEq (tb':=[ak,ar,⟨aP,aB * 2,[ay,al],true⟩]) rfl
    refine A7 (wp_seq (D9 [0,1] kz ?_))
    refine L8 [0] [1] [ac,ab,ae,ag,af,ah,(14,.p 3 0),(61,.p 3 0)] dI fun _ dJ=>?_
    refine B1 (Jw (d:=62) (vs:=[.pointer (some ⟨aP,aB * 2,none⟩)]) dJ (fun _=>No _ _ _) Tryz.call129 fun _ dK=>?_)
    refine B4 ?_
    have dL:=dK.pk (env':=aZ)
    refine A7 (wp_seq ?_)
    let ai:Nat × SV:=(15,.p 3 0)
    let aJ:C8:=[ac,ab,ae,ag,af,ah,ai]
    refine E5 aJ dL fun _ dM=>?_
    refine A7 (wp_seq (wp_seq (E5 aJ dM fun _ dN=>?_)))
    refine A7 (wp_seq (wp_seq (E5 [ac,ab,ae,ag,af,ah,ai,(64,.v (.bool false))] dN fun _ bP=>A7 ?_)))
    refine F6 bP.env_ (b:=false) kz (rfl) ?_
    have dO:=bP.cast bN
    refine V8 (d:=66) [ac,ab,ae,ag,af,ah,ai,(16,.v (.string (bs (am.at_ 0).S)))] dO (Ev (am.at_ 0).S e76_0 _) Tryz.call94 fun _ _ dP=>?_
    refine A7 ?_
    let av:Ob:=⟨aP,aB * 2,[.string (bs (am.at_ 0).S),al],true⟩
    refine Q0 [ak,ar,av] 2 aJ dP fun _ _ dQ=>?_
    refine A7 (wp_seq (E5 [ac,ab,ae,ag,af,ah,ai,(17,.v (.slice none 0 0))] dQ fun _ dR=>?_))
    refine A7 (wp_seq ?_)
    let aA:Nat × SV:=(18,.v (.slice none 0 0))
    let aK:C8:=[ac,ab,ae,ag,af,ah,ai,aA]
    refine E5 aK dR fun _ dS=>?_
    refine A7 (wp_seq (E5 aK dS fun _ dT=>?_))
    refine A7 (wp_seq ?_)
    have dU:=dT.cast bM
    have dV:=dU.cast (t:=((be 4 (lst (am.at_ 1)).length)) ++ (((lst (am.at_ 1)).flatMap (fun E=>be 4 (IntKind.i32.wrap E.N))) ++ aY)) (by rw [List.append_assoc])
    let aj:Nat × SV:=(19,.v (.int .i32 (((lst (am.at_ 1)).length:Nat):Int)))
    let ba:C8:=[ac,ab,ae,ag,af,ah,ai,aA,aj]
    refine V8 (d:=76) ba dV (GE ((lst (am.at_ 1)).length) e76_1 _ (flat_ge' (fun E=>Gz (by decide)) _)) Tryz.call101 fun _ _ bQ=>?_
    refine A7 (wp_seq (wp_seq (GB (d:=77) [ac,ab,ae,ag,af,ah,ai,aA,aj,(78,.v (.bool false))] bQ (GF _) Tryz.call102 fun _ _ bd=>?_)))
    refine A7 (F6 bd.env_ (b:=false) kz (rfl) ?_)
    refine wp_skip (A7 (wp_seq (GA (t:=68) (e:=21) (size:=1) (bytes:=4) (d:=81) (A0:=none) (m:=0) (cp:=0) [ac,ab,ae,ag,af,ah,ai,aj,(80,.v (.slice none 0 0))] ba 1 bd fun _ bR=>?_)))
    refine A7 (Gv (Mid:=fun a_ w_=>∃ (ao:DV) (P':I1),(∀ w F,P' w F → d8 w F ∧ (Slots w F 1 ao.A ao.c ao.l (fun i=>[.int .i32 ((ao.f i).n)]) ∧ ao.l ≤ 1000000 ∧ ∀ i,i < ao.l → True) ∧ (ao.l = (lst (am.at_ 1)).length ∧ ∀ i,i < ao.l → (ao.f i).n = IntKind.i32.wrap ((lst (am.at_ 1)).getD i .zero).N)) ∧ RS w (fun b o=>b = bv ∧ o < 3) F 113 cV [ak,ar,av] [ac,ab,ae,ag,af,ah,ai,(18,.v (.slice ao.A ao.l ao.c))] P' aY a_ w_) ?_ ?_)
    ·
     refine wp_seq (E5 [ac,ab,ae,ag,af,ah,ai,aA,aj,(83,.v (.bool (decide ((((lst (am.at_ 1)).length:Nat):Int) > 0))))] bR fun _ aL=>A7 ?_)
     let aM:Nat × SV:=(20,.v (.int .i32 0))
     refine D8 aL.env_ (b:=decide ((((lst (am.at_ 1)).length:Nat):Int) > 0)) kz (fun aE=>?_) (fun aE=>?_)
     ·
      have hn_g111:0 < (lst (am.at_ 1)).length:=by have h_:=of_decide_eq_true aE; omega
      refine D9 [0,1,2,3] kz ?_
      refine L8 [0,1] [2,3] [ac,ab,ae,ag,af,ah,ai,aj,(84,.v (.slice none 0 0)),(85,.v (.int .i32 (((lst (am.at_ 1)).length:Nat):Int)))] aL fun _ bS=>?_
      refine B1 (Gt (A0:=none) (d:=86) (t:=68) (tn:=21) (e:=21) (size:=1) (bytes:=4) (k:=.i32) (kn:=.i32) (q:=(((lst (am.at_ 1)).length:Nat):Int)) (j:=(lst (am.at_ 1)).length) (.int .i32 0) bS (fun aC aR _ _ hg_g111 hcap_g111 bT=>?_) rfl hn_g111 (by have:=e76_1; omega))
      let ap:Nat × SV:=(18,.v (.slice (some ⟨aC,0,none⟩) ((lst (am.at_ 1)).length) aR))
      refine L8 [3] [] [ac,ab,ae,ag,af,ah,ai,ap,aj] bT fun _ bU=>B4 ?_
      refine A7 (wp_seq (E5 [ac,ab,ae,ag,af,ah,ai,ap,aj,aM] bU fun _ bf=>?_))
      refine A7 (wp_block ?_)
      have aN:=bf.mv
      have bV:=(bf.cast (t:=(lst (am.at_ 1)).flatMap (fun E=>be 4 (IntKind.i32.wrap E.N)) ++ aY) rfl).pk (env':=[ac,ab,ae,ag,af,ah,ai,ap,aj,(20,.v (.int .i32 ((0:Nat):Int)))])
      refine Gu (tb:=[ak,ar,av]) (z:=.int .i32 0) (cl:=(fun d=>[.int .i32 d.n])) (ok:=CR) (rel:=(fun d t=>d.n = IntKind.i32.wrap t.N)) (L:=lst (am.at_ 1)) (size:=1) (fun E=>be 4 (IntKind.i32.wrap E.N)) aY (fun k=>[ac,ab,ae,ag,af,ah,ai,ap,aj,(20,.v (.int .i32 ((k:Nat):Int)))]) bV CS (fun aw aD _ _ bW bX bY=>?_) (fun _ _ bZ=>?_)
      ·
       let aF:Nat × SV:=(20,.v (.int .i32 ((aw:Nat):Int)))
       let bg:C8:=[ac,ab,ae,ag,af,ah,ai,ap,aj,aF]
       obtain ⟨eh,bh,cd⟩:∃ P',(∀ w F,P' w F → (d8 w F ∧ U1 aC 1 (fun d=>[.int .i32 d.n]) CR (fun d t=>d.n = IntKind.i32.wrap t.N) (lst (am.at_ 1)) aw w F)) ∧ RS w (fun b o=>b = bv ∧ o < 3) F 113 cV [ak,ar,av,J5 aC 1 (.int .i32 0) ((lst (am.at_ 1)).length) aw] bg P' ((fun E=>be 4 (IntKind.i32.wrap E.N)) aD ++ (((lst (am.at_ 1)).drop (aw + 1)).flatMap (fun E=>be 4 (IntKind.i32.wrap E.N)) ++ aY)) _ _:=⟨_,fun _ _ h=>h,bY⟩
       obtain ⟨ce,bi⟩:∃ R,R = ((lst (am.at_ 1)).drop (aw + 1)).flatMap (fun E=>be 4 (IntKind.i32.wrap E.N)) ++ aY:=⟨_,rfl⟩
       have cg:=cd.cast (t:=(fun E=>be 4 (IntKind.i32.wrap E.N)) aD ++ ce) (by rw [bi])
       have cm:=cg.cast (t:=(be 4 (IntKind.i32.wrap aD.N)) ++ ce) rfl
       refine wp_seq (wp_seq (E5 [ac,ab,ae,ag,af,ah,ai,ap,aj,aF,(89,.v (.bool (decide (((aw:Nat):Int) < (((lst (am.at_ 1)).length:Nat):Int)))))] cm fun _ bj=>A7 ?_))
       refine Q6 bj.env_ (b:=decide (((aw:Nat):Int) < (((lst (am.at_ 1)).length:Nat):Int))) kz (decide_eq_true (by omega)) ?_
       refine wp_skip (A7 (wp_seq (wp_block (wp_seq (V8 (d:=92) [ac,ab,ae,ag,af,ah,ai,ap,aj,aF,(21,.v (.int .i32 (IntKind.i32.wrap aD.N)))] bj (GC _ _) Tryz.call95 fun _ _ cn=>?_)))))
       refine A7 (D9 [0,1,2,3,4] kz ?_)
       refine L8 [0,1,2] [3,4] [ac,ab,ae,ag,af,ah,ai,ap,aj,aF,(93,.v (.slice (some ⟨aC,0,none⟩) ((lst (am.at_ 1)).length) aR)),(94,.v (.int .i32 ((aw:Nat):Int))),(95,.v (.int .i32 (IntKind.i32.wrap aD.N)))] cn fun _ cq=>?_
       refine B1 (Jx (t:=68) (e:=21) (size:=1) (bytes:=4) (d:=96) (tb:=[ak,ar,av]) (z:=.int .i32 0) cq bX rfl kz fun _ cr=>?_)
       refine B1 (Dd [ak,ar,av,J5 aC 1 (.int .i32 0) ((lst (am.at_ 1)).length) (aw + 1),⟨aC,aw * 1,[.int .i32 (IntKind.i32.wrap aD.N)],true⟩] 4 cr fun _ cu=>B4 ?_)
       have cw:=cu.pk (env':=bg)
       refine G2 (A7 (E5 [ac,ab,ae,ag,af,ah,ai,ap,aj,(20,.v (.int .i32 (IntKind.i32.wrap (((aw:Nat):Int) + 1))))] cw fun _ cz=>?_))
       refine A7 ?_
       let bk:C8:=[ac,ab,ae,ag,af,ah,ai,ap,aj,(20,.v (.int .i32 ((aw + 1:Nat):Int)))]
       have cA:=(cz.envEq (env':=bk) (by rw [Gy (by have:=e76_1; omega)])).pk (env':=bk)
       exact (RS.thing (tb:=[ak,ar,av]) (z:=.int .i32 0) (D:=K7 (IntKind.i32.wrap aD.N)) (cA.cast bi) hg_g111 bW CS aN rfl (fun w F h_=>⟨(bh _ _ h_).1,(bh _ _ h_).2,trivial,rfl⟩) kz)
      refine wp_seq (wp_seq (E5 [ac,ab,ae,ag,af,ah,ai,ap,aj,(20,.v (.int .i32 (((lst (am.at_ 1)).length:Nat):Int))),(89,.v (.bool (decide ((((lst (am.at_ 1)).length:Nat):Int) < (((lst (am.at_ 1)).length:Nat):Int)))))] bZ fun _ bn=>A7 ?_))
      refine F6 bn.env_ (b:=decide ((((lst (am.at_ 1)).length:Nat):Int) < (((lst (am.at_ 1)).length:Nat):Int))) kz (decide_eq_false (by omega)) ?_
      refine wp_exit (E2 (E2 (G3 (A7 ?_))))
      obtain ⟨dW,cB⟩:=RS.listEnd (tb:=[ak,ar,av]) (c:=aR) (bn.pk (env':=[ac,ab,ae,ag,af,ah,ai,ap])) hg_g111 CS aN hcap_g111 (by have:=e76_1; omega) hn_g111 kz
      exact ⟨M7 (some ⟨aC,0,none⟩) (lst (am.at_ 1)).length aR dW,_,fun w F h_=>⟨h_.1,⟨h_.2.1,Nat.le_trans e76_1 (by decide),h_.2.2.1⟩,⟨rfl,h_.2.2.2⟩⟩,cB⟩
     refine wp_skip (A7 (wp_seq (E5 [ac,ab,ae,ag,af,ah,ai,aA,aj,aM] aL fun _ cC=>?_)))
     refine A7 (wp_block (Es (wp_seq (wp_seq (E5 [ac,ab,ae,ag,af,ah,ai,aA,aj,aM,(89,.v (.bool (decide (0 < (((lst (am.at_ 1)).length:Nat):Int)))))] cC fun _ bp=>A7 ?_)))))
     refine F6 bp.env_ (b:=decide (0 < (((lst (am.at_ 1)).length:Nat):Int))) kz (decide_eq_false (by have h_:=of_decide_eq_false aE; omega)) ?_
     refine wp_exit (E2 (E2 (G3 (A7 ?_))))
     have hz_:(lst (am.at_ 1)).length = 0:=by have h_:=of_decide_eq_false aE; omega
     exact ⟨M7 none 0 0 (fun _=>S2),_,fun w F h_=>⟨h_,⟨Slots.nil _ _ _ _,Nat.zero_le _,fun _ h=>absurd h (Nat.not_lt_zero _)⟩,⟨hz_.symm,fun _ h=>absurd h (Nat.not_lt_zero _)⟩⟩,(bp.cast (t:=aY) (by rw [List.eq_nil_of_length_eq_zero hz_]; rfl)).pk (env':=aK)⟩
    rintro _ _ ⟨ao,ei,aG,cE⟩
    refine wp_seq (E5 [ac,ab,ae,ag,af,ah,ai,(17,.v (.slice ao.A ao.l ao.c))] cE fun _ cG=>?_)
    refine A7 (Q0 [ak,ar,⟨aP,aB * 2,[.string (bs (am.at_ 0).S),.slice ao.A ao.l ao.c],true⟩] 2 aX cG fun _ _ cH=>?_)
    refine G2 (A7 (E5 [ac,ab,ae,ag,af,(13,.v (.int .i32 (IntKind.i32.wrap (((aB:Nat):Int) + 1))))] cH fun _ cI=>?_))
    refine A7 ?_
    let bq:C8:=[ac,ab,ae,ag,af,(13,.v (.int .i32 ((aB + 1:Nat):Int)))]
    have cJ:=(cI.envEq (env':=bq) (by rw [Gy (by have:=e26_0; omega)])).pk (env':=bq)
    exact (RS.thing (tb:=[ak]) (z:=.agg #[ay,al]) (D:=(J8 none [] [O2 (bs (am.at_ 0).S),ao])) (cJ.cast bK) hg_g57 bE U0 aW rfl (fun w F h_=>⟨(bJ _ _ (aG _ _ h_).1).1,(bJ _ _ (aG _ _ h_).1).2,⟨(by show ByteArray.size (bs _) ≤ 1000000; rw [M6]; exact Nat.le_trans e76_0 (by decide)),((aG _ _ h_).2.1),trivial⟩,⟨(rfl),((aG _ _ h_).2.2),trivial⟩⟩) kz)
   refine wp_seq (wp_seq (E5 [ac,ab,ae,ag,af,(13,.v (.int .i32 (((lst (T.at_ 0)).length:Nat):Int))),(55,.v (.bool (decide ((((lst (T.at_ 0)).length:Nat):Int) < (((lst (T.at_ 0)).length:Nat):Int)))))] dE fun _ bt=>A7 ?_))
   refine F6 bt.env_ (b:=decide ((((lst (T.at_ 0)).length:Nat):Int) < (((lst (T.at_ 0)).length:Nat):Int))) kz (decide_eq_false (by omega)) ?_
   refine wp_exit (E2 (E2 (G3 (A7 ?_))))
   obtain ⟨dX,cK⟩:=RS.listEnd (tb:=[ak]) (c:=cW) (bt.pk (env':=[ab,ae,ag])) hg_g57 U0 aW hcap_g57 (by have:=e26_0; omega) hn_g57 kz
   exact ⟨M7 (some ⟨aP,0,none⟩) (lst (T.at_ 0)).length cW dX,_,fun w F h_=>⟨h_.1,⟨h_.2.1,Nat.le_trans e26_0 (by decide),h_.2.2.1⟩,⟨rfl,h_.2.2.2⟩⟩,cK⟩
  refine wp_skip (A7 (wp_seq (E5 [ac,ab,ae,ax,af,aI] bD fun _ cL=>?_)))
  refine A7 (wp_block (Es (wp_seq (wp_seq (E5 [ac,ab,ae,ax,af,aI,(55,.v (.bool (decide (0 < (((lst (T.at_ 0)).length:Nat):Int)))))] cL fun _ bu=>A7 ?_)))))
  refine F6 bu.env_ (b:=decide (0 < (((lst (T.at_ 0)).length:Nat):Int))) kz (decide_eq_false (by have h_:=of_decide_eq_false aQ; omega)) ?_
  refine wp_exit (E2 (E2 (G3 (A7 ?_))))
  have hz_:(lst (T.at_ 0)).length = 0:=by have h_:=of_decide_eq_false aQ; omega
  exact ⟨M7 none 0 0 (fun _=>S2),_,fun w F h_=>⟨h_,⟨Slots.nil _ _ _ _,Nat.zero_le _,fun _ h=>absurd h (Nat.not_lt_zero _)⟩,⟨hz_.symm,fun _ h=>absurd h (Nat.not_lt_zero _)⟩⟩,(bu.cast (t:=aT) (by rw [List.eq_nil_of_length_eq_zero hz_]; rfl)).pk (env':=[ab,ae,ax])⟩
 rintro _ _ ⟨au,ev,cM,dY⟩
 refine wp_seq (E5 [ab,ae,(10,.v (.slice au.A au.l au.c))] dY fun _ cN=>?_)
 refine A7 (Q0 [⟨bv,0,[.int .i16 v,.slice au.A au.l au.c,al],true⟩] 0 [ab,ae] cN fun _ _ cO=>?_)
 refine A7 (wp_seq (wp_seq ?_))
 have cP:=cO.cast bF
 refine S5 (d:=107) (fun aS=>[ab,ae,(22,.v (.slice aS ((B9 (T.at_ 1)).length) ((B9 (T.at_ 1)).length)))]) cP (Nk (B9 (T.at_ 1)) e26_1 _) (fun _=>MvF.octs _ _ _) Tryz.call130 fun aS ej _ _ aO cQ=>?_
 refine A7 (Q0 [⟨bv,0,[.int .i16 v,.slice au.A au.l au.c,.slice aS ((B9 (T.at_ 1)).length) ((B9 (T.at_ 1)).length)],true⟩] 0 [ab] cQ fun _ _ cR=>?_)
 refine A7 (wp_seq (D9 [0,1] kz (B1 (Gs (d:=112) cR Gx Tryz.call103 fun _ cS=>?_))))
 refine L8 [1] [] [(6,.v (.nilIface))] cS fun _ bw=>B4 ?_
 refine A7 (wp_ret ?_)
 obtain ⟨A_,m_,c_,hW_,hr_,hE_,hP_⟩:=bw.open_
 refine D5 hE_ hW_.cells (v:=.nilIface) kz ?_
 have h_:=bw.mv.mono G0 hP_
 refine ⟨(J8 none [] [au,O3 aS (B9 (T.at_ 1)) (B9 (T.at_ 1)).length]),rfl,Str.of hW_ 1 rfl,?_,?_,hW_.step⟩
 ·unfold V6
  exact ⟨((cM _ _ (aO _ _ h_).1).2.1),(⟨(aO _ _ h_).2,Nat.le_trans e26_1 (by decide)⟩),trivial⟩
 unfold Cn
 exact ⟨((cM _ _ (aO _ _ h_).1).2.2),(rfl),trivial⟩
theorem JD:O1 V6:=by
 intro w w' F F' M d hs hM hF h
 unfold V6 at h ⊢
 obtain ⟨⟨g0,g0l,g0e⟩,⟨g1,g1l⟩,_⟩:=h
 exact ⟨⟨g0.move hs hM hF,g0l,fun i hi=>U0 _ hs hM hF (g0e i hi)⟩,⟨Octs.move g1 hs hM hF,g1l⟩,trivial⟩
theorem GH {u:List (Int × Bs)} {A:Option Addr} {c:Nat} {w:World} {F:Nat → Nat → Prop} (hu:TagsR w F A c u) (hsrt:P7 u):Calls Tryz.prog 60 #[.slice A u.length c] w (N5 w (.tuple #[])):=by
 obtain ⟨cs1,h2,h3⟩:=hu.ex
 have hsm4:=h2.small
 refine enter (n:=45) Tryz.func60 rfl Tryz.ntmps60 kz fun a hE=>?_
 have hW:=WOk.start w B5
 let ab:Nat × SV:=(0,.v (.slice A u.length c))
 let ac:Nat × SV:=(5,.v (.int .i64 ((u.length:Nat):Int)))
 refine C1 [ab,ac,(6,.v (.int .i64 0))] hW hE fun a5 hE6=>?_
 refine wp_block (wp_loop_ghost (fun n_ a_ w_=>∃ (k:Nat),n_ = u.length - k ∧ k ≤ u.length ∧ F1 hW 45 [] [] [ab,ac,(6,.v (.int .i64 ((k:Nat):Int)))] a_ w_) (u.length) ⟨0,by omega,by omega,hE6.pk,hW,Fr.refl _ _ _⟩ ?_)
 rintro n7 a8 w9 ⟨k,bj,bk,aJ,aj,aw⟩
 let ae:Nat × SV:=(6,.v (.int .i64 ((k:Nat):Int)))
 refine C1 [ab,ac,ae,(7,.v (.bool (decide (((k:Nat):Int) < ((u.length:Nat):Int)))))] aj aJ fun bG ar=>?_
 refine wp_seq (D8 ar (b:=decide (((k:Nat):Int) < ((u.length:Nat):Int))) kz (fun au=>?_) (fun au=>?_))
 ·
  have bn:=of_decide_eq_true au
  refine wp_skip (A7 (wp_seq (wp_block (C1 [ab,(2,.v (.int .i64 ((k:Nat):Int))),ac,ae] aj ar fun bH aK=>?_))))
  let af:Nat × SV:=(3,.v (.int .i64 ((k:Nat):Int)))
  refine C1 [ab,af,ac,ae] aj aK fun bI aL=>?_
  refine wp_block (Es (wp_seq (Br kz aj fun bJ ax ag=>?_)))
  refine D6 [0,1,2] [ab,af,ac,ae,(12,.v (.bool (decide (((k:Nat):Int) > 0))))] 13 (B2 (B2 (B2 (C0 (C0 (B2 (B2 (C0 C6)))))))) (fun _ h=>h ▸ ag.cells) rfl aL fun bK ay=>?_
  refine (Bool.eq_false_or_eq_true (decide (((k:Nat):Int) > 0))).elim (fun ak=>?_) (fun ak=>?_)
  ·
   have bp:=of_decide_eq_true ak
   let ah:Nat × SV:=(12,.v (.bool true))
   have aM:=ay
   rw [ak] at aM
   let ai:Nat × SV:=(18,.v (.slice A u.length c))
   refine D6 [3,4,8,9,10] [ab,af,ac,ae,ah,(13,.v (.slice A u.length c)),(14,.v (.int .i64 ((k:Nat):Int))),ai,(20,.v (.int .i64 (IntKind.i64.wrap (((k:Nat):Int) - 1))))] 8 (B2 (B2 (B2 (C0 (C0 (B2 (B2 (C0 C6)))))))) (fun _ h=>h ▸ ag.cells) rfl aM fun bM aN=>?_
   obtain ⟨bf,bg,aO,bq,ao⟩:=Slots.get h2 (i:=k) (by omega)
   obtain ⟨⟨av,bt⟩,aA⟩:∃ x,u[k]? = some x:=⟨_,List.getElem?_eq_getElem (by omega)⟩
   obtain ⟨⟨bN,bO,aB,bu⟩,bP,bQ⟩:=h3 k av bt aA
   rw [aB] at ao
   refine H9 aN (i:=5) (t:=47) (A:=A) (m:=u.length) (q:=((k:Nat):Int)) (d:=15) kz (e:=88) (size:=2) (bytes:=32) kz aO rfl (by omega) kz kz (B2 (B2 (B2 (C0 (C0 (B2 (B2 (C0 C6)))))))) rfl fun bR aP=>?_
   let al:Nat × SV:=(16,.v (.pointer (some ⟨bf,bg + k * 2,none⟩)))
   refine D6 [6] [ab,af,ac,ae,ah,al,ai,(20,.v (.int .i64 (IntKind.i64.wrap (((k:Nat):Int) - 1))))] 6 (B2 (B2 (B2 (C0 (C0 (B2 (B2 (C0 C6)))))))) (fun _ h=>h ▸ ag.cells) rfl aP fun bS aQ=>?_
   refine P4 aQ (i:=7) (t:=85) (b:=bf) (o:=bg + k * 2) (d:=17) kz (cs:=[.int .u32 av]) (v:=.int .u32 av) kz (fun w' h'=>h' ▸ (At.drop (AtF.move ao ag.step B0 E6).at_ 0 1)) kz kz (B2 (B2 (B2 (C0 (C0 (B2 (B2 (C0 C6)))))))) rfl fun bT aR=>?_
   have aS:IntKind.i64.wrap (((k:Nat):Int) - 1) = (((k - 1):Nat):Int):=by simp only [Ki,E1,S9,IntKind.wrap_i64,IntKind.wrap_i32]; omega
   let am:Nat × SV:=(17,.v (.int .u32 av))
   have aT:=EnvOk.pick aR (ks:=[0,3,5,6,12,16,18,20,17]) (env':=[ab,af,ac,ae,ah,al,ai,(20,.v (.int .i64 (IntKind.i64.wrap (((k:Nat):Int) - 1)))),am]) kz
   have aU:=aT
   rw [aS] at aU
   obtain ⟨bh,bi,aV,bw,ap⟩:=Slots.get h2 (i:=(k - 1)) (by omega)
   obtain ⟨⟨aC,bz⟩,aD⟩:∃ x,u[(k - 1)]? = some x:=⟨_,List.getElem?_eq_getElem (by omega)⟩
   obtain ⟨⟨bU,bV,aE,bD⟩,bW,bX⟩:=h3 (k - 1) aC bz aD
   rw [aE] at ap
   refine H9 aU (i:=11) (t:=47) (A:=A) (m:=u.length) (q:=(((k - 1):Nat):Int)) (d:=21) kz (e:=88) (size:=2) (bytes:=32) kz aV rfl (by omega) kz kz (B2 (B2 (B2 (C0 (C0 (B2 (B2 (C0 C6)))))))) rfl fun bY aW=>?_
   refine D6 [12] [ab,af,ac,ae,ah,am,(22,.v (.pointer (some ⟨bh,bi + (k - 1) * 2,none⟩)))] 3 (B2 (B2 (B2 (C0 (C0 (B2 (B2 (C0 C6)))))))) (fun _ h=>h ▸ ag.cells) rfl aW fun bZ aX=>?_
   refine P4 aX (i:=13) (t:=85) (b:=bh) (o:=bi + (k - 1) * 2) (d:=23) kz (cs:=[.int .u32 aC]) (v:=.int .u32 aC) kz (fun w' h'=>h' ▸ (At.drop (AtF.move ap ag.step B0 E6).at_ 0 1)) kz kz (B2 (B2 (B2 (C0 (C0 (B2 (B2 (C0 C6)))))))) rfl fun cd aY=>?_
   refine D6 [14,15] [ab,af,ac,ae,(25,.v (.bool (decide (av < aC))))] 0 (B2 (B2 (B2 (C0 (C0 (B2 (B2 (C0 C6)))))))) (fun _ h=>h ▸ ag.cells) rfl aY fun ce aF=>?_
   refine F3 kz ?_ _
   refine A7 (F6 aF (b:=decide (av < aC)) kz (decide_eq_false (LZ hsrt aA aD (by omega))) ?_)
   refine wp_exit (E2 (E2 (G3 (G2 (A7 (D9 [0,1] kz ?_))))))
   refine B3 [0,1] [] [ab,ac,(6,.v (.int .i64 (IntKind.i64.wrap (((k:Nat):Int) + 1))))] ag aF fun cg aG=>?_
   refine B4 (A7 ?_)
   have aZ:IntKind.i64.wrap (((k:Nat):Int) + 1) = ((k + 1:Nat):Int):=H1 (by omega)
   rw [aZ] at aG
   exact ⟨u.length - (k + 1),by omega,k + 1,rfl,by omega,aG.pk,ag,(aw.trans ax)⟩
  have bE:=of_decide_eq_false ak
  have ba:=ay
  rw [ak] at ba
  refine D6 [3,4,5,6,7,8,9,10,11,12,13,14,15] [ab,af,ac,ae,(25,.v (.bool false))] 0 (B2 (B2 (B2 (C0 (C0 (B2 (B2 (C0 C6)))))))) (fun _ h=>h ▸ ag.cells) rfl ba fun cm aH=>?_
  refine F3 kz ?_ _
  refine A7 (F6 aH (b:=false) kz rfl ?_)
  refine wp_exit (E2 (E2 (G3 (G2 (A7 (D9 [0,1] kz ?_))))))
  refine B3 [0,1] [] [ab,ac,(6,.v (.int .i64 (IntKind.i64.wrap (((k:Nat):Int) + 1))))] ag aH fun cn aI=>?_
  refine B4 (A7 ?_)
  have bd:IntKind.i64.wrap (((k:Nat):Int) + 1) = ((k + 1:Nat):Int):=H1 (by omega)
  rw [bd] at aI
  exact ⟨u.length - (k + 1),by omega,k + 1,rfl,by omega,aI.pk,ag,(aw.trans ax)⟩
 have bF:=of_decide_eq_false au
 refine wp_exit (E2 (E2 (G3 (M3 ar aj.cells (v:=.tuple #[]) kz ?_))))
 exact ⟨rfl,aj.step⟩
theorem Nq (s:ByteArray) (w:World) (F:Nat → Nat → Prop):Calls Tryz.prog 56 #[.pointer none] w (O9 w F (.mk 0 [] true [] [])):=by
 refine enter (n:=11) Tryz.func56 rfl Tryz.ntmps56 kz fun a hE=>?_
 have hW:=WOk.start w B5
 refine B8 [0] kz ?_
 refine B1 (D7 hW hE (d:=2) (cs:=z4) kz fun b1 a2 w3 hb4 hz5 hF6 hW7 hE8=>?_)
 refine B4 (A7 ?_)
 refine wp_seq (C1 [(0,.v (.pointer none)),(2,.p 0 0),(4,.v (.bool true))] hW7 hE8 fun a9 ab=>?_)
 refine Q6 ab (b:=true) kz rfl ?_
 refine B8 [0,1] kz ?_
 refine B3 [0] [1] [(2,.p 0 0),(5,.v (.agg #[.int .i64 0,.slice none 0 0,.bool true,.slice none 0 0,.slice none 0 0]))] hW7 ab fun ai ae=>?_
 refine B1 (C7 hW7 ae (oi:=0) (cs:=[.int .i64 0,.slice none 0 0,.bool true,.slice none 0 0,.slice none 0 0]) kz fun ag ah ac af=>?_)
 refine B4 (A7 ?_)
 refine wp_ret (F5 (D5 af ac.cells (v:=.agg #[.int .i64 0,.slice none 0 0,.bool true,.slice none 0 0,.slice none 0 0]) kz ?_))
 exact ⟨_,rfl,(show TreeR _ (D4 F w ag [⟨b1,0,[.int .i64 0,.slice none 0 0,.bool true,.slice none 0 0,.slice none 0 0],true⟩] []) _ (Tree.mk 0 [] true [] []) from (TreeR.mk (n:=0) (b:=true) (s:=[]) (l:=[]) (u:=[]) (fun _=>[]) (Octs.nil _ _) (Slots.nil _ _ _ _) (fun i_ x_ h_=>by simp at h_) (TagsR.nil _ _))).move (Step.refl _ B5) B0 G0,ac.step⟩
theorem Nr (b o:Nat) (s:ByteArray) (w:World) (F:Nat → Nat → Prop) (hat:AtF w F b o [.string s]) (hs:s.size ≤ 1000000):Calls Tryz.prog 56 #[.pointer (some ⟨b,o,none⟩)] w (O9 w F (.mk 0 (sb s) false [] [])):=by
 refine enter (n:=11) Tryz.func56 rfl Tryz.ntmps56 kz fun a hE=>?_
 have hW:=WOk.start w B5
 refine B8 [0] kz ?_
 refine B1 (D7 hW hE (d:=2) (cs:=z4) kz fun b1 a2 w3 hb4 hz5 hF6 hW7 hE8=>?_)
 refine B4 (A7 ?_)
 refine wp_seq (C1 [(0,.v (.pointer (some ⟨b,o,none⟩))),(2,.p 0 0),(4,.v (.bool false))] hW7 hE8 fun a9 ab=>?_)
 refine F6 ab (b:=false) kz rfl ?_
 refine wp_skip (A7 (B8 [0,1,2,3,4,5] kz ?_))
 refine B3 [0,1] [2,3,4,5] [(2,.p 0 0),(7,.v (.pointer (some ⟨b,o,none⟩)))] hW7 ab fun av ai=>?_
 refine B1 (G7 ai (t:=9) (b:=b) (o:=o) (d:=8) kz (cs:=[.string s]) (v:=.string s) kz (AtF.move hat hW7.step B0 E6).at_ fun aw aj=>?_)
 refine B1 (Cg (d:=9) (src:=9) (dst:=30) (e:=5) (s:=s) hW7 aj (by omega) fun ag ah ax ay ar ac ak al=>?_)
 have am:=ak F
 refine B3 [4] [5] [(2,.p 0 0),(10,.v (.agg #[.int .i64 0,.slice (some ⟨ag,0,none⟩) ((sb s).length) ah,.bool false,.slice none 0 0,.slice none 0 0]))] ac al fun aA ao=>?_
 refine B1 (C7 ac ao (oi:=0) (cs:=[.int .i64 0,.slice (some ⟨ag,0,none⟩) ((sb s).length) ah,.bool false,.slice none 0 0,.slice none 0 0]) kz fun au ae af ap=>?_)
 refine B4 (A7 ?_)
 refine wp_ret (D5 ap af.cells (v:=.agg #[.int .i64 0,.slice (some ⟨ag,0,none⟩) ((sb s).length) ah,.bool false,.slice none 0 0,.slice none 0 0]) kz ?_)
 exact ⟨_,rfl,(show TreeR _ (D4 F w au [⟨b1,0,[.int .i64 0,.slice (some ⟨ag,0,none⟩) ((sb s).length) ah,.bool false,.slice none 0 0,.slice none 0 0],true⟩] []) _ (Tree.mk 0 (sb s) false [] []) from (TreeR.mk (n:=0) (b:=false) (s:=(sb s)) (l:=[]) (u:=[]) (fun _=>[]) (am.move ae.step immM ae.to') (Slots.nil _ _ _ _) (fun i_ x_ h_=>by simp at h_) (TagsR.nil _ _))).move (Step.refl _ B5) B0 G0,af.step⟩
theorem Dj (A:Option Addr) (s:ByteArray) (w:World) (F:Nat → Nat → Prop) (hO:∀ ad,A = some ad → ∃ b o,ad = ⟨b,o,none⟩ ∧ AtF w F b o [.string s]) (hs:s.size ≤ 1000000):Calls Tryz.prog 56 #[.pointer A] w (O9 w F (T9 A s)):=by
 cases A with
 | none=>exact Nq s w F
 | some ad =>
  obtain ⟨b,o,rfl,h⟩:=hO ad rfl
  exact Nr b o s w F h hs
theorem GI (s:Bs) (A:Option Addr) (c:Nat) (w:World) (F:Nat → Nat → Prop) (ho:Octs w F A c s):Calls Tryz.prog 84 #[.slice A s.length c] w (O9 w F (.mk 0 s A.isNone [] [])):=by
 have hsm:=Slots.small ho
 refine enter (n:=8) Tryz.func84 rfl Tryz.ntmps84 kz fun a hE=>?_
 have hW:=WOk.start w B5
 refine B8 [0] kz ?_
 refine B1 (D7 hW hE (d:=2) (cs:=z4) kz fun b1 a2 w3 hb4 hz5 hF6 hW7 hE8=>?_)
 refine B4 (A7 ?_)
 refine B8 [0,1,2,3,4,5] kz ?_
 refine B3 [0] [1,2,3,4,5] [(0,.v (.slice A s.length c)),(2,.p 0 0),(3,.v (.slice A s.length c))] hW7 hE8 fun a9 ah=>?_
 have ab:=hW7.addNil 5 1
 have au:=hW7.frNil 5 1
 refine B1 (I7 ab ah (k:=0) (d:=4) (t:=30) (e:=5) (size:=1) (bytes:=1) (A:=none) (As:=A) (m0:=0) (c:=0) (m:=s.length) (cs:=c) (xs:=[]) (news:=bc s) kz kz rfl (ho.move ab.step B0 ab.imm).src (ho.move ab.step B0 ab.imm).cap (by first | omega | (simp only [List.length_nil]; omega) | (simp; omega)) fun ae af ay aA av ai aj=>?_)
 have ak:(⟨ae,af,5,1,0 + s.length,[] ++ bc s⟩:Rw) = B6 ae af 5 s:=by rw [List.nil_append,Nat.zero_add]
 obtain ⟨ag,aw⟩:=ai.rowEq 0 [B6 ae af 5 s] ak
 have al:=EnvOk.pick aj (ks:=[0,2,3,4]) (env':=[(0,.v (.slice A s.length c)),(2,.p 0 0),(3,.v (.slice A s.length c)),(4,.v (.slice ae (0 + s.length) af))]) kz
 have am:=al.cast (env':=[(0,.v (.slice A s.length c)),(2,.p 0 0),(3,.v (.slice A s.length c)),(4,.v (.slice ae s.length af))]) (by simp only [List.length_append,List.length_cons,List.length_nil,Nat.zero_add])
 refine B3 [2,3,4] [5] [(2,.p 0 0),(7,.v (.agg #[.int .i64 0,.slice ae s.length af,.bool A.isNone,.slice none 0 0,.slice none 0 0]))] ag am fun aB ao=>?_
 refine B1 (C7 ag ao (oi:=0) (cs:=[.int .i64 0,.slice ae s.length af,.bool A.isNone,.slice none 0 0,.slice none 0 0]) kz fun aC ax ac ap=>?_)
 refine B4 (A7 ?_)
 refine wp_ret (D5 ap ac.cells (v:=.agg #[.int .i64 0,.slice ae s.length af,.bool A.isNone,.slice none 0 0,.slice none 0 0]) kz ?_)
 have ar:=BT (ac.own 0 _ rfl) (by omega) (DY (F:=F) ac (k:=0) rfl)
 exact ⟨_,rfl,TreeR.mk (l:=[]) (u:=[]) _ ar (Slots.nil _ _ 5 (fun _=>[])) (fun _ _ h=>by simp at h) (TagsR.nil _ _),ac.step⟩
theorem Ns:Ed Tryz.prog 59 88:=by
 intro w B cp c n k A Av x x0 x1 x2 x3 xs G hbx ho hG hn
 refine enter (n:=14) Tryz.func59 rfl Tryz.ntmps59 kz fun a hE=>?_
 have hW:=hbx.wok
 have hE0:=(hE.grow ⟨B,0,[x0,x1,x2,x3,.slice A n cp],true⟩).recast 2 (.v (.pointer (some ⟨B,0,none⟩))) (.p 0 0) rfl rfl (by simp [SV.ok])
 have hsm:=Slots.small ho
 have ax:=hE0.pk (env':=[(0,.v (.int .u32 k)),(1,.v (.slice Av x.length c)),(2,.p 0 0)])
 refine P5 9 kz hW fun w1 hF2 hW3 hT4=>?_
 let ab:Nat × SV:=(6,.v (.slice A n cp))
 let ae:Nat × SV:=(7,.v (.int .u32 k))
 let af:Nat × SV:=(8,.v (.slice Av x.length c))
 refine D6 [0,1,2,3] [(2,.p 0 0),ab,ae,af] 6 C6 (fun _ h=>h.cells) hT4 ax fun a5 hE6=>?_
 have hW7:=hW3.addNil 5 1
 have hF8:=hW3.frNil 5 1
 refine C9 (i:=4) kz (I7 hW7 hE6 (k:=1) (d:=9) (t:=30) (e:=5) (size:=1) (bytes:=1) (A:=none) (As:=Av) (m0:=0) (c:=0) (m:=x.length) (cs:=c) (xs:=[]) (news:=bc x) kz kz rfl (ho.move hW7.step (fun b o h _=>hG b o h) E6).src (ho.move hW7.step (fun b o h _=>hG b o h) E6).cap (by first | omega | (simp only [List.length_nil]; omega) | (simp; omega)) fun A9 ag aQ aR ai ay aA=>?_)
 have aB:(⟨A9,ag,5,1,0 + x.length,[] ++ bc x⟩:Rw) = B6 A9 ag 5 x:=by rw [List.nil_append,Nat.zero_add]
 obtain ⟨ak,aj⟩:=ay.rowEq 1 [⟨A,cp,88,2,n,xs⟩,B6 A9 ag 5 x] aB
 have aC:=EnvOk.pick aA (ks:=[2,6,7,8,9]) (env':=[(2,.p 0 0),ab,ae,af,(9,.v (.slice A9 (0 + x.length) ag))]) kz
 have aD:=aC.cast (env':=[(2,.p 0 0),ab,ae,af,(9,.v (.slice A9 x.length ag))]) (by simp only [List.length_append,List.length_cons,List.length_nil,Nat.zero_add])
 have al:=TT.ofW ((hF8.trans ai).trans aj) ak
 refine ⟨fun _=>al,?_⟩
 let ac:Value:=.slice A9 x.length ag
 refine D6 [5] [(2,.p 0 0),ab,(10,.v (.agg #[.int .u32 k,ac]))] 4 C6 (fun _ h=>h.cells) al aD fun aS aE=>?_
 refine C9 (i:=6) kz (G4 ak aE (e:=88) (size:=2) (len:=1) (cs:=[.int .u32 k,ac]) (d:=11) kz kz fun aL aT aU aM aN am ah aF=>?_)
 have aG:=TT.ofW (((hF8.trans ai).trans aj).trans am) ah
 refine ⟨fun _=>aG,?_⟩
 refine C9 (i:=7) kz (I7 ah aF (k:=0) (d:=12) (t:=47) (e:=88) (size:=2) (bytes:=32) (A:=A) (As:=(some ⟨aL,0,none⟩)) (m0:=n) (c:=cp) (m:=1) (cs:=1) (xs:=xs) (news:=[.int .u32 k,ac]) kz kz rfl (M5 (ah.own 2 _ rfl) (K6 kz)) (N7 (ah.own 2 _ rfl)) (by first | omega | (simp only [List.length_nil]; omega) | (simp; omega)) fun av aw aV aW aH ao aI=>?_)
 have ap:=TT.ofW ((((hF8.trans ai).trans aj).trans am).trans aH) ao
 refine ⟨fun _=>ap,?_⟩
 refine D6 [8] [(12,.v (.slice av (n + 1) aw)),(13,.p 0 4)] 1 C6 (fun _ h=>h.cells) ap aI fun aX aJ=>?_
 refine C9 (i:=9) kz (C7 ao aJ (oi:=0) (cs:=[x0,x1,x2,x3,.slice av (n + 1) aw]) kz fun aY aO ar aK=>?_)
 refine ⟨fun h=>absurd rfl h,?_⟩
 refine F3 kz ?_ _
 refine M3 aK ar.cells (v:=.tuple #[]) kz ?_
 obtain ⟨au,aP⟩:=ar.cutR 2 [⟨av,aw,88,2,n + 1,xs ++ [.int .u32 k,ac]⟩,B6 A9 ag 5 x]
 have hoo:=Gh (s:=x) (Av:=A9) (c:=ag) (e8:=5) rfl au (by omega)
 obtain ⟨hb1,hb2,hb3⟩:=Gg au (World.lt_of_cell (hbx.str.at_ 0 _ rfl))
 exact ⟨rfl,av,aw,A9,ag,hb1,hoo,hb2,hb3⟩
theorem Nt:Ed Tryz.prog 108 88:=by
 intro w B cp c n k A Av x x0 x1 x2 x3 xs G hbx ho hG hn
 refine enter (n:=14) Tryz.func108 rfl Tryz.ntmps108 kz fun a hE=>?_
 have hW:=hbx.wok
 have hE0:=(hE.grow ⟨B,0,[x0,x1,x2,x3,.slice A n cp],true⟩).recast 2 (.v (.pointer (some ⟨B,0,none⟩))) (.p 0 0) rfl rfl (by simp [SV.ok])
 have hsm:=Slots.small ho
 have ax:=hE0.pk (env':=[(0,.v (.int .u32 k)),(1,.v (.slice Av x.length c)),(2,.p 0 0)])
 refine P5 9 kz hW fun w1 hF2 hW3 hT4=>?_
 let ab:Nat × SV:=(6,.v (.slice A n cp))
 let ae:Nat × SV:=(7,.v (.int .u32 k))
 let af:Nat × SV:=(8,.v (.slice Av x.length c))
 refine D6 [0,1,2,3] [(2,.p 0 0),ab,ae,af] 6 C6 (fun _ h=>h.cells) hT4 ax fun a5 hE6=>?_
 have hW7:=hW3.addNil 5 1
 have hF8:=hW3.frNil 5 1
 refine C9 (i:=4) kz (I7 hW7 hE6 (k:=1) (d:=9) (t:=30) (e:=5) (size:=1) (bytes:=1) (A:=none) (As:=Av) (m0:=0) (c:=0) (m:=x.length) (cs:=c) (xs:=[]) (news:=bc x) kz kz rfl (ho.move hW7.step (fun b o h _=>hG b o h) E6).src (ho.move hW7.step (fun b o h _=>hG b o h) E6).cap (by first | omega | (simp only [List.length_nil]; omega) | (simp; omega)) fun A9 ag aQ aR ai ay aA=>?_)
 have aB:(⟨A9,ag,5,1,0 + x.length,[] ++ bc x⟩:Rw) = B6 A9 ag 5 x:=by rw [List.nil_append,Nat.zero_add]
 obtain ⟨ak,aj⟩:=ay.rowEq 1 [⟨A,cp,88,2,n,xs⟩,B6 A9 ag 5 x] aB
 have aC:=EnvOk.pick aA (ks:=[2,6,7,8,9]) (env':=[(2,.p 0 0),ab,ae,af,(9,.v (.slice A9 (0 + x.length) ag))]) kz
 have aD:=aC.cast (env':=[(2,.p 0 0),ab,ae,af,(9,.v (.slice A9 x.length ag))]) (by simp only [List.length_append,List.length_cons,List.length_nil,Nat.zero_add])
 have al:=TT.ofW ((hF8.trans ai).trans aj) ak
 refine ⟨fun _=>al,?_⟩
 let ac:Value:=.slice A9 x.length ag
 refine D6 [5] [(2,.p 0 0),ab,(10,.v (.agg #[.int .u32 k,ac]))] 4 C6 (fun _ h=>h.cells) al aD fun aS aE=>?_
 refine C9 (i:=6) kz (G4 ak aE (e:=88) (size:=2) (len:=1) (cs:=[.int .u32 k,ac]) (d:=11) kz kz fun aL aT aU aM aN am ah aF=>?_)
 have aG:=TT.ofW (((hF8.trans ai).trans aj).trans am) ah
 refine ⟨fun _=>aG,?_⟩
 refine C9 (i:=7) kz (I7 ah aF (k:=0) (d:=12) (t:=47) (e:=88) (size:=2) (bytes:=32) (A:=A) (As:=(some ⟨aL,0,none⟩)) (m0:=n) (c:=cp) (m:=1) (cs:=1) (xs:=xs) (news:=[.int .u32 k,ac]) kz kz rfl (M5 (ah.own 2 _ rfl) (K6 kz)) (N7 (ah.own 2 _ rfl)) (by first | omega | (simp only [List.length_nil]; omega) | (simp; omega)) fun av aw aV aW aH ao aI=>?_)
 have ap:=TT.ofW ((((hF8.trans ai).trans aj).trans am).trans aH) ao
 refine ⟨fun _=>ap,?_⟩
 refine D6 [8] [(12,.v (.slice av (n + 1) aw)),(13,.p 0 4)] 1 C6 (fun _ h=>h.cells) ap aI fun aX aJ=>?_
 refine C9 (i:=9) kz (C7 ao aJ (oi:=0) (cs:=[x0,x1,x2,x3,.slice av (n + 1) aw]) kz fun aY aO ar aK=>?_)
 refine ⟨fun h=>absurd rfl h,?_⟩
 refine F3 kz ?_ _
 refine M3 aK ar.cells (v:=.tuple #[]) kz ?_
 obtain ⟨au,aP⟩:=ar.cutR 2 [⟨av,aw,88,2,n + 1,xs ++ [.int .u32 k,ac]⟩,B6 A9 ag 5 x]
 have hoo:=Gh (s:=x) (Av:=A9) (c:=ag) (e8:=5) rfl au (by omega)
 obtain ⟨hb1,hb2,hb3⟩:=Gg au (World.lt_of_cell (hbx.str.at_ 0 _ rfl))
 exact ⟨rfl,av,aw,A9,ag,hb1,hoo,hb2,hb3⟩
theorem Nu:Ed Tryz.prog 85 88:=by
 intro w B cp c n k A Av x x0 x1 x2 x3 xs G hbx ho hG hn
 refine enter (n:=14) Tryz.func85 rfl Tryz.ntmps85 kz fun a hE=>?_
 have hW:=hbx.wok
 have hE0:=(hE.grow ⟨B,0,[x0,x1,x2,x3,.slice A n cp],true⟩).recast 2 (.v (.pointer (some ⟨B,0,none⟩))) (.p 0 0) rfl rfl (by simp [SV.ok])
 have hsm:=Slots.small ho
 have ax:=hE0.pk (env':=[(0,.v (.int .u32 k)),(1,.v (.slice Av x.length c)),(2,.p 0 0)])
 refine P5 9 kz hW fun w1 hF2 hW3 hT4=>?_
 let ab:Nat × SV:=(6,.v (.slice A n cp))
 let ae:Nat × SV:=(7,.v (.int .u32 k))
 let af:Nat × SV:=(8,.v (.slice Av x.length c))
 refine D6 [0,1,2,3] [(2,.p 0 0),ab,ae,af] 6 C6 (fun _ h=>h.cells) hT4 ax fun a5 hE6=>?_
 have hW7:=hW3.addNil 5 1
 have hF8:=hW3.frNil 5 1
 refine C9 (i:=4) kz (I7 hW7 hE6 (k:=1) (d:=9) (t:=30) (e:=5) (size:=1) (bytes:=1) (A:=none) (As:=Av) (m0:=0) (c:=0) (m:=x.length) (cs:=c) (xs:=[]) (news:=bc x) kz kz rfl (ho.move hW7.step (fun b o h _=>hG b o h) E6).src (ho.move hW7.step (fun b o h _=>hG b o h) E6).cap (by first | omega | (simp only [List.length_nil]; omega) | (simp; omega)) fun A9 ag aQ aR ai ay aA=>?_)
 have aB:(⟨A9,ag,5,1,0 + x.length,[] ++ bc x⟩:Rw) = B6 A9 ag 5 x:=by rw [List.nil_append,Nat.zero_add]
 obtain ⟨ak,aj⟩:=ay.rowEq 1 [⟨A,cp,88,2,n,xs⟩,B6 A9 ag 5 x] aB
 have aC:=EnvOk.pick aA (ks:=[2,6,7,8,9]) (env':=[(2,.p 0 0),ab,ae,af,(9,.v (.slice A9 (0 + x.length) ag))]) kz
 have aD:=aC.cast (env':=[(2,.p 0 0),ab,ae,af,(9,.v (.slice A9 x.length ag))]) (by simp only [List.length_append,List.length_cons,List.length_nil,Nat.zero_add])
 have al:=TT.ofW ((hF8.trans ai).trans aj) ak
 refine ⟨fun _=>al,?_⟩
 let ac:Value:=.slice A9 x.length ag
 refine D6 [5] [(2,.p 0 0),ab,(10,.v (.agg #[.int .u32 k,ac]))] 4 C6 (fun _ h=>h.cells) al aD fun aS aE=>?_
 refine C9 (i:=6) kz (G4 ak aE (e:=88) (size:=2) (len:=1) (cs:=[.int .u32 k,ac]) (d:=11) kz kz fun aL aT aU aM aN am ah aF=>?_)
 have aG:=TT.ofW (((hF8.trans ai).trans aj).trans am) ah
 refine ⟨fun _=>aG,?_⟩
 refine C9 (i:=7) kz (I7 ah aF (k:=0) (d:=12) (t:=47) (e:=88) (size:=2) (bytes:=32) (A:=A) (As:=(some ⟨aL,0,none⟩)) (m0:=n) (c:=cp) (m:=1) (cs:=1) (xs:=xs) (news:=[.int .u32 k,ac]) kz kz rfl (M5 (ah.own 2 _ rfl) (K6 kz)) (N7 (ah.own 2 _ rfl)) (by first | omega | (simp only [List.length_nil]; omega) | (simp; omega)) fun av aw aV aW aH ao aI=>?_)
 have ap:=TT.ofW ((((hF8.trans ai).trans aj).trans am).trans aH) ao
 refine ⟨fun _=>ap,?_⟩
 refine D6 [8] [(12,.v (.slice av (n + 1) aw)),(13,.p 0 4)] 1 C6 (fun _ h=>h.cells) ap aI fun aX aJ=>?_
 refine C9 (i:=9) kz (C7 ao aJ (oi:=0) (cs:=[x0,x1,x2,x3,.slice av (n + 1) aw]) kz fun aY aO ar aK=>?_)
 refine ⟨fun h=>absurd rfl h,?_⟩
 refine F3 kz ?_ _
 refine M3 aK ar.cells (v:=.tuple #[]) kz ?_
 obtain ⟨au,aP⟩:=ar.cutR 2 [⟨av,aw,88,2,n + 1,xs ++ [.int .u32 k,ac]⟩,B6 A9 ag 5 x]
 have hoo:=Gh (s:=x) (Av:=A9) (c:=ag) (e8:=5) rfl au (by omega)
 obtain ⟨hb1,hb2,hb3⟩:=Gg au (World.lt_of_cell (hbx.str.at_ 0 _ rfl))
 exact ⟨rfl,av,aw,A9,ag,hb1,hoo,hb2,hb3⟩
def BA (D:DV):Tree:=.mk 0 [] false [.mk 0 (sb (D.f 0).s) false [] [],.mk 0 [] (D.f 1).A.isNone ((List.range (D.f 1).l).map fun i=>.mk (IntKind.i64.wrap ((D.f 1).f i).n) [] false [] []) []] []
def BB (D:DV):Tree:=.mk 0 [] false [.mk 0 [] (D.f 0).A.isNone ((List.range (D.f 0).l).map fun i=>BA ((D.f 0).f i)) [],.mk 0 (D.f 1).o (D.f 1).A.isNone [] []] []
set_option maxHeartbeats 4000000 in
theorem GJ (v:Int) (D:DV) (b o:Nat) (w:World) (F:Nat → Nat → Prop) (hat:AtF w F b o [.string ((D.f 0).s),.slice ((D.f 1).A) ((D.f 1).l) ((D.f 1).c)]) (hok:S4 w F D):Calls Tryz.prog 116 #[.pointer (some ⟨b,o,none⟩)] w (O9 w F (BA D)):=by
 refine enter (n:=77) Tryz.func116 rfl Tryz.ntmps116 kz fun a hE=>?_
 let bI:Value:=.slice ((D.f 1).A) ((D.f 1).l) ((D.f 1).c)
 let aw:Ob:=⟨b,o,[.string ((D.f 0).s),bI],false⟩
 have hW:WOk w B5 w [aw] []:=(WOk.start w B5).start1 hat rfl rfl
 unfold S4 at hok
 obtain ⟨g1,⟨g2,g2l,g2e⟩,_⟩:=hok
 let af:Nat × SV:=(0,.p 0 0)
 have hE0:=(EnvOk.ptr0 (cs:=[.string ((D.f 0).s),bI]) (r:=false) hE).pk (env':=[af])
 refine B8 [0] kz ?_
 let ae:Value:=.int .i64 0
 let ab:Value:=.slice none 0 0
 let ac:Value:=.bool false
 refine B1 (D7 hW hE0 (d:=2) (cs:=[ae,ab,ac,ab,ab]) kz fun b3 a4 w5 hb6 hz7 hF8 hW9 d8=>?_)
 refine B4 (A7 ?_)
 refine B8 [0,1,2,3] kz ?_
 refine B1 (CV (t:=46) (e:=49) (size:=5) (bytes:=88) (d:=5) (j:=2) (.agg #[ae,ab,ac,ab,ab]) [ae,ab,ac,ab,ab,ae,ab,ac,ab,ab] hW9 d8 fun ao gm gn fh fi fj cB d9=>?_)
 let ag:Nat × SV:=(2,.p 1 0)
 let au:Value:=.slice (some ⟨ao,0,none⟩) 2 2
 let eV:Value:=(.agg #[.int .i64 0,.slice none 0 0,.bool false,.slice (some ⟨ao,0,none⟩) 2 2,.slice none 0 0])
 refine B3 [1] [2,3] [af,ag,(6,.v (.agg #[ae,ab,ac,au,ab]))] cB d9 fun gp ea=>?_
 refine B1 (D7 cB ea (d:=3) (cs:=[ae,ab,ac,ab,ab]) kz fun fk gq gt fl fm fo eb ec=>?_)
 refine B1 (C7 eb ec (oi:=3) (cs:=[ae,ab,ac,au,ab]) kz fun gv fq ee ef=>?_)
 refine B4 (A7 ?_)
 refine J2 9 kz ee fun gw fr eg eh=>?_
 let ah:Nat × SV:=(3,.p 3 0)
 let aV:Nat × SV:=(8,.v (.slice (some ⟨ao,0,none⟩) 2 2))
 refine D6 [0,1,2,3,4,5] [af,ag,ah,aV,(12,.v (.string ((D.f 0).s)))] 4 (B2 C6) (fun _ h=>h.cells) eh ef fun gy ei=>?_
 refine C9 (i:=6) kz (Cg (d:=13) (src:=9) (dst:=30) (e:=5) (s:=((D.f 0).s)) eg ei (by omega) fun ft fu gz gA ej cC ek em=>?_)
 have eo:=ek F
 have cm:=TT.ofW ej cC
 refine ⟨fun _=>cm,?_⟩
 let al:Value:=.slice (some ⟨ft,0,none⟩) ((sb ((D.f 0).s)).length) fu
 let bJ:Nat × SV:=(14,.v (.agg #[ae,al,ac,ab,ab]))
 refine D6 [7] [af,ag,ah,aV,bJ] 2 (B2 C6) (fun _ h=>h.cells) cm em fun gB eu=>?_
 refine H9 eu (i:=8) (t:=46) (A:=(some ⟨ao,0,none⟩)) (m:=2) (q:=0) (d:=15) kz (e:=49) (size:=5) (bytes:=88) (j:=0) kz (b:=ao) (o:=0) rfl rfl (by decide) kz kz (B2 C6) cm fun gC ev=>?_
 have ew:=ev.recast 15 (.v (.pointer (some ⟨ao,0 + 0 * 5,none⟩))) (.p 2 0) rfl rfl (Nat.le_of_ble_eq_true (n:=3) rfl)
 have ey:=ew.pk (env':=[af,ag,ah,aV,bJ,(15,.p 2 0)])
 refine C9 (i:=9) kz (C7 cC ey (oi:=2) (cs:=[ae,al,ac,ab,ab,ae,ab,ac,ab,ab]) kz fun gD cE ez eB=>?_)
 refine ⟨fun h=>absurd rfl h,?_⟩
 refine F3 kz ?_ _
 refine A7 (J2 9 kz ez fun gE cG eC cn=>?_)
 let bK:Nat × SV:=(17,.v (.slice (some ⟨ao,0,none⟩) 2 2))
 let aW:Nat × SV:=(22,.v (.bool (((D.f 1).A).isNone)))
 refine D6 [0,1,2,3,4,5,6] [af,ag,ah,bK,aW] 3 (B2 C6) (fun _ h=>h.cells) cn eB fun gF eD=>?_
 refine C9 (i:=7) kz (F2 eD (t:=46) (A:=(some ⟨ao,0,none⟩)) (m:=2) (q:=1) (d:=23) kz (e:=49) (size:=5) (bytes:=88) (j:=1) kz (b:=ao) (o:=0) rfl rfl (by decide) fun gG eE=>?_)
 have eF:=eE.recast 23 (.v (.pointer (some ⟨ao,0 + 1 * 5,none⟩))) (.p 2 5) rfl rfl (Nat.le_of_ble_eq_true (n:=3) rfl)
 have eG:=eF.pk (env':=[af,ag,ah,bK,aW,(23,.p 2 5)])
 refine ⟨fun _=>cn,?_⟩
 refine D6 [8] [af,ag,ah,aW,(24,.p 2 7)] 1 (B2 C6) (fun _ h=>h.cells) cn eG fun gH eH=>?_
 let ap:Value:=.bool (((D.f 1).A).isNone)
 refine C9 (i:=9) kz (C7 eC eH (oi:=2) (cs:=[ae,al,ac,ab,ab,ae,ab,ap,ab,ab]) kz fun gI cH cq eI=>?_)
 refine ⟨fun h=>absurd rfl h,?_⟩
 refine F3 kz ?_ _
 refine A7 (wp_seq ?_)
 let ai:Nat × SV:=(29,.v (.int .i64 (((D.f 1).l:Nat):Int)))
 refine C1 [af,ag,ah,ai,(30,.v (.int .i64 0))] cq eI fun gJ eJ=>?_
 refine wp_block ?_
 have cI:=cq.addNil 49 5
 have cJ:=cq.frNil 49 5
 let aL:Ob:=⟨b3,0,[ae,ab,ac,ab,ab],true⟩
 let aE:Ob:=⟨fk,0,[ae,ab,ac,au,ab],true⟩
 refine wp_loop_ghost (fun n_ a_ w_=>∃ (k1_:Nat) (A1_:Option Addr) (c1_:Nat) (xs1_:List Value) (css1_:List (List Value)),n_ = (D.f 1).l - k1_ ∧ k1_ ≤ (D.f 1).l ∧ (Trees w_ (D4 F w w_ [aw,aL,⟨ao,0,[ae,al,ac,ab,ab,ae,ab,ap,.slice A1_ k1_ c1_,ab],true⟩,aE] [⟨A1_,c1_,49,5,k1_,xs1_⟩]) xs1_ (((List.range (D.f 1).l).map (fun i=>Tree.mk (IntKind.i64.wrap ((D.f 1).f i).n) [] false [] [])).take k1_) css1_) ∧ F1 cI 77 [aw,aL,⟨ao,0,[ae,al,ac,ab,ab,ae,ab,ap,.slice A1_ k1_ c1_,ab],true⟩,aE] [⟨A1_,c1_,49,5,k1_,xs1_⟩] [af,ag,ah,ai,(30,.v (.int .i64 ((k1_:Nat):Int)))] a_ w_) ((D.f 1).l) ⟨0,none,0,[],[],by omega,by omega,Trees.nil _ _,eJ.pk,cI,Fr.refl _ _ _⟩ ?_
 rintro gK gL gM ⟨k1_,A1_,c1_,xs1_,css1_,fv,fw,hT1_,eK,aX,bH⟩
 let aj:Nat × SV:=(30,.v (.int .i64 ((k1_:Nat):Int)))
 refine C1 [af,ag,ah,ai,aj,(31,.v (.bool (decide (((k1_:Nat):Int) < (((D.f 1).l:Nat):Int)))))] aX eK fun gN cr=>?_
 refine wp_seq (D8 cr (b:=decide (((k1_:Nat):Int) < (((D.f 1).l:Nat):Int))) kz (fun cu=>?_) (fun cu=>?_))
 ·
  have fx:=of_decide_eq_true cu
  refine wp_skip (A7 (wp_seq (wp_block ?_)))
  let aY:Nat × SV:=(4,.v (.int .i64 ((k1_:Nat):Int)))
  refine C1 [af,ag,ah,aY,ai,aj] aX cr fun gO eM=>?_
  refine J2 4 kz aX fun gP aS eN fy=>?_
  refine C9 (i:=0) kz (D7 eN eM (d:=33) (cs:=[ac]) kz fun gQ gR fA eW eX ak aZ bM=>?_)
  have cK:=TT.ofW ak aZ
  refine ⟨fun _=>cK,?_⟩
  let am:Value:=.int .i64 (IntKind.i64.wrap (((D.f 1).f k1_).n))
  let eY:Value:=(.agg #[.int .i64 (IntKind.i64.wrap (((D.f 1).f k1_).n)),.slice none 0 0,.bool false,.slice none 0 0,.slice none 0 0])
  refine N8 (i:=1) (j:=2) kz ?_ ?_
  ·
   refine (C7 aZ bM (oi:=4) (cs:=[.bool true]) kz fun fB ax bN cL=>?_)
   have cM:=TT.ofW (ak.trans ax) bN
   refine ⟨fun _=>cM,?_⟩
   refine C9 (i:=2) kz (C7 bN cL (oi:=4) (cs:=[ac]) kz fun fC aF aM cN=>?_)
   have cO:=TT.ofW ((ak.trans ax).trans aF) aM
   refine ⟨fun _=>cO,?_⟩
   refine C9 (i:=3) kz (T5 [0,2,3,4,29,30,34] aM.cells cN (env':=[af,ag,ah,aY,ai,aj,(34,.v (.bool false))]) kz fun fD bO=>?_)
   have cP:=TT.ofW ((ak.trans ax).trans aF) aM
   refine ⟨fun _=>cP,?_⟩
   refine F3 kz ?_ _
   refine A7 (F6 bO (b:=false) kz rfl ?_)
   refine P5 20 kz aM fun fE ba bP ay=>?_
   let aG:Nat × SV:=(56,.v (.slice (some ⟨ao,0,none⟩) 2 2))
   let bQ:Nat × SV:=(58,.v (.slice (some ⟨ao,0,none⟩) 2 2))
   let bd:Nat × SV:=(65,.v (.slice ((D.f 1).A) ((D.f 1).l) ((D.f 1).c)))
   let bf:Nat × SV:=(66,.v (.int .i64 ((k1_:Nat):Int)))
   refine D6 [0,1,2,3,7,8,9,10,11] [af,ag,ah,ai,aj,aG,bQ,bd,bf] 12 (C0 (B2 (B2 (C0 (B2 C6))))) (fun _ h=>h.cells) ay bO fun fF cQ=>?_
   refine H9 cQ (i:=4) (t:=46) (A:=(some ⟨ao,0,none⟩)) (m:=2) (q:=1) (d:=59) kz (e:=49) (size:=5) (bytes:=88) (j:=1) kz (b:=ao) (o:=0) rfl rfl (by decide) kz kz (C0 (B2 (B2 (C0 (B2 C6))))) ay fun fG cR=>?_
   have cS:=cR.recast 59 (.v (.pointer (some ⟨ao,0 + 1 * 5,none⟩))) (.p 2 5) rfl rfl (Nat.le_of_ble_eq_true (n:=3) rfl)
   have cV:=cS.pk (env':=[af,ag,ah,ai,aj,aG,bQ,bd,bf,(59,.p 2 5)])
   let bg:Nat × SV:=(61,.v (.slice A1_ k1_ c1_))
   refine D6 [5,6] [af,ag,ah,ai,aj,aG,bg,bd,bf] 9 (C0 (B2 (B2 (C0 (B2 C6))))) (fun _ h=>h.cells) ay cV fun fH cW=>?_
   obtain ⟨eO,eP,cX,eZ,cw⟩:=Slots.get g2 (i:=k1_) (by omega)
   refine H9 cW (i:=12) (t:=68) (A:=(D.f 1).A) (m:=((D.f 1).l)) (q:=((k1_:Nat):Int)) (d:=67) kz (e:=21) (size:=1) (bytes:=4) kz cX rfl (by omega) kz kz (C0 (B2 (B2 (C0 (B2 C6))))) ay fun fI cY=>?_
   refine P4 cY (i:=13) (t:=21) (b:=eO) (o:=eP + k1_ * 1) (d:=68) kz (cs:=[.int .i32 (((D.f 1).f k1_).n)]) (v:=.int .i32 (((D.f 1).f k1_).n)) kz (fun w' h'=>(AtF.move cw (TT.step0 bP h') B0 E6).at_) kz kz (C0 (B2 (B2 (C0 (B2 C6))))) ay fun fJ cZ=>?_
   refine D6 [14,15] [af,ag,ah,ai,aj,aG,bg,(70,.v (.agg #[am,ab,ac,ab,ab]))] 5 (C0 (B2 (B2 (C0 (B2 C6))))) (fun _ h=>h.cells) ay cZ fun fK da=>?_
   refine C9 (i:=16) kz (G4 bP da (e:=49) (size:=5) (len:=1) (cs:=[am,ab,ac,ab,ab]) (d:=71) kz kz fun db fL fM e9 fa aA aN dc=>?_)
   have de:=TT.ofW aA aN
   refine ⟨fun _=>de,?_⟩
   refine C9 (i:=17) kz (I7 aN dc (k:=0) (d:=72) (t:=46) (e:=49) (size:=5) (bytes:=88) (A:=A1_) (As:=(some ⟨db,0,none⟩)) (m0:=k1_) (c:=c1_) (m:=1) (cs:=1) (xs:=xs1_) (news:=[am,ab,ac,ab,ab]) kz kz rfl (M5 (aN.own 1 _ rfl) (K6 kz)) (N7 (aN.own 1 _ rfl)) (by omega) fun aT aU fN fO aH bh df=>?_)
   have dg:=TT.ofW (aA.trans aH) bh
   refine ⟨fun _=>dg,?_⟩
   refine C9 (i:=18) kz (F2 df (t:=46) (A:=(some ⟨ao,0,none⟩)) (m:=2) (q:=1) (d:=73) kz (e:=49) (size:=5) (bytes:=88) (j:=1) kz (b:=ao) (o:=0) rfl rfl (by decide) fun fP dh=>?_)
   have di:=dh.recast 73 (.v (.pointer (some ⟨ao,0 + 1 * 5,none⟩))) (.p 2 5) rfl rfl (Nat.le_of_ble_eq_true (n:=3) rfl)
   have dj:=di.pk (env':=[af,ag,ah,ai,aj,aG,bg,(70,.v (.agg #[am,ab,ac,ab,ab])),(71,.v (.slice (some ⟨db,0,none⟩) 1 1)),(72,.v (.slice aT (k1_ + 1) aU)),(73,.p 2 5)])
   have bR:=TT.ofW (aA.trans aH) bh
   refine ⟨fun _=>bR,?_⟩
   refine D6 [19] [af,ag,ah,ai,aj,(72,.v (.slice aT (k1_ + 1) aU)),(74,.p 2 8)] 1 (C0 (B2 (B2 (C0 (B2 C6))))) (fun _ h=>h.cells) bR dj fun fQ dl=>?_
   refine C9 (i:=20) kz (C7 bh dl (oi:=2) (cs:=[ae,al,ac,ab,ab,ae,ab,ap,.slice aT (k1_ + 1) aU,ab]) kz fun fR bi bS dm=>?_)
   refine ⟨fun h=>absurd rfl h,?_⟩
   refine F3 kz ?_ _
   refine G2 (A7 (D9 [0,1] kz ?_))
   refine B3 [0,1] [] [af,ag,ah,ai,(30,.v (.int .i64 (IntKind.i64.wrap (((k1_:Nat):Int) + 1))))] bS dm fun fS dn=>?_
   refine B4 (A7 ?_)
   obtain ⟨bT,dp,bj⟩:=bS.cutB dn 4 [aw,aL,⟨ao,0,[ae,al,ac,ab,ab,ae,ab,ap,.slice aT (k1_ + 1) aU,ab],true⟩,aE] [af,ag,ah,ai,(30,.v (.int .i64 (IntKind.i64.wrap (((k1_:Nat):Int) + 1))))]
   obtain ⟨dq,bk⟩:=dp.cutR 1 [⟨aT,aU,49,5,k1_ + 1,xs1_ ++ [am,ab,ac,ab,ab]⟩]
   have dr:IntKind.i64.wrap (((k1_:Nat):Int) + 1) = ((k1_ + 1:Nat):Int):=H1 (by omega)
   rw [dr] at bT
   exact ⟨(D.f 1).l - (k1_ + 1),by omega,k1_ + 1,aT,aU,xs1_ ++ [Value.int .i64 (IntKind.i64.wrap (((D.f 1).f k1_).n)),.slice none 0 0,.bool false,.slice none 0 0,.slice none 0 0],(css1_ ++ [[Value.int .i64 (IntKind.i64.wrap (((D.f 1).f k1_).n)),.slice none 0 0,.bool false,.slice none 0 0,.slice none 0 0]]),rfl,by omega,by rw [take_range (by omega)]; exact (hT1_.move (((((((((aS.trans ak).trans ax).trans aF).trans ba).trans aA).trans aH).trans bi).trans bj).trans bk).step immM (((((((((aS.trans ak).trans ax).trans aF).trans ba).trans aA).trans aH).trans bi).trans bj).trans bk).to').snoc (x:=(fun i=>Tree.mk (IntKind.i64.wrap ((D.f 1).f i).n) [] false [] []) k1_) (TreeR.mk (n:=IntKind.i64.wrap (((D.f 1).f k1_).n)) (b:=false) (s:=[]) (l:=[]) (u:=[]) (fun _=>[]) (Octs.nil _ _) (Slots.nil _ _ _ _) (fun i_ x_ h_=>by simp at h_) (TagsR.nil _ _)),bT.pk,dq,((((((((((bH.trans aS).trans ak).trans ax).trans aF).trans ba).trans aA).trans aH).trans bi).trans bj).trans bk)⟩
  refine (C7 aZ bM (oi:=4) (cs:=[ac]) kz fun fT aB bU dt=>?_)
  have du:=TT.ofW (ak.trans aB) bU
  refine ⟨fun _=>du,?_⟩
  refine C9 (i:=1) kz (C7 bU dt (oi:=4) (cs:=[.bool true]) kz fun fV aI aO dv=>?_)
  have dw:=TT.ofW ((ak.trans aB).trans aI) aO
  refine ⟨fun _=>dw,?_⟩
  refine C9 (i:=3) kz (T5 [0,2,3,4,29,30,34] aO.cells dv (env':=[af,ag,ah,aY,ai,aj,(34,.v (.bool true))]) kz fun fW bV=>?_)
  have dx:=TT.ofW ((ak.trans aB).trans aI) aO
  refine ⟨fun _=>dx,?_⟩
  refine F3 kz ?_ _
  refine A7 (Q6 bV (b:=true) kz rfl ?_)
  refine J2 19 kz aO fun fX bn bW aC=>?_
  let aJ:Nat × SV:=(36,.v (.slice (some ⟨ao,0,none⟩) 2 2))
  let bp:Nat × SV:=(43,.v (.slice ((D.f 1).A) ((D.f 1).l) ((D.f 1).c)))
  let bq:Nat × SV:=(44,.v (.int .i64 ((k1_:Nat):Int)))
  refine D6 [0,1,5,6,7,8,9] [af,ag,ah,ai,aj,aJ,bp,bq] 13 (B2 (C0 (B2 (B2 (C0 (B2 C6)))))) (fun _ h=>h.cells) aC bV fun fY dy=>?_
  refine H9 dy (i:=2) (t:=46) (A:=(some ⟨ao,0,none⟩)) (m:=2) (q:=1) (d:=37) kz (e:=49) (size:=5) (bytes:=88) (j:=1) kz (b:=ao) (o:=0) rfl rfl (by decide) kz kz (B2 (C0 (B2 (B2 (C0 (B2 C6)))))) aC fun fZ dA=>?_
  have dB:=dA.recast 37 (.v (.pointer (some ⟨ao,0 + 1 * 5,none⟩))) (.p 2 5) rfl rfl (Nat.le_of_ble_eq_true (n:=3) rfl)
  have dC:=dB.pk (env':=[af,ag,ah,ai,aj,aJ,bp,bq,(37,.p 2 5)])
  let bt:Nat × SV:=(39,.v (.slice A1_ k1_ c1_))
  let aP:Nat × SV:=(49,.v (.int .i64 ((k1_:Nat):Int)))
  refine D6 [3,4,14] [af,ag,ah,ai,aj,aJ,bt,bp,bq,aP] 9 (B2 (C0 (B2 (B2 (C0 (B2 C6)))))) (fun _ h=>h.cells) aC dC fun f5 dD=>?_
  obtain ⟨eQ,eR,dE,fb,cz⟩:=Slots.get g2 (i:=k1_) (by omega)
  refine H9 dD (i:=10) (t:=68) (A:=(D.f 1).A) (m:=((D.f 1).l)) (q:=((k1_:Nat):Int)) (d:=45) kz (e:=21) (size:=1) (bytes:=4) kz dE rfl (by omega) kz kz (B2 (C0 (B2 (B2 (C0 (B2 C6)))))) aC fun f7 dF=>?_
  refine P4 dF (i:=11) (t:=21) (b:=eQ) (o:=eR + k1_ * 1) (d:=46) kz (cs:=[.int .i32 (((D.f 1).f k1_).n)]) (v:=.int .i32 (((D.f 1).f k1_).n)) kz (fun w' h'=>(AtF.move cz (TT.step0 bW h') B0 E6).at_) kz kz (B2 (C0 (B2 (B2 (C0 (B2 C6)))))) aC fun f8 dG=>?_
  refine D6 [12,13] [af,ag,ah,ai,aj,aJ,bt,(48,.v (.agg #[am,ab,ac,ab,ab])),aP] 5 (B2 (C0 (B2 (B2 (C0 (B2 C6)))))) (fun _ h=>h.cells) aC dG fun f9 dH=>?_
  refine C9 (i:=15) kz (G4 bW dH (e:=49) (size:=5) (len:=1) (cs:=[ae,ab,ac,ab,ab]) (d:=50) kz kz fun cA ga gb fe ff aD aQ dI=>?_)
  have dJ:=TT.ofW aD aQ
  refine ⟨fun _=>dJ,?_⟩
  refine C9 (i:=16) kz (I7 aQ dI (k:=0) (d:=51) (t:=46) (e:=49) (size:=5) (bytes:=88) (A:=A1_) (As:=(some ⟨cA,0,none⟩)) (m0:=k1_) (c:=c1_) (m:=1) (cs:=1) (xs:=xs1_) (news:=[ae,ab,ac,ab,ab]) kz kz rfl (M5 (aQ.own 1 _ rfl) (K6 kz)) (N7 (aQ.own 1 _ rfl)) (by omega) fun ar av gc gd aK bu dK=>?_)
  have dL:=TT.ofW (aD.trans aK) bu
  refine ⟨fun _=>dL,?_⟩
  refine C9 (i:=17) kz (F2 dK (t:=46) (A:=(some ⟨ao,0,none⟩)) (m:=2) (q:=1) (d:=52) kz (e:=49) (size:=5) (bytes:=88) (j:=1) kz (b:=ao) (o:=0) rfl rfl (by decide) fun ge dM=>?_)
  have dN:=dM.recast 52 (.v (.pointer (some ⟨ao,0 + 1 * 5,none⟩))) (.p 2 5) rfl rfl (Nat.le_of_ble_eq_true (n:=3) rfl)
  have dO:=dN.pk (env':=[af,ag,ah,ai,aj,aJ,bt,(48,.v (.agg #[am,ab,ac,ab,ab])),aP,(50,.v (.slice (some ⟨cA,0,none⟩) 1 1)),(51,.v (.slice ar (k1_ + 1) av)),(52,.p 2 5)])
  have bX:=TT.ofW (aD.trans aK) bu
  refine ⟨fun _=>bX,?_⟩
  refine D6 [18] [af,ag,ah,ai,aj,(48,.v (.agg #[am,ab,ac,ab,ab])),aP,(51,.v (.slice ar (k1_ + 1) av)),(53,.p 2 8)] 1 (B2 (C0 (B2 (B2 (C0 (B2 C6)))))) (fun _ h=>h.cells) bX dO fun gg dP=>?_
  refine C9 (i:=19) kz (C7 bu dP (oi:=2) (cs:=[ae,al,ac,ab,ab,ae,ab,ap,.slice ar (k1_ + 1) av,ab]) kz fun eS bw bY dQ=>?_)
  refine ⟨fun h=>absurd rfl h,?_⟩
  refine F3 kz ?_ _
  refine A7 (D9 [0,1] kz ?_)
  have dR:World.ownsRow eS 0 49 5 (.slice ar (k1_ + 1) av) (k1_ + 1) (xs1_ ++ [ae,ab,ac,ab,ab]):=bY.own 0 _ rfl
  obtain ⟨dS,bZ⟩:=Q9 dR (by omega)
  refine B1 (F2 dQ (t:=46) (A:=ar) (m:=(k1_ + 1)) (q:=((k1_:Nat):Int)) (d:=54) kz (e:=49) (size:=5) (bytes:=88) kz (b:=dS) (o:=0) (j:=k1_) bZ (rfl) (by omega) fun gh dT=>?_)
  refine B1 (X0 bY dT (k:=0) (g:=dS) (o:=k1_ * 5) (c:=av) (m:=(k1_ + 1)) (size:=5) (e:=49) (A:=ar) (xs:=(xs1_ ++ [ae,ab,ac,ab,ab])) (vs:=[am,ab,ac,ab,ab]) kz rfl bZ (by simp only [List.length_cons,List.length_nil]; omega) fun gi bz dU dV=>?_)
  have dW:(⟨ar,av,49,5,k1_ + 1,K5 (xs1_ ++ [.int .i64 0,.slice none 0 0,.bool false,.slice none 0 0,.slice none 0 0]) (k1_ * 5) [.int .i64 (IntKind.i64.wrap (((D.f 1).f k1_).n)),.slice none 0 0,.bool false,.slice none 0 0,.slice none 0 0]⟩:Rw) = ⟨ar,av,49,5,k1_ + 1,xs1_ ++ [.int .i64 (IntKind.i64.wrap (((D.f 1).f k1_).n)),.slice none 0 0,.bool false,.slice none 0 0,.slice none 0 0]⟩:=by rw [CW (by rw [hT1_.xslen,List.length_take,J4]; omega)]
  obtain ⟨cd,bD⟩:=dU.rowEq 0 [⟨ar,av,49,5,k1_ + 1,xs1_ ++ [am,ab,ac,ab,ab]⟩,⟨some ⟨cA,0,none⟩,1,49,5,1,[ae,ab,ac,ab,ab]⟩] dW
  refine B4 (G2 (A7 (D9 [0,1] kz ?_)))
  refine B3 [0,1] [] [af,ag,ah,ai,(30,.v (.int .i64 (IntKind.i64.wrap (((k1_:Nat):Int) + 1))))] cd dV fun gj dX=>?_
  refine B4 (A7 ?_)
  obtain ⟨ce,dY,bE⟩:=cd.cutB dX 4 [aw,aL,⟨ao,0,[ae,al,ac,ab,ab,ae,ab,ap,.slice ar (k1_ + 1) av,ab],true⟩,aE] [af,ag,ah,ai,(30,.v (.int .i64 (IntKind.i64.wrap (((k1_:Nat):Int) + 1))))]
  obtain ⟨dZ,bF⟩:=dY.cutR 1 [⟨ar,av,49,5,k1_ + 1,xs1_ ++ [am,ab,ac,ab,ab]⟩]
  have d5:IntKind.i64.wrap (((k1_:Nat):Int) + 1) = ((k1_ + 1:Nat):Int):=H1 (by omega)
  rw [d5] at ce
  exact ⟨(D.f 1).l - (k1_ + 1),by omega,k1_ + 1,ar,av,xs1_ ++ [Value.int .i64 (IntKind.i64.wrap (((D.f 1).f k1_).n)),.slice none 0 0,.bool false,.slice none 0 0,.slice none 0 0],(css1_ ++ [[Value.int .i64 (IntKind.i64.wrap (((D.f 1).f k1_).n)),.slice none 0 0,.bool false,.slice none 0 0,.slice none 0 0]]),rfl,by omega,by rw [take_range (by omega)]; exact (hT1_.move (((((((((((aS.trans ak).trans aB).trans aI).trans bn).trans aD).trans aK).trans bw).trans bz).trans bD).trans bE).trans bF).step immM (((((((((((aS.trans ak).trans aB).trans aI).trans bn).trans aD).trans aK).trans bw).trans bz).trans bD).trans bE).trans bF).to').snoc (x:=(fun i=>Tree.mk (IntKind.i64.wrap ((D.f 1).f i).n) [] false [] []) k1_) (TreeR.mk (n:=IntKind.i64.wrap (((D.f 1).f k1_).n)) (b:=false) (s:=[]) (l:=[]) (u:=[]) (fun _=>[]) (Octs.nil _ _) (Slots.nil _ _ _ _) (fun i_ x_ h_=>by simp at h_) (TagsR.nil _ _)),ce.pk,dZ,((((((((((((bH.trans aS).trans ak).trans aB).trans aI).trans bn).trans aD).trans aK).trans bw).trans bz).trans bD).trans bE).trans bF)⟩
 have fg:=of_decide_eq_false cu
 refine wp_exit (E2 (E2 (G3 (A7 (B8 [0,1] kz ?_)))))
 refine B3 [0] [1] [ag,(76,.v (.agg #[ae,ab,ac,au,ab]))] aX cr fun gk d6=>?_
 refine B1 (C7 aX d6 (oi:=1) (cs:=[ae,ab,ac,au,ab]) kz fun eU aR bG d7=>?_)
 refine B4 (A7 ?_)
 refine wp_ret (D5 d7 bG.cells (v:=.agg #[ae,ab,ac,au,ab]) kz ?_)
 have cg:=(hT1_.move aR.step immM aR.to')
 rw [Ci (by omega)] at cg
 exact CX (u:=[]) (l:=[.mk 0 (sb (D.f 0).s) false [] [],.mk 0 [] (D.f 1).A.isNone ((List.range (D.f 1).l).map fun i=>.mk (IntKind.i64.wrap ((D.f 1).f i).n) [] false [] []) []]) (css:=[[ae,al,ac,ab,ab],[ae,ab,ap,.slice A1_ k1_ c1_,ab]]) bG 2 rfl ⟨(show TreeR _ (D4 F w eU [aw,⟨b3,0,[ae,ab,ac,au,ab],true⟩,⟨ao,0,[ae,al,ac,ab,ab,ae,ab,ap,.slice A1_ k1_ c1_,ab],true⟩,aE] [⟨A1_,c1_,49,5,k1_,xs1_⟩]) _ _ from (TreeR.mk (n:=0) (b:=false) (s:=(sb ((D.f 0).s))) (l:=[]) (u:=[]) (fun _=>[]) (eo.move (((((cE.trans cG).trans cH).trans cJ).trans bH).trans aR).step immM (((((cE.trans cG).trans cH).trans cJ).trans bH).trans aR).to') (Slots.nil _ _ _ _) (fun i_ x_ h_=>by simp at h_) (TagsR.nil _ _))).move (Step.refl _ B5) B0 G0,Gj bG (k:=0) rfl cg (by rw [J4]; omega) (by rw [J4]; omega),trivial⟩ (TagsR.nil _ _)
set_option maxHeartbeats 4000000 in
theorem Nv (v:Int) (D:DV) (b o:Nat) (w:World) (F:Nat → Nat → Prop) (hat:AtF w F b o [.int .i16 v,.slice ((D.f 0).A) ((D.f 0).l) ((D.f 0).c),.slice ((D.f 1).A) ((D.f 1).o.length) ((D.f 1).c)]) (hok:V6 w F D):Calls Tryz.prog 82 #[.pointer (some ⟨b,o,none⟩)] w (O9 w F (BB D)):=by
 refine enter (n:=72) Tryz.func82 rfl Tryz.ntmps82 kz fun a hE=>?_
 let dw:Value:=.slice ((D.f 0).A) ((D.f 0).l) ((D.f 0).c)
 let cm:Value:=.slice ((D.f 1).A) ((D.f 1).o.length) ((D.f 1).c)
 let aA:Ob:=⟨b,o,[.int .i16 v,dw,cm],false⟩
 have hW:WOk w B5 w [aA] []:=(WOk.start w B5).start1 hat rfl rfl
 unfold V6 at hok
 obtain ⟨⟨g1,g1l,g1e⟩,⟨g2,g2l⟩,_⟩:=hok
 let ag:Nat × SV:=(0,.p 0 0)
 have hE0:=(EnvOk.ptr0 (cs:=[.int .i16 v,dw,cm]) (r:=false) hE).pk (env':=[ag])
 refine B8 [0] kz ?_
 let ac:Value:=.int .i64 0
 let ab:Value:=.slice none 0 0
 let ae:Value:=.bool false
 refine B1 (D7 hW hE0 (d:=2) (cs:=[ac,ab,ae,ab,ab]) kz fun b3 a4 w5 hb6 hz7 hF8 hW9 gG=>?_)
 refine B4 (A7 ?_)
 refine B8 [0,1,2,3] kz ?_
 refine B1 (CV (t:=46) (e:=49) (size:=5) (bytes:=88) (d:=5) (j:=2) (.agg #[ac,ab,ae,ab,ab]) [ac,ab,ae,ab,ab,ac,ab,ae,ab,ab] hW9 gG fun al kA kB jd je jf eC gH=>?_)
 let af:Nat × SV:=(2,.p 1 0)
 let aB:Value:=.slice (some ⟨al,0,none⟩) 2 2
 let iJ:Value:=(.agg #[.int .i64 0,.slice none 0 0,.bool false,.slice (some ⟨al,0,none⟩) 2 2,.slice none 0 0])
 refine B3 [1] [2,3] [ag,af,(6,.v (.agg #[ac,ab,ae,aB,ab]))] eC gH fun kC gI=>?_
 refine B1 (D7 eC gI (d:=3) (cs:=[ac,ab,ae,ab,ab]) kz fun jg kD kE jh ji jj gJ gK=>?_)
 refine B1 (C7 gJ gK (oi:=3) (cs:=[ac,ab,ae,aB,ab]) kz fun kF jk gL gM=>?_)
 refine B4 (A7 ?_)
 refine J2 9 kz gL fun kG jl gN d8=>?_
 let ah:Nat × SV:=(3,.p 3 0)
 let dx:Nat × SV:=(8,.v (.slice (some ⟨al,0,none⟩) 2 2))
 let cn:Nat × SV:=(13,.v (.bool (((D.f 0).A).isNone)))
 refine D6 [0,1,2,3,4,5,6] [ag,af,ah,dx,cn] 3 (B2 C6) (fun _ h=>h.cells) d8 gM fun kH gO=>?_
 refine C9 (i:=7) kz (F2 gO (t:=46) (A:=(some ⟨al,0,none⟩)) (m:=2) (q:=0) (d:=14) kz (e:=49) (size:=5) (bytes:=88) (j:=0) kz (b:=al) (o:=0) rfl rfl (by decide) fun kI gP=>?_)
 have gQ:=gP.recast 14 (.v (.pointer (some ⟨al,0 + 0 * 5,none⟩))) (.p 2 0) rfl rfl (Nat.le_of_ble_eq_true (n:=3) rfl)
 have gR:=gQ.pk (env':=[ag,af,ah,dx,cn,(14,.p 2 0)])
 refine ⟨fun _=>d8,?_⟩
 refine D6 [8] [ag,af,ah,cn,(15,.p 2 2)] 1 (B2 C6) (fun _ h=>h.cells) d8 gR fun kJ gS=>?_
 let ak:Value:=.bool (((D.f 0).A).isNone)
 refine C9 (i:=9) kz (C7 gN gS (oi:=2) (cs:=[ac,ab,ak,ab,ab,ac,ab,ae,ab,ab]) kz fun kK jm d9 gT=>?_)
 refine ⟨fun h=>absurd rfl h,?_⟩
 refine F3 kz ?_ _
 refine A7 (wp_seq ?_)
 let ai:Nat × SV:=(20,.v (.int .i64 (((D.f 0).l:Nat):Int)))
 refine C1 [ag,af,ah,ai,(21,.v (.int .i64 0))] d9 gT fun kM gU=>?_
 refine wp_block ?_
 have eD:=d9.addNil 49 5
 have jn:=d9.frNil 49 5
 let aO:Ob:=⟨b3,0,[ac,ab,ae,ab,ab],true⟩
 let aK:Ob:=⟨jg,0,[ac,ab,ae,aB,ab],true⟩
 refine wp_loop_ghost (fun n_ a_ w_=>∃ (k0_:Nat) (A0_:Option Addr) (c0_:Nat) (xs0_:List Value) (css0_:List (List Value)),n_ = (D.f 0).l - k0_ ∧ k0_ ≤ (D.f 0).l ∧ (Trees w_ (D4 F w w_ [aA,aO,⟨al,0,[ac,ab,ak,.slice A0_ k0_ c0_,ab,ac,ab,ae,ab,ab],true⟩,aK] [⟨A0_,c0_,49,5,k0_,xs0_⟩]) xs0_ (((List.range (D.f 0).l).map (fun i=>BA ((D.f 0).f i))).take k0_) css0_) ∧ F1 eD 72 [aA,aO,⟨al,0,[ac,ab,ak,.slice A0_ k0_ c0_,ab,ac,ab,ae,ab,ab],true⟩,aK] [⟨A0_,c0_,49,5,k0_,xs0_⟩] [ag,af,ah,ai,(21,.v (.int .i64 ((k0_:Nat):Int)))] a_ w_) ((D.f 0).l) ⟨0,none,0,[],[],by omega,by omega,Trees.nil _ _,gU.pk,eD,Fr.refl _ _ _⟩ ?_
 rintro kN kP kQ ⟨k0_,A0_,c0_,xs0_,css0_,jo,jp,hT0_,gV,dr,ea⟩
 let aj:Nat × SV:=(21,.v (.int .i64 ((k0_:Nat):Int)))
 refine C1 [ag,af,ah,ai,aj,(22,.v (.bool (decide (((k0_:Nat):Int) < (((D.f 0).l:Nat):Int)))))] dr gV fun kR eb=>?_
 refine wp_seq (D8 eb (b:=decide (((k0_:Nat):Int) < (((D.f 0).l:Nat):Int))) kz (fun ec=>?_) (fun ec=>?_))
 ·
  have jq:=of_decide_eq_true ec
  refine wp_skip (A7 (wp_seq (wp_block ?_)))
  let cq:Nat × SV:=(4,.v (.int .i64 ((k0_:Nat):Int)))
  refine C1 [ag,af,ah,cq,ai,aj] dr eb fun kS gW=>?_
  refine J2 4 kz dr fun kU aN gX jr=>?_
  refine C9 (i:=0) kz (D7 gX gW (d:=24) (cs:=[ae]) kz fun kV kW kX js jt am ee eE=>?_)
  have gY:=TT.ofW am ee
  refine ⟨fun _=>gY,?_⟩
  refine N8 (i:=1) (j:=2) kz ?_ ?_
  ·
   refine (C7 ee eE (oi:=4) (cs:=[.bool true]) kz fun kY bZ eF gZ=>?_)
   have g9:=TT.ofW (am.trans bZ) eF
   refine ⟨fun _=>g9,?_⟩
   refine C9 (i:=2) kz (C7 eF gZ (oi:=4) (cs:=[ae]) kz fun kZ cr dt hC=>?_)
   have hJ:=TT.ofW ((am.trans bZ).trans cr) dt
   refine ⟨fun _=>hJ,?_⟩
   refine C9 (i:=3) kz (T5 [0,2,3,4,20,21,25] dt.cells hC (env':=[ag,af,ah,cq,ai,aj,(25,.v (.bool false))]) kz fun k7 eG=>?_)
   have hK:=TT.ofW ((am.trans bZ).trans cr) dt
   refine ⟨fun _=>hK,?_⟩
   refine F3 kz ?_ _
   refine A7 (F6 eG (b:=false) kz rfl ?_)
   refine P5 18 kz dt fun la ef bp du=>?_
   let bq:Nat × SV:=(45,.v (.slice (some ⟨al,0,none⟩) 2 2))
   let dy:Nat × SV:=(47,.v (.slice (some ⟨al,0,none⟩) 2 2))
   let bt:Nat × SV:=(54,.v (.slice ((D.f 0).A) ((D.f 0).l) ((D.f 0).c)))
   let bu:Nat × SV:=(55,.v (.int .i64 ((k0_:Nat):Int)))
   refine D6 [0,1,2,3,7,8,9,10,11] [ag,af,ah,ai,aj,bq,dy,bt,bu] 10 (C0 (B2 (B2 (C0 (B2 C6))))) (fun _ h=>h.cells) du eG fun lb hY=>?_
   refine H9 hY (i:=4) (t:=46) (A:=(some ⟨al,0,none⟩)) (m:=2) (q:=0) (d:=48) kz (e:=49) (size:=5) (bytes:=88) (j:=0) kz (b:=al) (o:=0) rfl rfl (by decide) kz kz (C0 (B2 (B2 (C0 (B2 C6))))) du fun ju eH=>?_
   have eI:=eH.recast 48 (.v (.pointer (some ⟨al,0 + 0 * 5,none⟩))) (.p 2 0) rfl rfl (Nat.le_of_ble_eq_true (n:=3) rfl)
   have eJ:=eI.pk (env':=[ag,af,ah,ai,aj,bq,dy,bt,bu,(48,.p 2 0)])
   refine D6 [5,6] [ag,af,ah,ai,aj,bq,(50,.v (.slice A0_ k0_ c0_)),bt,bu] 7 (C0 (B2 (B2 (C0 (B2 C6))))) (fun _ h=>h.cells) du eJ fun jv eK=>?_
   obtain ⟨eM,eN,eO,iK,eg⟩:=Slots.get g1 (i:=k0_) (by omega)
   refine H9 eK (i:=12) (t:=101) (A:=(D.f 0).A) (m:=((D.f 0).l)) (q:=((k0_:Nat):Int)) (d:=56) kz (e:=132) (size:=2) (bytes:=40) kz eO rfl (by omega) kz kz (C0 (B2 (B2 (C0 (B2 C6))))) du fun jw eP=>?_
   refine C9 (i:=13) kz (C3 eP (f:=116) (vs:=[.pointer (some ⟨eM,eN + k0_ * 2,none⟩)]) (d:=57) kz Tryz.call116 (GJ 0 ((D.f 0).f k0_) _ _ _ _ (eg.move bp.step B0 bp.imm) (U0 _ bp.step B0 bp.imm (g1e k0_ (by omega)))) ?_)
   rintro e_ jx ⟨iL,rfl,eQ,cu⟩
   have cw:=eQ.move (Step.refl _ B5) B0 (bp.laid (G:=F) cu)
   obtain ⟨eh,ei,cd,ej,ek,em,eo,eu,ev,ew,ey,iM,iN,cz,hZ,ia,jy,jz⟩:=cw.open_
   rw [cz] at cw
   have ib:=hZ.small
   have ic:=ia.small
   rw [cz]
   refine ⟨_,rfl,fun jA eR=>?_⟩
   have dA:=bp.next_nil cu
   have aC:=bp.frN cu
   have eS:=TT.ofW aC dA
   refine ⟨fun _=>eS,?_⟩
   let bw:Value:=.int .i64 eh
   let bz:Value:=.slice em ei.length eo
   let bD:Value:=.slice eu ej.length ev
   let bE:Value:=.slice ew ek.length ey
   refine C9 (i:=14) kz (G4 dA eR (e:=49) (size:=5) (len:=1) (cs:=[bw,bz,.bool cd,bD,bE]) (d:=58) kz kz fun eU jB jC iO iP ap bF eV=>?_)
   have eW:=TT.ofW (aC.trans ap) bF
   refine ⟨fun _=>eW,?_⟩
   refine C9 (i:=15) kz (I7 bF eV (k:=0) (d:=59) (t:=46) (e:=49) (size:=5) (bytes:=88) (A:=A0_) (As:=(some ⟨eU,0,none⟩)) (m0:=k0_) (c:=c0_) (m:=1) (cs:=1) (xs:=xs0_) (news:=[bw,bz,.bool cd,bD,bE]) kz kz rfl (M5 (bF.own 1 _ rfl) (K6 kz)) (N7 (bF.own 1 _ rfl)) (by omega) fun ce cg jD jE aD cA eX=>?_)
   have eY:=TT.ofW ((aC.trans ap).trans aD) cA
   refine ⟨fun _=>eY,?_⟩
   refine C9 (i:=16) kz (F2 eX (t:=46) (A:=(some ⟨al,0,none⟩)) (m:=2) (q:=0) (d:=60) kz (e:=49) (size:=5) (bytes:=88) (j:=0) kz (b:=al) (o:=0) rfl rfl (by decide) fun jF eZ=>?_)
   have e9:=eZ.recast 60 (.v (.pointer (some ⟨al,0 + 0 * 5,none⟩))) (.p 2 0) rfl rfl (Nat.le_of_ble_eq_true (n:=3) rfl)
   have fa:=e9.pk (env':=[ag,af,ah,ai,aj,bq,(50,.v (.slice A0_ k0_ c0_)),bt,bu,(56,.v (.pointer (some ⟨eM,eN + k0_ * 2,none⟩))),(57,.v (.agg #[bw,bz,.bool cd,bD,bE])),(58,.v (.slice (some ⟨eU,0,none⟩) 1 1)),(59,.v (.slice ce (k0_ + 1) cg)),(60,.p 2 0)])
   have dB:=TT.ofW ((aC.trans ap).trans aD) cA
   refine ⟨fun _=>dB,?_⟩
   refine D6 [17] [ag,af,ah,ai,aj,(59,.v (.slice ce (k0_ + 1) cg)),(61,.p 2 3)] 1 (C0 (B2 (B2 (C0 (B2 C6))))) (fun _ h=>h.cells) dB fa fun jG fb=>?_
   refine C9 (i:=18) kz (C7 cA fb (oi:=2) (cs:=[ac,ab,ak,.slice ce (k0_ + 1) cg,ab,ac,ab,ae,ab,ab]) kz fun jH aP dC fe=>?_)
   refine ⟨fun h=>absurd rfl h,?_⟩
   refine F3 kz ?_ _
   refine G2 (A7 (D9 [0,1] kz ?_))
   refine B3 [0,1] [] [ag,af,ah,ai,(21,.v (.int .i64 (IntKind.i64.wrap (((k0_:Nat):Int) + 1))))] dC fe fun jI ff=>?_
   refine B4 (A7 ?_)
   obtain ⟨dD,fg,aQ⟩:=dC.cutB ff 4 [aA,aO,⟨al,0,[ac,ab,ak,.slice ce (k0_ + 1) cg,ab,ac,ab,ae,ab,ab],true⟩,aK] [ag,af,ah,ai,(21,.v (.int .i64 (IntKind.i64.wrap (((k0_:Nat):Int) + 1))))]
   obtain ⟨fh,aR⟩:=fg.cutR 1 [⟨ce,cg,49,5,k0_ + 1,xs0_ ++ [bw,bz,.bool cd,bD,bE]⟩]
   have fi:IntKind.i64.wrap (((k0_:Nat):Int) + 1) = ((k0_ + 1:Nat):Int):=H1 (by omega)
   rw [fi] at dD
   exact ⟨(D.f 0).l - (k0_ + 1),by omega,k0_ + 1,ce,cg,xs0_ ++ [Value.int .i64 eh,.slice em ei.length eo,.bool cd,.slice eu ej.length ev,.slice ew ek.length ey],(css0_ ++ [[Value.int .i64 eh,.slice em ei.length eo,.bool cd,.slice eu ej.length ev,.slice ew ek.length ey]]),rfl,by omega,by rw [take_range (by omega)]; exact (hT0_.move ((((((((((aN.trans am).trans bZ).trans cr).trans ef).trans aC).trans ap).trans aD).trans aP).trans aQ).trans aR).step immM ((((((((((aN.trans am).trans bZ).trans cr).trans ef).trans aC).trans ap).trans aD).trans aP).trans aQ).trans aR).to').snoc (x:=(fun i=>BA ((D.f 0).f i)) k0_) (cw.move ((((ap.trans aD).trans aP).trans aQ).trans aR).step immM ((((ap.trans aD).trans aP).trans aQ).trans aR).to'),dD.pk,fh,(((((((((((ea.trans aN).trans am).trans bZ).trans cr).trans ef).trans aC).trans ap).trans aD).trans aP).trans aQ).trans aR)⟩
  refine (C7 ee eE (oi:=4) (cs:=[ae]) kz fun jJ ao dE fj=>?_)
  have fk:=TT.ofW (am.trans ao) dE
  refine ⟨fun _=>fk,?_⟩
  refine C9 (i:=1) kz (C7 dE fj (oi:=4) (cs:=[.bool true]) kz fun jK ar bG fl=>?_)
  have fm:=TT.ofW ((am.trans ao).trans ar) bG
  refine ⟨fun _=>fm,?_⟩
  refine C9 (i:=3) kz (T5 [0,2,3,4,20,21,25] bG.cells fl (env':=[ag,af,ah,cq,ai,aj,(25,.v (.bool true))]) kz fun jL dF=>?_)
  have fo:=TT.ofW ((am.trans ao).trans ar) bG
  refine ⟨fun _=>fo,?_⟩
  refine F3 kz ?_ _
  refine A7 (Q6 dF (b:=true) kz rfl ?_)
  refine J2 17 kz bG fun jM aL au bH=>?_
  let aS:Nat × SV:=(27,.v (.slice (some ⟨al,0,none⟩) 2 2))
  let aT:Nat × SV:=(34,.v (.slice ((D.f 0).A) ((D.f 0).l) ((D.f 0).c)))
  let aU:Nat × SV:=(35,.v (.int .i64 ((k0_:Nat):Int)))
  refine D6 [0,1,5,6,7,8,9] [ag,af,ah,ai,aj,aS,aT,aU] 11 (B2 (C0 (B2 (B2 (C0 (B2 C6)))))) (fun _ h=>h.cells) bH dF fun jN fq=>?_
  refine H9 fq (i:=2) (t:=46) (A:=(some ⟨al,0,none⟩)) (m:=2) (q:=0) (d:=28) kz (e:=49) (size:=5) (bytes:=88) (j:=0) kz (b:=al) (o:=0) rfl rfl (by decide) kz kz (B2 (C0 (B2 (B2 (C0 (B2 C6)))))) bH fun jO fr=>?_
  have ft:=fr.recast 28 (.v (.pointer (some ⟨al,0 + 0 * 5,none⟩))) (.p 2 0) rfl rfl (Nat.le_of_ble_eq_true (n:=3) rfl)
  have fu:=ft.pk (env':=[ag,af,ah,ai,aj,aS,aT,aU,(28,.p 2 0)])
  let cB:Nat × SV:=(30,.v (.slice A0_ k0_ c0_))
  let aV:Nat × SV:=(38,.v (.int .i64 ((k0_:Nat):Int)))
  refine D6 [3,4,12] [ag,af,ah,ai,aj,aS,cB,aT,aU,aV] 7 (B2 (C0 (B2 (B2 (C0 (B2 C6)))))) (fun _ h=>h.cells) bH fu fun jP fv=>?_
  obtain ⟨fw,fx,fy,iQ,cC⟩:=Slots.get g1 (i:=k0_) (by omega)
  refine H9 fv (i:=10) (t:=101) (A:=(D.f 0).A) (m:=((D.f 0).l)) (q:=((k0_:Nat):Int)) (d:=36) kz (e:=132) (size:=2) (bytes:=40) kz fy rfl (by omega) kz kz (B2 (C0 (B2 (B2 (C0 (B2 C6)))))) bH fun jQ dG=>?_
  let dH:Nat × SV:=(36,.v (.pointer (some ⟨fw,fx + k0_ * 2,none⟩)))
  let dI:Value:=.pointer (some ⟨fw,fx + k0_ * 2,none⟩)
  refine N8 (i:=11) (j:=13) kz ?_ ?_
  ·
   refine (C3 dG (f:=116) (vs:=[dI]) (d:=37) kz Tryz.call116 (GJ 0 ((D.f 0).f k0_) _ _ _ _ (cC.move au.step B0 au.imm) (U0 _ au.step B0 au.imm (g1e k0_ (by omega)))) ?_)
   rintro e_ jR ⟨iR,rfl,fA,cE⟩
   have cG:=fA.move (Step.refl _ B5) B0 (au.laid (G:=F) cE)
   obtain ⟨cH,cI,aW,cJ,cK,cL,cM,cN,cO,cP,cQ,iS,iT,cR,ig,ii,jS,jT⟩:=cG.open_
   rw [cR] at cG
   have ij:=ig.small
   have ik:=ii.small
   rw [cR]
   refine ⟨_,rfl,fun jU fB=>?_⟩
   have dJ:=au.next_nil cE
   have aE:=au.frN cE
   have fC:=TT.ofW aE dJ
   refine ⟨fun _=>fC,?_⟩
   refine C9 (i:=13) kz (G4 dJ fB (e:=49) (size:=5) (len:=1) (cs:=[ac,ab,ae,ab,ab]) (d:=39) kz kz fun ez jV jW iU iV av bI fD=>?_)
   have fE:=TT.ofW (aE.trans av) bI
   refine ⟨fun _=>fE,?_⟩
   refine C9 (i:=14) kz (I7 bI fD (k:=0) (d:=40) (t:=46) (e:=49) (size:=5) (bytes:=88) (A:=A0_) (As:=(some ⟨ez,0,none⟩)) (m0:=k0_) (c:=c0_) (m:=1) (cs:=1) (xs:=xs0_) (news:=[ac,ab,ae,ab,ab]) kz kz rfl (M5 (bI.own 1 _ rfl) (K6 kz)) (N7 (bI.own 1 _ rfl)) (by omega) fun ax aF jX jY aG cS fF=>?_)
   have fG:=TT.ofW ((aE.trans av).trans aG) cS
   refine ⟨fun _=>fG,?_⟩
   refine C9 (i:=15) kz (F2 fF (t:=46) (A:=(some ⟨al,0,none⟩)) (m:=2) (q:=0) (d:=41) kz (e:=49) (size:=5) (bytes:=88) (j:=0) kz (b:=al) (o:=0) rfl rfl (by decide) fun jZ fH=>?_)
   have fI:=fH.recast 41 (.v (.pointer (some ⟨al,0 + 0 * 5,none⟩))) (.p 2 0) rfl rfl (Nat.le_of_ble_eq_true (n:=3) rfl)
   let bJ:Value:=.int .i64 cH
   let bK:Value:=.slice cL cI.length cM
   let bM:Value:=.slice cN cJ.length cO
   let bN:Value:=.slice cP cK.length cQ
   let dK:Nat × SV:=(37,.v (.agg #[bJ,bK,.bool aW,bM,bN]))
   have fJ:=fI.pk (env':=[ag,af,ah,ai,aj,aS,cB,aT,aU,aV,dH,dK,(39,.v (.slice (some ⟨ez,0,none⟩) 1 1)),(40,.v (.slice ax (k0_ + 1) aF)),(41,.p 2 0)])
   have dL:=TT.ofW ((aE.trans av).trans aG) cS
   refine ⟨fun _=>dL,?_⟩
   refine D6 [16] [ag,af,ah,ai,aj,dK,aV,(40,.v (.slice ax (k0_ + 1) aF)),(42,.p 2 3)] 1 (B2 (C0 (B2 (B2 (C0 (B2 C6)))))) (fun _ h=>h.cells) dL fJ fun j0 fK=>?_
   refine C9 (i:=17) kz (C7 cS fK (oi:=2) (cs:=[ac,ab,ak,.slice ax (k0_ + 1) aF,ab,ac,ab,ae,ab,ab]) kz fun il aX dM fL=>?_)
   refine ⟨fun h=>absurd rfl h,?_⟩
   refine F3 kz ?_ _
   refine A7 (D9 [0,1] kz ?_)
   have fM:World.ownsRow il 0 49 5 (.slice ax (k0_ + 1) aF) (k0_ + 1) (xs0_ ++ [ac,ab,ae,ab,ab]):=dM.own 0 _ rfl
   obtain ⟨fN,dN⟩:=Q9 fM (by omega)
   refine B1 (F2 fL (t:=46) (A:=ax) (m:=(k0_ + 1)) (q:=((k0_:Nat):Int)) (d:=43) kz (e:=49) (size:=5) (bytes:=88) kz (b:=fN) (o:=0) (j:=k0_) dN (rfl) (by omega) fun j1 fO=>?_)
   refine B1 (X0 dM fO (k:=0) (g:=fN) (o:=k0_ * 5) (c:=aF) (m:=(k0_ + 1)) (size:=5) (e:=49) (A:=ax) (xs:=(xs0_ ++ [ac,ab,ae,ab,ab])) (vs:=[bJ,bK,.bool aW,bM,bN]) kz rfl dN (by simp only [List.length_cons,List.length_nil]; omega) fun j2 aY fP fQ=>?_)
   have fR:(⟨ax,aF,49,5,k0_ + 1,K5 (xs0_ ++ [.int .i64 0,.slice none 0 0,.bool false,.slice none 0 0,.slice none 0 0]) (k0_ * 5) [.int .i64 cH,.slice cL cI.length cM,.bool aW,.slice cN cJ.length cO,.slice cP cK.length cQ]⟩:Rw) = ⟨ax,aF,49,5,k0_ + 1,xs0_ ++ [.int .i64 cH,.slice cL cI.length cM,.bool aW,.slice cN cJ.length cO,.slice cP cK.length cQ]⟩:=by rw [CW (by rw [hT0_.xslen,List.length_take,J4]; omega)]
   obtain ⟨dO,aZ⟩:=fP.rowEq 0 [⟨ax,aF,49,5,k0_ + 1,xs0_ ++ [bJ,bK,.bool aW,bM,bN]⟩,⟨some ⟨ez,0,none⟩,1,49,5,1,[ac,ab,ae,ab,ab]⟩] fR
   refine B4 (G2 (A7 (D9 [0,1] kz ?_)))
   refine B3 [0,1] [] [ag,af,ah,ai,(21,.v (.int .i64 (IntKind.i64.wrap (((k0_:Nat):Int) + 1))))] dO fQ fun j3 fS=>?_
   refine B4 (A7 ?_)
   obtain ⟨dP,fT,ba⟩:=dO.cutB fS 4 [aA,aO,⟨al,0,[ac,ab,ak,.slice ax (k0_ + 1) aF,ab,ac,ab,ae,ab,ab],true⟩,aK] [ag,af,ah,ai,(21,.v (.int .i64 (IntKind.i64.wrap (((k0_:Nat):Int) + 1))))]
   obtain ⟨fV,bd⟩:=fT.cutR 1 [⟨ax,aF,49,5,k0_ + 1,xs0_ ++ [bJ,bK,.bool aW,bM,bN]⟩]
   have fW:IntKind.i64.wrap (((k0_:Nat):Int) + 1) = ((k0_ + 1:Nat):Int):=H1 (by omega)
   rw [fW] at dP
   exact ⟨(D.f 0).l - (k0_ + 1),by omega,k0_ + 1,ax,aF,xs0_ ++ [Value.int .i64 cH,.slice cL cI.length cM,.bool aW,.slice cN cJ.length cO,.slice cP cK.length cQ],(css0_ ++ [[Value.int .i64 cH,.slice cL cI.length cM,.bool aW,.slice cN cJ.length cO,.slice cP cK.length cQ]]),rfl,by omega,by rw [take_range (by omega)]; exact (hT0_.move ((((((((((((aN.trans am).trans ao).trans ar).trans aL).trans aE).trans av).trans aG).trans aX).trans aY).trans aZ).trans ba).trans bd).step immM ((((((((((((aN.trans am).trans ao).trans ar).trans aL).trans aE).trans av).trans aG).trans aX).trans aY).trans aZ).trans ba).trans bd).to').snoc (x:=(fun i=>BA ((D.f 0).f i)) k0_) (cG.move ((((((av.trans aG).trans aX).trans aY).trans aZ).trans ba).trans bd).step immM ((((((av.trans aG).trans aX).trans aY).trans aZ).trans ba).trans bd).to'),dP.pk,fV,(((((((((((((ea.trans aN).trans am).trans ao).trans ar).trans aL).trans aE).trans av).trans aG).trans aX).trans aY).trans aZ).trans ba).trans bd)⟩
  refine (G4 au dG (e:=49) (size:=5) (len:=1) (cs:=[ac,ab,ae,ab,ab]) (d:=39) kz kz fun eB j4 j5 iW iX aH aw fX=>?_)
  have fY:=TT.ofW aH aw
  refine ⟨fun _=>fY,?_⟩
  refine C9 (i:=11) kz (C3 fX (f:=116) (vs:=[dI]) (d:=37) kz Tryz.call116 (GJ 0 ((D.f 0).f k0_) _ _ _ _ (cC.move aw.step B0 aw.imm) (U0 _ aw.step B0 aw.imm (g1e k0_ (by omega)))) ?_)
  rintro e_ j6 ⟨iY,rfl,fZ,cV⟩
  have cW:=fZ.move (Step.refl _ B5) B0 (aw.laid (G:=F) cV)
  obtain ⟨cX,cY,bf,cZ,da,db,dc,de,df,dg,dh,iZ,i6,di,im,io,j7,j8⟩:=cW.open_
  rw [di] at cW
  have ip:=im.small
  have iq:=io.small
  rw [di]
  refine ⟨_,rfl,fun j9 f5=>?_⟩
  have bO:=aw.next_nil cV
  have aM:=aw.frN cV
  have f7:=TT.ofW (aH.trans aM) bO
  refine ⟨fun _=>f7,?_⟩
  refine C9 (i:=14) kz (I7 bO f5 (k:=0) (d:=40) (t:=46) (e:=49) (size:=5) (bytes:=88) (A:=A0_) (As:=(some ⟨eB,0,none⟩)) (m0:=k0_) (c:=c0_) (m:=1) (cs:=1) (xs:=xs0_) (news:=[ac,ab,ae,ab,ab]) kz kz rfl (M5 (bO.own 1 _ rfl) (K6 kz)) (N7 (bO.own 1 _ rfl)) (by omega) fun ay aI ka kd aJ dj f8=>?_)
  have f9:=TT.ofW ((aH.trans aM).trans aJ) dj
  refine ⟨fun _=>f9,?_⟩
  refine C9 (i:=15) kz (F2 f8 (t:=46) (A:=(some ⟨al,0,none⟩)) (m:=2) (q:=0) (d:=41) kz (e:=49) (size:=5) (bytes:=88) (j:=0) kz (b:=al) (o:=0) rfl rfl (by decide) fun ke ga=>?_)
  have gb:=ga.recast 41 (.v (.pointer (some ⟨al,0 + 0 * 5,none⟩))) (.p 2 0) rfl rfl (Nat.le_of_ble_eq_true (n:=3) rfl)
  let bP:Value:=.int .i64 cX
  let bQ:Value:=.slice db cY.length dc
  let bR:Value:=.slice de cZ.length df
  let bS:Value:=.slice dg da.length dh
  let dQ:Nat × SV:=(37,.v (.agg #[bP,bQ,.bool bf,bR,bS]))
  have gc:=gb.pk (env':=[ag,af,ah,ai,aj,aS,cB,aT,aU,aV,dH,(39,.v (.slice (some ⟨eB,0,none⟩) 1 1)),dQ,(40,.v (.slice ay (k0_ + 1) aI)),(41,.p 2 0)])
  have dR:=TT.ofW ((aH.trans aM).trans aJ) dj
  refine ⟨fun _=>dR,?_⟩
  refine D6 [16] [ag,af,ah,ai,aj,dQ,aV,(40,.v (.slice ay (k0_ + 1) aI)),(42,.p 2 3)] 1 (B2 (C0 (B2 (B2 (C0 (B2 C6)))))) (fun _ h=>h.cells) dR gc fun kf gd=>?_
  refine C9 (i:=17) kz (C7 dj gd (oi:=2) (cs:=[ac,ab,ak,.slice ay (k0_ + 1) aI,ab,ac,ab,ae,ab,ab]) kz fun ir bg dS ge=>?_)
  refine ⟨fun h=>absurd rfl h,?_⟩
  refine F3 kz ?_ _
  refine A7 (D9 [0,1] kz ?_)
  have gg:World.ownsRow ir 0 49 5 (.slice ay (k0_ + 1) aI) (k0_ + 1) (xs0_ ++ [ac,ab,ae,ab,ab]):=dS.own 0 _ rfl
  obtain ⟨gh,dT⟩:=Q9 gg (by omega)
  refine B1 (F2 ge (t:=46) (A:=ay) (m:=(k0_ + 1)) (q:=((k0_:Nat):Int)) (d:=43) kz (e:=49) (size:=5) (bytes:=88) kz (b:=gh) (o:=0) (j:=k0_) dT (rfl) (by omega) fun kg gi=>?_)
  refine B1 (X0 dS gi (k:=0) (g:=gh) (o:=k0_ * 5) (c:=aI) (m:=(k0_ + 1)) (size:=5) (e:=49) (A:=ay) (xs:=(xs0_ ++ [ac,ab,ae,ab,ab])) (vs:=[bP,bQ,.bool bf,bR,bS]) kz rfl dT (by simp only [List.length_cons,List.length_nil]; omega) fun kh bh gj gk=>?_)
  have gm:(⟨ay,aI,49,5,k0_ + 1,K5 (xs0_ ++ [.int .i64 0,.slice none 0 0,.bool false,.slice none 0 0,.slice none 0 0]) (k0_ * 5) [.int .i64 cX,.slice db cY.length dc,.bool bf,.slice de cZ.length df,.slice dg da.length dh]⟩:Rw) = ⟨ay,aI,49,5,k0_ + 1,xs0_ ++ [.int .i64 cX,.slice db cY.length dc,.bool bf,.slice de cZ.length df,.slice dg da.length dh]⟩:=by rw [CW (by rw [hT0_.xslen,List.length_take,J4]; omega)]
  obtain ⟨dU,bi⟩:=gj.rowEq 0 [⟨ay,aI,49,5,k0_ + 1,xs0_ ++ [bP,bQ,.bool bf,bR,bS]⟩,⟨some ⟨eB,0,none⟩,1,49,5,1,[ac,ab,ae,ab,ab]⟩] gm
  refine B4 (G2 (A7 (D9 [0,1] kz ?_)))
  refine B3 [0,1] [] [ag,af,ah,ai,(21,.v (.int .i64 (IntKind.i64.wrap (((k0_:Nat):Int) + 1))))] dU gk fun ki gn=>?_
  refine B4 (A7 ?_)
  obtain ⟨dV,gp,bj⟩:=dU.cutB gn 4 [aA,aO,⟨al,0,[ac,ab,ak,.slice ay (k0_ + 1) aI,ab,ac,ab,ae,ab,ab],true⟩,aK] [ag,af,ah,ai,(21,.v (.int .i64 (IntKind.i64.wrap (((k0_:Nat):Int) + 1))))]
  obtain ⟨gq,bk⟩:=gp.cutR 1 [⟨ay,aI,49,5,k0_ + 1,xs0_ ++ [bP,bQ,.bool bf,bR,bS]⟩]
  have gt:IntKind.i64.wrap (((k0_:Nat):Int) + 1) = ((k0_ + 1:Nat):Int):=H1 (by omega)
  rw [gt] at dV
  exact ⟨(D.f 0).l - (k0_ + 1),by omega,k0_ + 1,ay,aI,xs0_ ++ [Value.int .i64 cX,.slice db cY.length dc,.bool bf,.slice de cZ.length df,.slice dg da.length dh],(css0_ ++ [[Value.int .i64 cX,.slice db cY.length dc,.bool bf,.slice de cZ.length df,.slice dg da.length dh]]),rfl,by omega,by rw [take_range (by omega)]; exact (hT0_.move ((((((((((((aN.trans am).trans ao).trans ar).trans aL).trans aH).trans aM).trans aJ).trans bg).trans bh).trans bi).trans bj).trans bk).step immM ((((((((((((aN.trans am).trans ao).trans ar).trans aL).trans aH).trans aM).trans aJ).trans bg).trans bh).trans bi).trans bj).trans bk).to').snoc (x:=(fun i=>BA ((D.f 0).f i)) k0_) (cW.move (((((aJ.trans bg).trans bh).trans bi).trans bj).trans bk).step immM (((((aJ.trans bg).trans bh).trans bi).trans bj).trans bk).to'),dV.pk,gq,(((((((((((((ea.trans aN).trans am).trans ao).trans ar).trans aL).trans aH).trans aM).trans aJ).trans bg).trans bh).trans bi).trans bj).trans bk)⟩
 have i7:=of_decide_eq_false ec
 refine wp_exit (E2 (E2 (G3 (A7 (J2 8 kz dr fun kj dW bn gv=>?_)))))
 let dX:Nat × SV:=(64,.v (.slice (some ⟨al,0,none⟩) 2 2))
 let dY:Nat × SV:=(68,.v (.slice ((D.f 1).A) ((D.f 1).o.length) ((D.f 1).c)))
 refine D6 [0,1,2,3,4,5] [af,ah,dX,dY] 3 (B2 C6) (fun _ h=>h.cells) gv eb fun km gw=>?_
 refine C9 (i:=6) kz (C3 gw (f:=84) (vs:=[cm]) (d:=69) kz Tryz.call84 (GI _ _ _ _ _ (g2.move bn.step B0 bn.imm)) ?_)
 rintro e_ ko ⟨ja,rfl,gy,dl⟩
 have dm:=gy.move (Step.refl _ B5) B0 (bn.laid (G:=F) dl)
 obtain ⟨iu,iv,dv,iw,ix,iy,iz,iA,iB,iC,iD,jb,jc,dn,iE,iF,kp,kq⟩:=dm.open_
 rw [dn] at dm
 have iG:=iE.small
 have iH:=iF.small
 rw [dn]
 refine ⟨_,rfl,fun ku gz=>?_⟩
 have dZ:=bn.next_nil dl
 have dp:=bn.frN dl
 have d5:=TT.ofW dp dZ
 refine ⟨fun _=>d5,?_⟩
 refine H9 gz (i:=7) (t:=46) (A:=(some ⟨al,0,none⟩)) (m:=2) (q:=1) (d:=70) kz (e:=49) (size:=5) (bytes:=88) (j:=1) kz (b:=al) (o:=0) rfl rfl (by decide) kz kz (B2 C6) d5 fun kv gA=>?_
 have gB:=gA.recast 70 (.v (.pointer (some ⟨al,0 + 1 * 5,none⟩))) (.p 2 5) rfl rfl (Nat.le_of_ble_eq_true (n:=3) rfl)
 let bT:Value:=.int .i64 iu
 let bU:Value:=.slice iy iv.length iz
 let bV:Value:=.slice iA iw.length iB
 let bW:Value:=.slice iC ix.length iD
 have gC:=gB.pk (env':=[af,ah,dX,dY,(69,.v (.agg #[bT,bU,.bool dv,bV,bW])),(70,.p 2 5)])
 refine C9 (i:=8) kz (C7 dZ gC (oi:=2) (cs:=[ac,ab,ak,.slice A0_ k0_ c0_,ab,bT,bU,.bool dv,bV,bW]) kz fun kw bX d6 gD=>?_)
 refine ⟨fun h=>absurd rfl h,?_⟩
 refine F3 kz ?_ _
 refine A7 (B8 [0,1] kz ?_)
 refine B3 [0] [1] [af,(71,.v (.agg #[ac,ab,ae,aB,ab]))] d6 gD fun ky gE=>?_
 refine B1 (C7 d6 gE (oi:=1) (cs:=[ac,ab,ae,aB,ab]) kz fun iI bY dq gF=>?_)
 refine B4 (A7 ?_)
 refine wp_ret (D5 gF dq.cells (v:=.agg #[ac,ab,ae,aB,ab]) kz ?_)
 have d7:=(hT0_.move (((dW.trans dp).trans bX).trans bY).step immM (((dW.trans dp).trans bX).trans bY).to')
 rw [Ci (by omega)] at d7
 exact CX (u:=[]) (l:=[.mk 0 [] (D.f 0).A.isNone ((List.range (D.f 0).l).map fun i=>BA ((D.f 0).f i)) [],.mk 0 (D.f 1).o (D.f 1).A.isNone [] []]) (css:=[[ac,ab,ak,.slice A0_ k0_ c0_,ab],[bT,bU,.bool dv,bV,bW]]) dq 2 rfl ⟨Gj dq (k:=0) rfl d7 (by rw [J4]; omega) (by rw [J4]; omega),(show TreeR _ (D4 F w iI [aA,⟨b3,0,[ac,ab,ae,aB,ab],true⟩,⟨al,0,[ac,ab,ak,.slice A0_ k0_ c0_,ab,bT,bU,.bool dv,bV,bW],true⟩,aK] [⟨A0_,c0_,49,5,k0_,xs0_⟩]) _ _ from (dm.move (bX.trans bY).step immM (bX.trans bY).to')).move (Step.refl _ B5) B0 G0,trivial⟩ (TagsR.nil _ _)
def Co:Tree → Int → Tree
 | .mk _ s b l u,n=>.mk n s b l u
end Go.Proofs.YtipblegipibplaaGreatDoor.ME