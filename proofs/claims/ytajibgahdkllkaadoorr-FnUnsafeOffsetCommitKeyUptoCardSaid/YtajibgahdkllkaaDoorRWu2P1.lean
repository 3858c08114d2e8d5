/- The texts of a claim, put together: the engine, the contracts, the law. Own work. -/
import Derived.Test.YtajibgahdkllkaaDoorRWu2P0
import Derived.Test.YtajibgahdkllkaaDoorRProg
import Derived.ScopeJumps
import Derived.Lib.ConvBytes
namespace Go.Proofs.YtajibgahdkllkaaDoorR.ME
open Go
open Go.RowKit
set_option linter.unusedVariables false
set_option linter.unusedSimpArgs false
set_option maxRecDepth 20000
theorem qhG {A:Option Addr} {c:Nat} (s:Bs) {w:World} {F:Nat → Nat → Prop} (ho:Octs w F A c s) (hl:2 ≤ s.length) :
  Calls Tryd.prog 104 #[.agg #[],.slice A s.length c] w (qcd w (.int .u16 (be16 s))):=by
 refine enter (n:=18) Tryd.func104 rfl Tryd.ntmps104 kz fun a hE=>?_
 have hW:=WOk.start w Nil
 have ob0:=qdv s 0
 have ob1:=qdv s 1
 refine qad [0,1] kz ?_
 refine qal (qa5 hW hE (d:=2) (cs:=[]) kz fun b1 a2 w3 hb4 hz5 hF6 hW7 hE8=>?_)
 refine qaj [1] [] [(1,.v (.slice A s.length c))] hW7 hE8 fun a9 af=>?_
 refine qae (qab ?_)
 refine qad [0,1,2] kz ?_
 refine qaj [0] [1,2] [(1,.v (.slice A s.length c)),(5,.v (.slice A s.length c))] hW7 af fun aC ag=>?_
 obtain ⟨av,aw,ac,ax,ab⟩:=Slots.get ho (i:=1) (by omega)
 refine qal (qaW ag (t:=22) (A:=A) (m:=s.length) (q:=1) (d:=6) kz (e:=5) (size:=1) (bytes:=1) (j:=1) kz ac rfl (by omega) fun aD ah=>?_)
 refine qal (qa2 ah (t:=5) (b:=av) (o:=aw + 1 * 1) (d:=7) kz (cs:=[.int .u8 ((s.getD 1 0).toNat:Int)]) (v:=.int .u8 ((s.getD 1 0).toNat:Int)) kz (AtF.move ab hW7.step nilM qbw).at_ fun aE ai=>?_)
 refine qae (qab ?_)
 refine qby kz hW7 fun aF ay aa=>?_
 refine qaH [0,4] [(8,.v (.slice A s.length c)),(12,.v (.slice A s.length c))] 9 (qaa qaf) (fun _ h=>h ▸ aa.cells) rfl ai fun aG aj=>?_
 refine qaO aj (i:=1) (t:=22) (A:=A) (m:=s.length) (q:=1) (d:=9) kz (e:=5) (size:=1) (bytes:=1) (j:=1) kz ac rfl (by omega) kz kz (qaa qaf) rfl fun aH ak=>?_
 refine qaV ak (i:=2) (t:=5) (b:=av) (o:=aw + 1 * 1) (d:=10) kz (cs:=[.int .u8 ((s.getD 1 0).toNat:Int)]) (v:=.int .u8 ((s.getD 1 0).toNat:Int)) kz (fun w' h'=>h' ▸ (AtF.move ab aa.step nilM qbw).at_) kz kz (qaa qaf) rfl fun aI al=>?_
 refine qaH [3] [(11,.v (.int .u16 (IntKind.u16.wrap ((s.getD 1 0).toNat:Int)))),(12,.v (.slice A s.length c))] 6 (qaa qaf) (fun _ h=>h ▸ aa.cells) rfl al fun aJ am=>?_
 obtain ⟨az,aA,ao,aB,ae⟩:=Slots.get ho (i:=0) (by omega)
 refine qaO am (i:=5) (t:=22) (A:=A) (m:=s.length) (q:=0) (d:=13) kz (e:=5) (size:=1) (bytes:=1) (j:=0) kz ao rfl (by omega) kz kz (qaa qaf) rfl fun aK ap=>?_
 refine qaV ap (i:=6) (t:=5) (b:=az) (o:=aA + 0 * 1) (d:=14) kz (cs:=[.int .u8 ((s.getD 0 0).toNat:Int)]) (v:=.int .u8 ((s.getD 0 0).toNat:Int)) kz (fun w' h'=>h' ▸ (AtF.move ae aa.step nilM qbw).at_) kz kz (qaa qaf) rfl fun aL ar=>?_
 refine qaH [7,8,9,10] [(4,.v (.int .u16 (IntKind.u16.wrap (BitVec.ofInt 16 (IntKind.u16.wrap ((s.getD 1 0).toNat:Int)) ||| BitVec.ofInt 16 (IntKind.u16.wrap ((IntKind.u16.wrap ((s.getD 0 0).toNat:Int)) * 256))).toNat)))] 0 (qaa qaf) (fun _ h=>h ▸ aa.cells) rfl ar fun aM au=>?_
 refine qaL kz ?_ _
 refine qab ?_
 refine wp_ret ?_
 refine qaG au aa.cells (v:=.int .u16 (IntKind.u16.wrap (BitVec.ofInt 16 (IntKind.u16.wrap ((s.getD 1 0).toNat:Int)) ||| BitVec.ofInt 16 (IntKind.u16.wrap ((IntKind.u16.wrap ((s.getD 0 0).toNat:Int)) * 256))).toNat)) kz ?_
 exact ⟨congrArg Ending.returned (congrArg (Value.int IntKind.u16) (qhr (oc s 0) (oc s 1) ob0 ob1)),aa.step⟩
theorem qhH {A:Option Addr} {c:Nat} (s:Bs) {w:World} {F:Nat → Nat → Prop} (ho:Octs w F A c s) (hl:4 ≤ s.length) :
  Calls Tryd.prog 107 #[.agg #[],.slice A s.length c] w (qcd w (.int .u32 (be32 s))):=by
 refine enter (n:=30) Tryd.func107 rfl Tryd.ntmps107 kz fun a hE=>?_
 have hW:=WOk.start w Nil
 have ob0:=qdv s 0
 have ob1:=qdv s 1
 have ob2:=qdv s 2
 have ob3:=qdv s 3
 refine qad [0,1] kz ?_
 refine qal (qa5 hW hE (d:=2) (cs:=[]) kz fun b1 a2 w3 hb4 hz5 hF6 hW7 hE8=>?_)
 refine qaj [1] [] [(1,.v (.slice A s.length c))] hW7 hE8 fun a9 ah=>?_
 refine qae (qab ?_)
 refine qad [0,1,2] kz ?_
 refine qaj [0] [1,2] [(1,.v (.slice A s.length c)),(5,.v (.slice A s.length c))] hW7 ah fun aT ai=>?_
 obtain ⟨aF,aG,ac,aH,ab⟩:=Slots.get ho (i:=3) (by omega)
 refine qal (qaW ai (t:=22) (A:=A) (m:=s.length) (q:=3) (d:=6) kz (e:=5) (size:=1) (bytes:=1) (j:=3) kz ac rfl (by omega) fun aU aj=>?_)
 refine qal (qa2 aj (t:=5) (b:=aF) (o:=aG + 3 * 1) (d:=7) kz (cs:=[.int .u8 ((s.getD 3 0).toNat:Int)]) (v:=.int .u8 ((s.getD 3 0).toNat:Int)) kz (AtF.move ab hW7.step nilM qbw).at_ fun aV ak=>?_)
 refine qae (qab ?_)
 refine qby kz hW7 fun aW aI aa=>?_
 refine qaH [0,4,10,16] [(8,.v (.slice A s.length c)),(12,.v (.slice A s.length c)),(18,.v (.slice A s.length c)),(24,.v (.slice A s.length c))] 19 (qaa qaf) (fun _ h=>h ▸ aa.cells) rfl ak fun aX al=>?_
 refine qaO al (i:=1) (t:=22) (A:=A) (m:=s.length) (q:=3) (d:=9) kz (e:=5) (size:=1) (bytes:=1) (j:=3) kz ac rfl (by omega) kz kz (qaa qaf) rfl fun aY am=>?_
 refine qaV am (i:=2) (t:=5) (b:=aF) (o:=aG + 3 * 1) (d:=10) kz (cs:=[.int .u8 ((s.getD 3 0).toNat:Int)]) (v:=.int .u8 ((s.getD 3 0).toNat:Int)) kz (fun w' h'=>h' ▸ (AtF.move ab aa.step nilM qbw).at_) kz kz (qaa qaf) rfl fun aZ ao=>?_
 refine qaH [3] [(11,.v (.int .u32 (IntKind.u32.wrap ((s.getD 3 0).toNat:Int)))),(12,.v (.slice A s.length c)),(18,.v (.slice A s.length c)),(24,.v (.slice A s.length c))] 16 (qaa qaf) (fun _ h=>h ▸ aa.cells) rfl ao fun ba ap=>?_
 obtain ⟨aJ,aK,ar,aL,ae⟩:=Slots.get ho (i:=2) (by omega)
 refine qaO ap (i:=5) (t:=22) (A:=A) (m:=s.length) (q:=2) (d:=13) kz (e:=5) (size:=1) (bytes:=1) (j:=2) kz ar rfl (by omega) kz kz (qaa qaf) rfl fun bf au=>?_
 refine qaV au (i:=6) (t:=5) (b:=aJ) (o:=aK + 2 * 1) (d:=14) kz (cs:=[.int .u8 ((s.getD 2 0).toNat:Int)]) (v:=.int .u8 ((s.getD 2 0).toNat:Int)) kz (fun w' h'=>h' ▸ (AtF.move ae aa.step nilM qbw).at_) kz kz (qaa qaf) rfl fun bg av=>?_
 refine qaH [7,8,9] [(17,.v (.int .u32 (IntKind.u32.wrap (BitVec.ofInt 32 (IntKind.u32.wrap ((s.getD 3 0).toNat:Int)) ||| BitVec.ofInt 32 (IntKind.u32.wrap ((IntKind.u32.wrap ((s.getD 2 0).toNat:Int)) * 256))).toNat))),(18,.v (.slice A s.length c)),(24,.v (.slice A s.length c))] 11 (qaa qaf) (fun _ h=>h ▸ aa.cells) rfl av fun bh aw=>?_
 obtain ⟨aM,aO,ax,aP,af⟩:=Slots.get ho (i:=1) (by omega)
 refine qaO aw (i:=11) (t:=22) (A:=A) (m:=s.length) (q:=1) (d:=19) kz (e:=5) (size:=1) (bytes:=1) (j:=1) kz ax rfl (by omega) kz kz (qaa qaf) rfl fun bi ay=>?_
 refine qaV ay (i:=12) (t:=5) (b:=aM) (o:=aO + 1 * 1) (d:=20) kz (cs:=[.int .u8 ((s.getD 1 0).toNat:Int)]) (v:=.int .u8 ((s.getD 1 0).toNat:Int)) kz (fun w' h'=>h' ▸ (AtF.move af aa.step nilM qbw).at_) kz kz (qaa qaf) rfl fun bj az=>?_
 refine qaH [13,14,15] [(23,.v (.int .u32 (IntKind.u32.wrap (BitVec.ofInt 32 (IntKind.u32.wrap (BitVec.ofInt 32 (IntKind.u32.wrap ((s.getD 3 0).toNat:Int)) ||| BitVec.ofInt 32 (IntKind.u32.wrap ((IntKind.u32.wrap ((s.getD 2 0).toNat:Int)) * 256))).toNat) ||| BitVec.ofInt 32 (IntKind.u32.wrap ((IntKind.u32.wrap ((s.getD 1 0).toNat:Int)) * 65536))).toNat))),(24,.v (.slice A s.length c))] 6 (qaa qaf) (fun _ h=>h ▸ aa.cells) rfl az fun bk aA=>?_
 obtain ⟨aQ,aR,aB,aS,ag⟩:=Slots.get ho (i:=0) (by omega)
 refine qaO aA (i:=17) (t:=22) (A:=A) (m:=s.length) (q:=0) (d:=25) kz (e:=5) (size:=1) (bytes:=1) (j:=0) kz aB rfl (by omega) kz kz (qaa qaf) rfl fun bn aC=>?_
 refine qaV aC (i:=18) (t:=5) (b:=aQ) (o:=aR + 0 * 1) (d:=26) kz (cs:=[.int .u8 ((s.getD 0 0).toNat:Int)]) (v:=.int .u8 ((s.getD 0 0).toNat:Int)) kz (fun w' h'=>h' ▸ (AtF.move ag aa.step nilM qbw).at_) kz kz (qaa qaf) rfl fun bo aD=>?_
 refine qaH [19,20,21,22] [(4,.v (.int .u32 (IntKind.u32.wrap (BitVec.ofInt 32 (IntKind.u32.wrap (BitVec.ofInt 32 (IntKind.u32.wrap (BitVec.ofInt 32 (IntKind.u32.wrap ((s.getD 3 0).toNat:Int)) ||| BitVec.ofInt 32 (IntKind.u32.wrap ((IntKind.u32.wrap ((s.getD 2 0).toNat:Int)) * 256))).toNat) ||| BitVec.ofInt 32 (IntKind.u32.wrap ((IntKind.u32.wrap ((s.getD 1 0).toNat:Int)) * 65536))).toNat) ||| BitVec.ofInt 32 (IntKind.u32.wrap ((IntKind.u32.wrap ((s.getD 0 0).toNat:Int)) * 16777216))).toNat)))] 0 (qaa qaf) (fun _ h=>h ▸ aa.cells) rfl aD fun bp aE=>?_
 refine qaL kz ?_ _
 refine qab ?_
 refine wp_ret ?_
 refine qaG aE aa.cells (v:=.int .u32 (IntKind.u32.wrap (BitVec.ofInt 32 (IntKind.u32.wrap (BitVec.ofInt 32 (IntKind.u32.wrap (BitVec.ofInt 32 (IntKind.u32.wrap ((s.getD 3 0).toNat:Int)) ||| BitVec.ofInt 32 (IntKind.u32.wrap ((IntKind.u32.wrap ((s.getD 2 0).toNat:Int)) * 256))).toNat) ||| BitVec.ofInt 32 (IntKind.u32.wrap ((IntKind.u32.wrap ((s.getD 1 0).toNat:Int)) * 65536))).toNat) ||| BitVec.ofInt 32 (IntKind.u32.wrap ((IntKind.u32.wrap ((s.getD 0 0).toNat:Int)) * 16777216))).toNat)) kz ?_
 exact ⟨congrArg Ending.returned (congrArg (Value.int IntKind.u32) (qhs (oc s 0) (oc s 1) (oc s 2) (oc s 3) ob0 ob1 ob2 ob3)),aa.step⟩
theorem qfW {br:Nat} {A:Option Addr} {m c:Nat} {w:World} (hst:Str w br [.slice A m c,.bool false]) :
  Calls Tryd.prog 81 #[.pointer (some ⟨br,0,none⟩)] w (fun e w'=>e = .returned .nilIface ∧ w' = w):=by
 refine enter (n:=8) Tryd.func81 rfl Tryd.ntmps81 kz fun a hE=>?_
 have hW:WOk w (RdM br) w [⟨br,0,[.slice A m c,.bool false],true⟩] []:=WOk.startStr hst
 have hE1:=(hE.grow ⟨br,0,[.slice A m c,.bool false],true⟩).recast 0 (.v (.pointer (some ⟨br,0,none⟩))) (.p 0 0) rfl rfl (Nat.le_of_ble_eq_true (n:=1) rfl)
 refine qaq [(0,.p 0 0)] hW hE1 fun a1 hE2=>?_
 refine wp_seq ?_
 refine qaq [(6,.v (.bool false))] hW hE2 fun a3 hE4=>?_
 refine qaQ hE4 (b:=false) kz rfl ?_
 refine wp_skip ?_
 refine qab ?_
 refine qaq [(2,.v (.nilIface))] hW hE4 fun a5 hE6=>?_
 refine wp_ret ?_
 refine qaG hE6 hW.cells (v:=.nilIface) kz ?_
 exact ⟨rfl,rfl⟩
theorem qeQ {P:Program} {c:Code} {Mid:Act → World → Prop} {Q:Exit → Act → World → Prop} {a:Act} {w:World} (h1:c.wp P (Exit.then Mid Q) a w) (h2:∀ a' w',Mid a' w' → Q .normal a' w'):c.wp P Q a w :=
 wp_mono h1 fun e a' w' h=>by
  cases e <;> first | exact h2 a' w' h | exact h
abbrev Sg:=Bool × Bs
abbrev rdoU (br:Nat) (bd:Bool) (A:Option Addr) (m c:Nat):Ob:=⟨br,0,[.slice A m c,.bool bd],true⟩
theorem qgz {br:Nat} {bd bd':Bool} {A A':Option Addr} {m c m' c':Nat} {tb:Tb} {rs:List Rw} {b o:Nat} (h:Act_ (rdoU br bd A m c :: tb) rs b o):Act_ (rdoU br bd' A' m' c' :: tb) rs b o:=by
 rcases h with ⟨i,ob,hi,h1⟩ | h
 ·cases i with
  | zero =>
   simp only [List.getElem?_cons_zero,Option.some.injEq] at hi
   subst hi
   exact .inl ⟨0,_,rfl,h1⟩
  | succ i=>exact .inl ⟨i + 1,ob,hi,h1⟩
 exact .inr h
theorem qdf {G:Nat → Nat → Prop} {w0 w:World} {br:Nat} {bd bd':Bool} {A A':Option Addr} {m c m' c':Nat} {tb:Tb} {rs:List Rw} {b o:Nat} (h:Imm G w0 w (rdoU br bd A m c :: tb) rs b o):Imm G w0 w (rdoU br bd' A' m' c' :: tb) rs b o :=
 ⟨h.1,h.2.1,fun ha=>h.2.2 (qgz ha)⟩
theorem qdZ {n br:Nat} {bd bd':Bool} {A A':Option Addr} {m c m' c':Nat} {tb:Tb} {env:Env} {a:Act} (h:EnvOk n (rdoU br bd A m c :: tb) env a):EnvOk n (rdoU br bd' A' m' c' :: tb) env a:=by
 refine h.table fun i hi=>?_
 cases i with
 | zero=>exact ⟨by simp,rfl,rfl⟩
 | succ i=>exact ⟨by simpa using hi,rfl,rfl⟩
structure RSU (w0:World) (M F:Nat → Nat → Prop) (n br:Nat) (tb:Tb) (env:Env) (P:qey) (σ:Sg) (a:Act) (w:World):Prop where
 mv:MvF P
 ex:∃ A m c,WOk w0 M w (rdoU br σ.1 A m c :: tb) [] ∧ RdS w (Imm F w0 w (rdoU br false none 0 0 :: tb) []) A m c σ.2
 env_:EnvOk n (rdoU br false none 0 0 :: tb) env a
 fact:P w (Imm F w0 w (rdoU br false none 0 0 :: tb) [])
 lim:σ.2.length ≤ 1000
section
variable {Pr:Program} {ops opsA opsB opsC:Array Oper} {Q:Exit → Act → World → Prop} {w0:World} {M F:Nat → Nat → Prop} {n br:Nat} {tb:Tb} {env:Env} {P:qey} {σ:Sg} {a:Act} {w:World}
theorem RSU.mk' {A:Option Addr} {m c:Nat} (hW:WOk w0 M w (rdoU br σ.1 A m c :: tb) []) (hr:RdS w (Imm F w0 w (rdoU br σ.1 A m c :: tb) []) A m c σ.2) (hE:EnvOk n (rdoU br σ.1 A m c :: tb) env a) (mv:MvF P) (hP:P w (Imm F w0 w (rdoU br σ.1 A m c :: tb) [])) (lim:σ.2.length ≤ 1000):RSU w0 M F n br tb env P σ a w :=
 ⟨mv,⟨A,m,c,hW,hr.move (Step.refl w Nil) nilM fun b o h _=>qdf h⟩,(qdZ hE),mv.mono (fun b o h _=>qdf h) hP,lim⟩
theorem RSU.open_ (h:RSU w0 M F n br tb env P σ a w):∃ A m c,WOk w0 M w (rdoU br σ.1 A m c :: tb) [] ∧ RdS w (Imm F w0 w (rdoU br σ.1 A m c :: tb) []) A m c σ.2 ∧ EnvOk n (rdoU br σ.1 A m c :: tb) env a ∧ P w (Imm F w0 w (rdoU br σ.1 A m c :: tb) []):=by
 obtain ⟨A,m,c,hW,hr⟩:=h.ex
 exact ⟨A,m,c,hW,hr.move (Step.refl w Nil) nilM fun b o h _=>qdf h,(qdZ h.env_),h.mv.mono (fun b o h _=>qdf h) h.fact⟩
theorem RSU.cast {σ':Sg} (h:RSU w0 M F n br tb env P σ a w) (e:σ = σ'):RSU w0 M F n br tb env P σ' a w:=e ▸ h
theorem RSU.pk {env':Env} (h:RSU w0 M F n br tb env P σ a w) (e:ME.pick env (qbH env') = some env':=by kernel_rfl):RSU w0 M F n br tb env' P σ a w:=⟨h.mv,h.ex,h.env_.pk e,h.fact,h.lim⟩
theorem qdK {L:List Nat} (idxs rest:List Nat) (env':Env) (h:RSU w0 M F n br tb env P σ a w) (k:∀ a',RSU w0 M F n br tb env' P σ a' w → wpOps Pr ops Q rest a' w) (e:∀ bd A m c,qdm Pr ops n (rdoU br bd A m c :: tb) idxs (qbH env') env = some env':=by intro _ _ _ _; kernel_rfl) (hl:L = idxs ++ rest:=by rfl):wpOps Pr ops Q L a w:=by
 obtain ⟨A,m,c,hW,hr,hE,hP⟩:=h.open_
 exact qen idxs rest (qbH env') hW hE (e _ A m c) hl fun a' hE'=>k a' (RSU.mk' hW hr hE' h.mv hP h.lim)
theorem qds {id:Nat} (env':Env) (h:RSU w0 M F n br tb env P σ a w) (k:∀ a',RSU w0 M F n br tb env' P σ a' w → Q .normal a' w) (e:∀ bd A m c,qdm Pr ops n (rdoU br bd A m c :: tb) (List.range ops.size) (qbH env') env = some env':=by intro _ _ _ _; kernel_rfl):(Code.region id ops false).wp Pr Q a w :=
 qar (List.range ops.size) rfl (qdK (List.range ops.size) [] env' h (fun a' h'=>qae (k a' h')) e (List.append_nil _).symm)
def RdPostT (w:World) (br:Nat) (F:Nat → Nat → Prop) (σ':Sg) (Q:Value → World → Prop):Ending → World → Prop:=fun e w' =>
 ∃ v A' n' c',e = .returned v ∧ Str w' br [.slice A' n' c',.bool σ'.1] ∧ RdS w' F A' n' c' σ'.2 ∧ Step w w' (RdM br) ∧ Q v w'
structure RPrim0U (Pr:Program) (f:FuncId) (σ σ':Sg) (v0:Value):Prop where
 len:σ'.2.length ≤ σ.2.length
 go:∀ {br:Nat} {A:Option Addr} {m c:Nat} {w:World} {F:Nat → Nat → Prop},Str w br [.slice A m c,.bool σ.1] → RdS w F A m c σ.2 → (∀ b o,F b o → ¬ RdM br b o) →
  Calls Pr f #[.pointer (some ⟨br,0,none⟩)] w (RdPostT w br (Fp F w) σ' fun v w'=>v = v0)
theorem RdPostT.fp {w:World} {br:Nat} {F:Nat → Nat → Prop} {σ':Sg} {Q Q':Value → World → Prop} {e:Ending} {w':World} (hq:∀ v w',Q v w' → Q' v w') (h:RdPostT w br F σ' Q e w'):RdPostT w br (Fp F w) σ' Q' e w':=by
 obtain ⟨v,A',n',c',h1,h2,h3,h4,h5⟩:=h
 exact ⟨v,A',n',c',h1,h2,h3.move (Step.refl _ Nil) nilM fun b o g _=>.inl g,h4,hq _ _ h5⟩
theorem RdPostT.q {w:World} {br:Nat} {F:Nat → Nat → Prop} {σ':Sg} {Q Q':Value → World → Prop} {e:Ending} {w':World} (hq:∀ v w',Q v w' → Q' v w') (h:RdPostT w br F σ' Q e w'):RdPostT w br F σ' Q' e w':=by
 obtain ⟨v,A',n',c',h1,h2,h3,h4,h5⟩:=h
 exact ⟨v,A',n',c',h1,h2,h3,h4,hq _ _ h5⟩
theorem qei {i d:Nat} {f:FuncId} {σ':Sg} {v0:Value} {N:Act → World → Prop} (h:RSU w0 M F n br tb env P σ a w) (hc:RPrim0U Pr f σ σ' v0)
  (hf:∀ args w,(callFunc f args).run Pr w = .ok (.enter f args) w) (K:∀ a' w',RSU w0 M F n br tb ((d,.v v0) :: env) P σ' a' w' → N a' w')
  (he:∀ bd A m c,qel (rdoU br bd A m c :: tb) env ops n i = some (f,[.pointer (some ⟨br,0,none⟩)],d):=by intro _ _ _ _; kernel_rfl):wpOp Pr ops Q i N a w:=by
 obtain ⟨A,m,c,hW,hr,hE,hP⟩:=h.open_
 refine qak hE (he _ A m c) hf (hc.go (Str.of hW 0 rfl) hr (qdJ 0 rfl)) ?_
 rintro e_ w1 ⟨_,A1,n1,c1,rfl,hs,hr1,hst,rfl⟩
 refine ⟨_,rfl,fun a1 hE1=>?_⟩
 obtain ⟨hW2,hF2,hL⟩:=hW.wrote 0 (rdoU br σ'.1 A1 n1 c1 :: tb) rfl hst hs
 exact K a1 w1 (RSU.mk' hW2 (hr1.move (Step.refl _ Nil) nilM hL) (qdZ hE1) h.mv (h.mv.move hF2.step immM hF2.to' hP) (Nat.le_trans hc.len h.lim))
theorem qej {i d:Nat} {f:FuncId} {v0:Value} {N:Act → World → Prop} (h:RSU w0 M F n br tb env P σ a w) (hc:∀ {br:Nat} {A:Option Addr} {m c:Nat} {w:World},Str w br [.slice A m c,.bool σ.1] → Calls Pr f #[.pointer (some ⟨br,0,none⟩)] w (fun e w'=>e = .returned v0 ∧ w' = w))
  (hf:∀ args w,(callFunc f args).run Pr w = .ok (.enter f args) w) (K:∀ a',RSU w0 M F n br tb ((d,.v v0) :: env) P σ a' w → N a' w)
  (he:∀ bd A m c,qel (rdoU br bd A m c :: tb) env ops n i = some (f,[.pointer (some ⟨br,0,none⟩)],d):=by intro _ _ _ _; kernel_rfl):wpOp Pr ops Q i N a w:=by
 obtain ⟨A,m,c,hW,hr,hE,hP⟩:=h.open_
 refine qak hE (he _ A m c) hf (hc (Str.of hW 0 rfl)) ?_
 rintro e_ _ ⟨rfl,rfl⟩
 exact ⟨_,rfl,fun a1 hE1=>K a1 (RSU.mk' hW hr hE1 h.mv hP h.lim)⟩
theorem qfX {i:Nat} (tb':Tb) (j:Nat) {N:Act → World → Prop} (h:RSU w0 M F n br tb env P σ a w) (K:∀ w',RSU w0 M F n br tb' env P σ a w' → N a w')
  (he:∀ bd A m c,qeG Pr (rdoU br bd A m c :: tb) env ops i = some (j + 1,(obAt tb' j).cells):=by intro _ _ _ _; kernel_rfl) (ht:Tb.put tb j (obAt tb' j).cells = tb':=by rfl):wpOp Pr ops Q i N a w:=by
 obtain ⟨A,m,c,hW,hr,hE,hP⟩:=h.open_
 refine qan hW hE (he _ A m c) fun w1 hF1 hW1 hE1=>K w1 ?_
 have e:Tb.put (rdoU br σ.1 A m c :: tb) (j + 1) (obAt tb' j).cells = rdoU br σ.1 A m c :: tb':=by
  show rdoU br σ.1 A m c :: Tb.put tb j (obAt tb' j).cells = _
  rw [ht]
 rw [e] at hF1 hW1 hE1
 exact RSU.mk' hW1 (hr.move hF1.step immM hF1.to') hE1 h.mv (h.mv.move hF1.step immM hF1.to' hP) h.lim
theorem qdt {id d:Nat} {f:FuncId} {σ':Sg} {v0:Value} (env':Env) (h:RSU w0 M F n br tb env P σ a w) (hc:RPrim0U Pr f σ σ' v0)
  (hf:∀ args w,(callFunc f args).run Pr w = .ok (.enter f args) w) (K:∀ a' w',RSU w0 M F n br tb env' P σ' a' w' → Q .normal a' w')
  (he:∀ bd A m c,qel (rdoU br bd A m c :: tb) env ops n 0 = some (f,[.pointer (some ⟨br,0,none⟩)],d):=by intro _ _ _ _; kernel_rfl)
  (e:∀ bd A m c,qdm Pr ops n (rdoU br bd A m c :: tb) ((List.range ops.size).drop 1) (qbH env') ((d,.v v0) :: env) = some env':=by intro _ _ _ _; kernel_rfl) (hs:Nat.blt 0 ops.size = true:=by kernel_rfl):(Code.region id ops false).wp Pr Q a w:=by
 refine qar _ (qfd hs) (qal (qei h hc hf (fun a' w' hS=>?_) he))
 exact qdK ((List.range ops.size).drop 1) [] env' hS (fun a2 h2=>qae (K a2 w' h2)) e (List.append_nil _).symm
theorem qeA {id:Nat} (tb':Tb) (j:Nat) (env':Env) (h:RSU w0 M F n br tb env P σ a w) (K:∀ a' w',RSU w0 M F n br tb' env' P σ a' w' → Q .normal a' w')
  (he:∀ bd A m c,stoE Pr ops n (rdoU br bd A m c :: tb) env (qbH env') = some (j + 1,(obAt tb' j).cells,env'):=by intro _ _ _ _; kernel_rfl) (ht:Tb.put tb j (obAt tb' j).cells = tb':=by rfl) (hs:Nat.blt 0 ops.size = true:=by kernel_rfl):(Code.region id ops false).wp Pr Q a w:=by
 obtain ⟨A,m,c,hW,hr,hE,hP⟩:=h.open_
 have h1:=he σ.1 A m c
 unfold stoE at h1
 split at h1
 ·rename_i e he'
  split at h1
  ·rename_i i cs e' g1 g2
   simp only [Option.some.injEq,Prod.mk.injEq] at h1
   obtain ⟨rfl,rfl,rfl⟩:=h1
   have hr0:List.range ops.size = List.range (ops.size - 1) ++ [ops.size - 1]:=by
    have:0 < ops.size:=by simpa [Nat.blt_eq] using hs
    rw [← List.range_succ]; congr 1; omega
   refine qar _ hr0 (qcs hW.cells hE he' fun a1 hE1=>qal (qan hW hE1 g1 fun w1 hF1 hW1 hE2=>qae (K a1 w1 ?_)))
   have e:Tb.put (rdoU br σ.1 A m c :: tb) (j + 1) (obAt tb' j).cells = rdoU br σ.1 A m c :: tb':=by
    show rdoU br σ.1 A m c :: Tb.put tb j (obAt tb' j).cells = _
    rw [ht]
   rw [e] at hF1 hW1 hE2
   exact RSU.mk' hW1 (hr.move hF1.step immM hF1.to') (hE2.pick g2) h.mv (h.mv.move hF1.step immM hF1.to' hP) h.lim
  cases h1
 cases h1
end
theorem RdS.dropT {w:World} {F:Nat → Nat → Prop} {A:Option Addr} {n c j:Nat} {s:Bs} (h:RdS w F A n c s) (hj:j ≤ s.length):RdS w F (cutA A c j) (n - j) (c - j) (s.drop j) :=
 ⟨by rw [h.len,List.length_drop],h.oct.drop hj⟩
theorem RdS.nil_ (w:World) (F:Nat → Nat → Prop):RdS w F none 0 0 []:=⟨rfl,Octs.nil _ _⟩
def badS:Sg:=(true,[])
def aN (k:Nat) (σ:Sg):Sg:=if σ.2.length < k then badS else (σ.1,σ.2.drop k)
def uI16 (σ:Sg):Int:=if σ.2.length < 2 then 0 else IntKind.i16.wrap (be16 σ.2)
def uI32 (σ:Sg):Int:=if σ.2.length < 4 then 0 else IntKind.i32.wrap (be32 σ.2)
def uvG (s:Bs):Nat × Int :=
 if s.length < 1 then (0,0) else if oc s 0 < 128 then (oc s 0,1) else
 if s.length < 2 then (0,0) else if oc s 1 < 128 then (oc s 0 - 128 + oc s 1 * 128,2) else
 if s.length < 3 then (0,0) else if oc s 2 < 128 then (oc s 0 - 128 + (oc s 1 - 128) * 128 + oc s 2 * 16384,3) else
 if s.length < 4 then (0,0) else if oc s 3 < 128 then (oc s 0 - 128 + (oc s 1 - 128) * 128 + (oc s 2 - 128) * 16384 + oc s 3 * 2097152,4) else
 if s.length < 5 then (0,0) else if oc s 4 < 16 then (oc s 0 - 128 + (oc s 1 - 128) * 128 + (oc s 2 - 128) * 16384 + (oc s 3 - 128) * 2097152 + oc s 4 * 268435456,5) else (0,-5)
theorem qhd (s:Bs):(uvG s).2 ≤ (s.length:Int) ∧ (uvG s).1 < 4294967296:=by
 have h0:=qdv s 0
 have h1:=qdv s 1
 have h2:=qdv s 2
 have h3:=qdv s 3
 unfold uvG
 repeat' split
 all_goals (refine ⟨?_,?_⟩ <;> dsimp only <;> omega)
def uUv (σ:Sg):Nat:=if (uvG σ.2).2 ≤ 0 then 0 else (uvG σ.2).1
def aUv (σ:Sg):Sg:=if (uvG σ.2).2 ≤ 0 then badS else (σ.1,σ.2.drop (uvG σ.2).2.toNat)
def uSp (l:Int) (σ:Sg):Bs:=if (σ.2.length:Int) < l ∨ l < 0 then [] else σ.2.take l.toNat
def aSp (l:Int) (σ:Sg):Sg:=if (σ.2.length:Int) < l ∨ l < 0 then badS else (σ.1,σ.2.drop l.toNat)
def uStr (σ:Sg):Bs:=uSp (uI16 σ) (aN 2 σ)
def aStr (σ:Sg):Sg:=aSp (uI16 σ) (aN 2 σ)
def qht (σ:Sg):Bs:=uSp ((uUv σ:Int) - 1) (aUv σ)
def qhI (σ:Sg):Sg:=aSp ((uUv σ:Int) - 1) (aUv σ)
def uTxt (f:Bool) (σ:Sg):Bs:=if f = true then qht σ else uStr σ
def aTxt (f:Bool) (σ:Sg):Sg:=if f = true then qhI σ else aStr σ
structure Mn (f:Sg → Sg):Prop where
 len:∀ σ,(f σ).2.length ≤ σ.2.length
 bad:∀ σ,σ.1 = true → (f σ).1 = true
theorem Mn.ite {f g:Sg → Sg} {p:Sg → Prop} [∀ σ,Decidable (p σ)] (h:Mn f) (h':Mn g):Mn (fun σ=>if p σ then f σ else g σ):=⟨fun σ=>by
 split
 ·exact h.len σ
 ·exact h'.len σ,fun σ hb=>by
 split
 ·exact h.bad σ hb
 exact h'.bad σ hb⟩
theorem Mn.badS_:Mn (fun _=>badS):=⟨fun _=>Nat.zero_le _,fun _ _=>rfl⟩
theorem Mn.drop_ (k:Sg → Nat):Mn (fun σ=>(σ.1,σ.2.drop (k σ))):=⟨fun σ=>by dsimp only; rw [List.length_drop]; omega,fun _ h=>h⟩
theorem mn_N (k:Nat):Mn (aN k):=Mn.ite (p:=fun σ=>σ.2.length < k) Mn.badS_ (Mn.drop_ fun _=>k)
theorem mn_Uv:Mn aUv:=Mn.ite (p:=fun σ=>(uvG σ.2).2 ≤ 0) Mn.badS_ (Mn.drop_ fun σ=>(uvG σ.2).2.toNat)
theorem qhu (l:Int):Mn (aSp l):=Mn.ite (p:=fun σ=>(σ.2.length:Int) < l ∨ l < 0) Mn.badS_ (Mn.drop_ fun _=>l.toNat)
theorem mn_Str:Mn aStr:=⟨fun σ=>Nat.le_trans ((qhu _).len _) ((mn_N 2).len σ),fun σ h=>(qhu _).bad _ ((mn_N 2).bad σ h)⟩
theorem qfY (l:Int) (σ:Sg):(uSp l σ).length ≤ σ.2.length:=by
 unfold uSp
 split
 ·exact Nat.zero_le _
 rw [List.length_take]; omega
theorem qeR (f:Bool) (σ:Sg):(uTxt f σ).length ≤ σ.2.length:=by
 unfold uTxt qht uStr
 split
 ·exact Nat.le_trans (qfY _ _) (mn_Uv.len σ)
 exact Nat.le_trans (qfY _ _) ((mn_N 2).len σ)
theorem qfZ (bd:Bool) (s:Bs) (hl:2 ≤ s.length) {br:Nat} {A:Option Addr} {m c:Nat} {w:World} {F:Nat → Nat → Prop} (hst:Str w br [.slice A m c,.bool bd]) (hr:RdS w F A m c s) (hFd:∀ b o,F b o → ¬ RdM br b o) :
  Calls Tryd.prog 77 #[.pointer (some ⟨br,0,none⟩)] w (RdPostT w br F (bd,s.drop 2) fun v w'=>v = .int .i16 (IntKind.i16.wrap (be16 s))):=by
 obtain ⟨hm,ho⟩:=hr
 subst hm
 have hle:=ho.le
 have hsm:=ho.small
 refine enter (n:=32) Tryd.func77 rfl Tryd.ntmps77 kz fun a hE=>?_
 have hW:WOk w (RdM br) w [⟨br,0,[.slice A s.length c,.bool bd],true⟩] []:=WOk.startStr hst
 have hE1:=(hE.grow ⟨br,0,[.slice A s.length c,.bool bd],true⟩).recast 0 (.v (.pointer (some ⟨br,0,none⟩))) (.p 0 0) rfl rfl (Nat.le_of_ble_eq_true (n:=1) rfl)
 refine qaq [(0,.p 0 0)] hW hE1 fun a1 hE2=>?_
 refine wp_seq ?_
 refine qaq [(0,.p 0 0),(9,.v (.bool (decide (((s.length:Nat):Int) < 2))))] hW hE2 fun a3 hE4=>?_
 refine qaQ hE4 (b:=decide (((s.length:Nat):Int) < 2)) kz (decide_eq_false (by omega)) ?_
 refine wp_skip ?_
 refine qab ?_
 refine qaT 7 kz hW fun w5 hF6 hW7 hT8=>?_
 refine qaH [1,2,3,4] [(0,.p 0 0),(20,.v (.slice A s.length c))] 4 (qaa qaf) (fun _ h=>h.cells) hT8 hE4 fun a9 hE10=>?_
 refine qaV hE10 (i:=0) (t:=139) (b:=0) (o:=0) (d:=16) kz (cs:=[]) (v:=.agg #[]) kz (fun w' h'=>(fun j_ v_ h_=>by simp at h_)) kz kz (qaa qaf) hT8 fun a11 hE12=>?_
 refine qaE (i:=5) kz (qak hE12 (f:=104) (vs:=[.agg #[],.slice A s.length c]) (d:=21) kz Tryd.call104 (qhG _ (ho.move hW7.step (fun b_ o_ h_ _=>hFd b_ o_ h_) (hW7.immM hFd)) (by omega)) ?_)
 rintro e_ w14 ⟨rfl,hs13⟩
 refine ⟨_,rfl,fun a15 hE16=>?_⟩
 have hW17:=hW7.next_nil hs13
 have hF18:=hW7.frN hs13
 have hT19:=TT.ofW hF18 hW17
 refine ⟨fun _=>hT19,?_⟩
 refine qaH [6] [(0,.p 0 0),(22,.v (.int .i16 (IntKind.i16.wrap (be16 s))))] 1 (qaa qaf) (fun _ h=>h.cells) hT19 hE16 fun a20 hE21=>?_
 refine qaE (i:=7) kz (qbp [0,3] hW17.cells hE21 (env':=[(0,.p 0 0),(3,.v (.int .i16 (IntKind.i16.wrap (be16 s))))]) kz fun a22 hE23=>?_)
 refine ⟨fun h=>absurd rfl h,?_⟩
 refine qaL kz ?_ _
 refine qab ?_
 refine qad [0,1,2,3,4,5,6,7,8] kz ?_
 refine qaj [0,1,2,3,4] [5,6,7,8] [(3,.v (.int .i16 (IntKind.i16.wrap (be16 s)))),(23,.p 0 0),(27,.v (.slice A s.length c))] hW17 hE23 fun a24 hE25=>?_
 refine qal (qcI hE25 (t:=22) (A:=A) (m:=s.length) (cp:=c) (q:=2) (d:=28) (j:=2) kz (e:=5) (bytes:=1) kz (rfl) (by omega) fun a26 hE27=>?_)
 refine qaj [6,7] [8] [(3,.v (.int .i16 (IntKind.i16.wrap (be16 s)))),(28,.v (.slice (cutA A c 2) (s.length - 2) (c - 2))),(30,.p 0 0)] hW17 hE27 fun a28 hE29=>?_
 refine qal (qan hW17 hE29 (oi:=0) (cs:=[.slice (cutA A c 2) (s.length - 2) (c - 2),.bool bd]) kz fun w30 hF31 hW32 hE33=>?_)
 refine qae (qab ?_)
 refine qaq [(2,.v (.int .i16 (IntKind.i16.wrap (be16 s))))] hW32 hE33 fun a34 hE35=>?_
 refine wp_ret ?_
 refine qaG hE35 hW32.cells (v:=.int .i16 (IntKind.i16.wrap (be16 s))) kz ?_
 exact ⟨_,_,_,_,rfl,Str.of hW32 0 rfl,RdS.dropT (j:=2) ⟨rfl,ho.move hW32.step (fun b_ o_ h_ _=>hFd b_ o_ h_) qbw⟩ (by omega),hW32.step,rfl⟩
theorem qf0 (bd:Bool) (s:Bs) (hl:s.length < 2) {br:Nat} {A:Option Addr} {m c:Nat} {w:World} {F:Nat → Nat → Prop} (hst:Str w br [.slice A m c,.bool bd]) (hr:RdS w F A m c s) (hFd:∀ b o,F b o → ¬ RdM br b o) :
  Calls Tryd.prog 77 #[.pointer (some ⟨br,0,none⟩)] w (RdPostT w br F (true,[]) fun v w'=>v = .int .i16 0):=by
 obtain ⟨hm,ho⟩:=hr
 subst hm
 have hle:=ho.le
 have hsm:=ho.small
 refine enter (n:=32) Tryd.func77 rfl Tryd.ntmps77 kz fun a hE=>?_
 have hW:WOk w (RdM br) w [⟨br,0,[.slice A s.length c,.bool bd],true⟩] []:=WOk.startStr hst
 have hE1:=(hE.grow ⟨br,0,[.slice A s.length c,.bool bd],true⟩).recast 0 (.v (.pointer (some ⟨br,0,none⟩))) (.p 0 0) rfl rfl (Nat.le_of_ble_eq_true (n:=1) rfl)
 refine qaq [(0,.p 0 0)] hW hE1 fun a1 hE2=>?_
 refine wp_seq ?_
 refine qaq [(0,.p 0 0),(9,.v (.bool (decide (((s.length:Nat):Int) < 2))))] hW hE2 fun a3 hE4=>?_
 refine qbb hE4 (b:=decide (((s.length:Nat):Int) < 2)) kz (decide_eq_true (by omega)) ?_
 refine qad [0,1,2,3] kz ?_
 refine qaj [0,1,2] [3] [(0,.p 0 0),(12,.p 0 1)] hW hE4 fun a5 hE6=>?_
 refine qal (qan hW hE6 (oi:=0) (cs:=[.slice A s.length c,.bool true]) kz fun w7 hF8 hW9 hE10=>?_)
 refine qae (qab ?_)
 refine qad [0,1,2,3] kz ?_
 refine qaj [0,1,2] [3] [(15,.p 0 0)] hW9 hE10 fun a11 hE12=>?_
 refine qal (qan hW9 hE12 (oi:=0) (cs:=[.slice none 0 0,.bool true]) kz fun w13 hF14 hW15 hE16=>?_)
 refine qae (qab ?_)
 refine qaq [(2,.v (.int .i16 0))] hW15 hE16 fun a17 hE18=>?_
 refine wp_ret ?_
 refine qax ?_
 refine qaG hE18 hW15.cells (v:=.int .i16 0) kz ?_
 exact ⟨_,_,_,_,rfl,Str.of hW15 0 rfl,RdS.nil_ _ _,hW15.step,rfl⟩
theorem qf1 (bd:Bool) (s:Bs) (hl:4 ≤ s.length) {br:Nat} {A:Option Addr} {m c:Nat} {w:World} {F:Nat → Nat → Prop} (hst:Str w br [.slice A m c,.bool bd]) (hr:RdS w F A m c s) (hFd:∀ b o,F b o → ¬ RdM br b o) :
  Calls Tryd.prog 80 #[.pointer (some ⟨br,0,none⟩)] w (RdPostT w br F (bd,s.drop 4) fun v w'=>v = .int .i32 (IntKind.i32.wrap (be32 s))):=by
 obtain ⟨hm,ho⟩:=hr
 subst hm
 have hle:=ho.le
 have hsm:=ho.small
 refine enter (n:=32) Tryd.func80 rfl Tryd.ntmps80 kz fun a hE=>?_
 have hW:WOk w (RdM br) w [⟨br,0,[.slice A s.length c,.bool bd],true⟩] []:=WOk.startStr hst
 have hE1:=(hE.grow ⟨br,0,[.slice A s.length c,.bool bd],true⟩).recast 0 (.v (.pointer (some ⟨br,0,none⟩))) (.p 0 0) rfl rfl (Nat.le_of_ble_eq_true (n:=1) rfl)
 refine qaq [(0,.p 0 0)] hW hE1 fun a1 hE2=>?_
 refine wp_seq ?_
 refine qaq [(0,.p 0 0),(9,.v (.bool (decide (((s.length:Nat):Int) < 4))))] hW hE2 fun a3 hE4=>?_
 refine qaQ hE4 (b:=decide (((s.length:Nat):Int) < 4)) kz (decide_eq_false (by omega)) ?_
 refine wp_skip ?_
 refine qab ?_
 refine qaT 7 kz hW fun w5 hF6 hW7 hT8=>?_
 refine qaH [1,2,3,4] [(0,.p 0 0),(20,.v (.slice A s.length c))] 4 (qaa qaf) (fun _ h=>h.cells) hT8 hE4 fun a9 hE10=>?_
 refine qaV hE10 (i:=0) (t:=139) (b:=0) (o:=0) (d:=16) kz (cs:=[]) (v:=.agg #[]) kz (fun w' h'=>(fun j_ v_ h_=>by simp at h_)) kz kz (qaa qaf) hT8 fun a11 hE12=>?_
 refine qaE (i:=5) kz (qak hE12 (f:=107) (vs:=[.agg #[],.slice A s.length c]) (d:=21) kz Tryd.call107 (qhH _ (ho.move hW7.step (fun b_ o_ h_ _=>hFd b_ o_ h_) (hW7.immM hFd)) (by omega)) ?_)
 rintro e_ w14 ⟨rfl,hs13⟩
 refine ⟨_,rfl,fun a15 hE16=>?_⟩
 have hW17:=hW7.next_nil hs13
 have hF18:=hW7.frN hs13
 have hT19:=TT.ofW hF18 hW17
 refine ⟨fun _=>hT19,?_⟩
 refine qaH [6] [(0,.p 0 0),(22,.v (.int .i32 (IntKind.i32.wrap (be32 s))))] 1 (qaa qaf) (fun _ h=>h.cells) hT19 hE16 fun a20 hE21=>?_
 refine qaE (i:=7) kz (qbp [0,3] hW17.cells hE21 (env':=[(0,.p 0 0),(3,.v (.int .i32 (IntKind.i32.wrap (be32 s))))]) kz fun a22 hE23=>?_)
 refine ⟨fun h=>absurd rfl h,?_⟩
 refine qaL kz ?_ _
 refine qab ?_
 refine qad [0,1,2,3,4,5,6,7,8] kz ?_
 refine qaj [0,1,2,3,4] [5,6,7,8] [(3,.v (.int .i32 (IntKind.i32.wrap (be32 s)))),(23,.p 0 0),(27,.v (.slice A s.length c))] hW17 hE23 fun a24 hE25=>?_
 refine qal (qcI hE25 (t:=22) (A:=A) (m:=s.length) (cp:=c) (q:=4) (d:=28) (j:=4) kz (e:=5) (bytes:=1) kz (rfl) (by omega) fun a26 hE27=>?_)
 refine qaj [6,7] [8] [(3,.v (.int .i32 (IntKind.i32.wrap (be32 s)))),(28,.v (.slice (cutA A c 4) (s.length - 4) (c - 4))),(30,.p 0 0)] hW17 hE27 fun a28 hE29=>?_
 refine qal (qan hW17 hE29 (oi:=0) (cs:=[.slice (cutA A c 4) (s.length - 4) (c - 4),.bool bd]) kz fun w30 hF31 hW32 hE33=>?_)
 refine qae (qab ?_)
 refine qaq [(2,.v (.int .i32 (IntKind.i32.wrap (be32 s))))] hW32 hE33 fun a34 hE35=>?_
 refine wp_ret ?_
 refine qaG hE35 hW32.cells (v:=.int .i32 (IntKind.i32.wrap (be32 s))) kz ?_
 exact ⟨_,_,_,_,rfl,Str.of hW32 0 rfl,RdS.dropT (j:=4) ⟨rfl,ho.move hW32.step (fun b_ o_ h_ _=>hFd b_ o_ h_) qbw⟩ (by omega),hW32.step,rfl⟩
theorem qf2 (bd:Bool) (s:Bs) (hl:s.length < 4) {br:Nat} {A:Option Addr} {m c:Nat} {w:World} {F:Nat → Nat → Prop} (hst:Str w br [.slice A m c,.bool bd]) (hr:RdS w F A m c s) (hFd:∀ b o,F b o → ¬ RdM br b o) :
  Calls Tryd.prog 80 #[.pointer (some ⟨br,0,none⟩)] w (RdPostT w br F (true,[]) fun v w'=>v = .int .i32 0):=by
 obtain ⟨hm,ho⟩:=hr
 subst hm
 have hle:=ho.le
 have hsm:=ho.small
 refine enter (n:=32) Tryd.func80 rfl Tryd.ntmps80 kz fun a hE=>?_
 have hW:WOk w (RdM br) w [⟨br,0,[.slice A s.length c,.bool bd],true⟩] []:=WOk.startStr hst
 have hE1:=(hE.grow ⟨br,0,[.slice A s.length c,.bool bd],true⟩).recast 0 (.v (.pointer (some ⟨br,0,none⟩))) (.p 0 0) rfl rfl (Nat.le_of_ble_eq_true (n:=1) rfl)
 refine qaq [(0,.p 0 0)] hW hE1 fun a1 hE2=>?_
 refine wp_seq ?_
 refine qaq [(0,.p 0 0),(9,.v (.bool (decide (((s.length:Nat):Int) < 4))))] hW hE2 fun a3 hE4=>?_
 refine qbb hE4 (b:=decide (((s.length:Nat):Int) < 4)) kz (decide_eq_true (by omega)) ?_
 refine qad [0,1,2,3] kz ?_
 refine qaj [0,1,2] [3] [(0,.p 0 0),(12,.p 0 1)] hW hE4 fun a5 hE6=>?_
 refine qal (qan hW hE6 (oi:=0) (cs:=[.slice A s.length c,.bool true]) kz fun w7 hF8 hW9 hE10=>?_)
 refine qae (qab ?_)
 refine qad [0,1,2,3] kz ?_
 refine qaj [0,1,2] [3] [(15,.p 0 0)] hW9 hE10 fun a11 hE12=>?_
 refine qal (qan hW9 hE12 (oi:=0) (cs:=[.slice none 0 0,.bool true]) kz fun w13 hF14 hW15 hE16=>?_)
 refine qae (qab ?_)
 refine qaq [(2,.v (.int .i32 0))] hW15 hE16 fun a17 hE18=>?_
 refine wp_ret ?_
 refine qax ?_
 refine qaG hE18 hW15.cells (v:=.int .i32 0) kz ?_
 exact ⟨_,_,_,_,rfl,Str.of hW15 0 rfl,RdS.nil_ _ _,hW15.step,rfl⟩
theorem qgS (σ:Sg):uUv σ < 4294967296:=by
 unfold uUv
 have:=(qhd σ.2).2
 split <;> omega
theorem qf3 (σ:Sg):-32768 ≤ uI16 σ ∧ uI16 σ < 32768:=by
 unfold uI16
 split
 ·omega
 simp only [i16w]; omega
theorem qf4 (σ:Sg):RPrim0U Tryd.prog 77 σ (aN 2 σ) (.int .i16 (uI16 σ)):=⟨(mn_N 2).len σ,fun hst hr hF=>by
 unfold aN uI16
 by_cases h:σ.2.length < 2
 ·simp only [if_pos h]
  exact (qf0 σ.1 σ.2 h hst hr hF).mono fun e w' hp=>hp.fp fun v w' h=>h
 simp only [if_neg h]
 exact (qfZ σ.1 σ.2 (by omega) hst hr hF).mono fun e w' hp=>hp.fp fun v w' h=>h⟩
theorem qhv (σ:Sg):RPrim0U Tryd.prog 80 σ (aN 4 σ) (.int .i32 (uI32 σ)):=⟨(mn_N 4).len σ,fun hst hr hF=>by
 unfold aN uI32
 by_cases h:σ.2.length < 4
 ·simp only [if_pos h]
  exact (qf2 σ.1 σ.2 h hst hr hF).mono fun e w' hp=>hp.fp fun v w' h=>h
 simp only [if_neg h]
 exact (qf1 σ.1 σ.2 (by omega) hst hr hF).mono fun e w' hp=>hp.fp fun v w' h=>h⟩
theorem qgA (l:Int) (bd:Bool) (s:Bs) (h0:0 ≤ l) (h1:l ≤ (s.length:Int)) {br:Nat} {A:Option Addr} {m c:Nat} {w:World} {F:Nat → Nat → Prop} (hst:Str w br [.slice A m c,.bool bd]) (hr:RdS w F A m c s) (hFd:∀ b o,F b o → ¬ RdM br b o) :
  Calls Tryd.prog 106 #[.pointer (some ⟨br,0,none⟩),.int .i64 l] w (RdPostT w br F (bd,s.drop l.toNat) fun v w'=>∃ A2,v = .slice A2 l.toNat l.toNat ∧ Octs w' F A2 l.toNat (s.take l.toNat)):=by
 obtain ⟨hm,ho⟩:=hr
 subst hm
 have hle:=ho.le
 have hsm:=ho.small
 refine enter (n:=40) Tryd.func106 rfl Tryd.ntmps106 kz fun a hE=>?_
 have hW:WOk w (RdM br) w [⟨br,0,[.slice A s.length c,.bool bd],true⟩] []:=WOk.startStr hst
 have hE1:=(hE.grow ⟨br,0,[.slice A s.length c,.bool bd],true⟩).recast 0 (.v (.pointer (some ⟨br,0,none⟩))) (.p 0 0) rfl rfl (Nat.le_of_ble_eq_true (n:=1) rfl)
 refine qaq [(0,.p 0 0),(1,.v (.int .i64 l))] hW hE1 fun a1 hE2=>?_
 refine wp_seq ?_
 refine qad [0,1,2,3,4,5,6,7,8,9,10] kz ?_
 refine qaj [0,1,2,3,4,5,6,7] [8,9,10] [(0,.p 0 0),(1,.v (.int .i64 l)),(13,.v (.bool (decide (((s.length:Nat):Int) < l))))] hW hE2 fun a3 hE4=>?_
 have hc5:(decide (((s.length:Nat):Int) < l)) = false:=decide_eq_false (by omega)
 have hE6:=hE4.cast (env':=[(0,.p 0 0),(1,.v (.int .i64 l)),(13,.v (.bool false))]) (by rw [hc5])
 refine qaj [8,9,10] [] [(0,.p 0 0),(1,.v (.int .i64 l)),(16,.v (.bool (decide (l < 0))))] hW hE6 fun a7 hE8=>?_
 refine qae (qab ?_)
 refine qaQ hE8 (b:=decide (l < 0)) kz (decide_eq_false (by omega)) ?_
 refine wp_skip ?_
 refine qab ?_
 refine qad [0,1,2,3,4,5,6,7] kz ?_
 refine qaj [0,1,2,3,4,5] [6,7] [(0,.p 0 0),(1,.v (.int .i64 l)),(26,.v (.slice A s.length c)),(27,.v (.int .i64 l)),(28,.v (.int .i64 l))] hW hE8 fun a9 hE10=>?_
 refine qal (qfT hE10 (t:=22) (A:=A) (m:=s.length) (cp:=c) (k:=.i64) (q:=l) (d:=29) (j:=l.toNat) kz (e:=5) (bytes:=1) kz (by omega) (by omega) fun a11 hE12=>?_)
 refine qaj [7] [] [(0,.p 0 0),(1,.v (.int .i64 l)),(5,.v (.slice A l.toNat l.toNat))] hW hE12 fun a13 hE14=>?_
 refine qae (qab ?_)
 refine qad [0,1,2,3,4,5,6,7,8,9] kz ?_
 refine qaj [0,1,2,3,4,5] [6,7,8,9] [(5,.v (.slice A l.toNat l.toNat)),(30,.p 0 0),(34,.v (.slice A s.length c)),(35,.v (.int .i64 l))] hW hE14 fun a15 hE16=>?_
 refine qal (qcI hE16 (t:=22) (A:=A) (m:=s.length) (cp:=c) (q:=l) (d:=36) (j:=l.toNat) kz (e:=5) (bytes:=1) kz (by omega) (by omega) fun a17 hE18=>?_)
 refine qaj [7,8] [9] [(5,.v (.slice A l.toNat l.toNat)),(36,.v (.slice (cutA A c l.toNat) (s.length - l.toNat) (c - l.toNat))),(38,.p 0 0)] hW hE18 fun a19 hE20=>?_
 refine qal (qan hW hE20 (oi:=0) (cs:=[.slice (cutA A c l.toNat) (s.length - l.toNat) (c - l.toNat),.bool bd]) kz fun w21 hF22 hW23 hE24=>?_)
 refine qae (qab ?_)
 refine qaq [(4,.v (.slice A l.toNat l.toNat))] hW23 hE24 fun a25 hE26=>?_
 refine wp_ret ?_
 refine qaG hE26 hW23.cells (v:=.slice A l.toNat l.toNat) kz ?_
 exact ⟨_,_,_,_,rfl,Str.of hW23 0 rfl,RdS.dropT (j:=l.toNat) ⟨rfl,ho.move hW23.step (fun b_ o_ h_ _=>hFd b_ o_ h_) qbw⟩ (by omega),hW23.step,A,rfl,(ho.move hW23.step (fun b_ o_ h_ _=>hFd b_ o_ h_) qbw).cutS (by omega)⟩
theorem qgB (l:Int) (bd:Bool) (s:Bs) (h1:(s.length:Int) < l) {br:Nat} {A:Option Addr} {m c:Nat} {w:World} {F:Nat → Nat → Prop} (hst:Str w br [.slice A m c,.bool bd]) (hr:RdS w F A m c s) (hFd:∀ b o,F b o → ¬ RdM br b o) :
  Calls Tryd.prog 106 #[.pointer (some ⟨br,0,none⟩),.int .i64 l] w (RdPostT w br F (true,[]) fun v w'=>v = .slice none 0 0):=by
 obtain ⟨hm,ho⟩:=hr
 subst hm
 have hle:=ho.le
 have hsm:=ho.small
 refine enter (n:=40) Tryd.func106 rfl Tryd.ntmps106 kz fun a hE=>?_
 have hW:WOk w (RdM br) w [⟨br,0,[.slice A s.length c,.bool bd],true⟩] []:=WOk.startStr hst
 have hE1:=(hE.grow ⟨br,0,[.slice A s.length c,.bool bd],true⟩).recast 0 (.v (.pointer (some ⟨br,0,none⟩))) (.p 0 0) rfl rfl (Nat.le_of_ble_eq_true (n:=1) rfl)
 refine qaq [(0,.p 0 0),(1,.v (.int .i64 l))] hW hE1 fun a1 hE2=>?_
 refine wp_seq ?_
 refine qad [0,1,2,3,4,5,6,7,8,9,10] kz ?_
 refine qaj [0,1,2,3,4,5,6,7] [8,9,10] [(0,.p 0 0),(1,.v (.int .i64 l)),(13,.v (.bool (decide (((s.length:Nat):Int) < l))))] hW hE2 fun a3 hE4=>?_
 have hc5:(decide (((s.length:Nat):Int) < l)) = true:=decide_eq_true (by omega)
 have hE6:=hE4.cast (env':=[(0,.p 0 0),(1,.v (.int .i64 l)),(13,.v (.bool true))]) (by rw [hc5])
 refine qaj [8,9,10] [] [(0,.p 0 0),(1,.v (.int .i64 l)),(16,.v (.bool true))] hW hE6 fun a7 hE8=>?_
 refine qae (qab ?_)
 refine qbb hE8 (b:=true) kz rfl ?_
 refine qad [0,1,2,3] kz ?_
 refine qaj [0,1,2] [3] [(0,.p 0 0),(19,.p 0 1)] hW hE8 fun a9 hE10=>?_
 refine qal (qan hW hE10 (oi:=0) (cs:=[.slice A s.length c,.bool true]) kz fun w11 hF12 hW13 hE14=>?_)
 refine qae (qab ?_)
 refine qad [0,1,2,3] kz ?_
 refine qaj [0,1,2] [3] [(22,.p 0 0)] hW13 hE14 fun a15 hE16=>?_
 refine qal (qan hW13 hE16 (oi:=0) (cs:=[.slice none 0 0,.bool true]) kz fun w17 hF18 hW19 hE20=>?_)
 refine qae (qab ?_)
 refine qaq [(4,.v (.slice none 0 0))] hW19 hE20 fun a21 hE22=>?_
 refine wp_ret ?_
 refine qax ?_
 refine qaG hE22 hW19.cells (v:=.slice none 0 0) kz ?_
 exact ⟨_,_,_,_,rfl,Str.of hW19 0 rfl,RdS.nil_ _ _,hW19.step,rfl⟩
theorem qgC (l:Int) (bd:Bool) (s:Bs) (h0:l < 0) {br:Nat} {A:Option Addr} {m c:Nat} {w:World} {F:Nat → Nat → Prop} (hst:Str w br [.slice A m c,.bool bd]) (hr:RdS w F A m c s) (hFd:∀ b o,F b o → ¬ RdM br b o) :
  Calls Tryd.prog 106 #[.pointer (some ⟨br,0,none⟩),.int .i64 l] w (RdPostT w br F (true,[]) fun v w'=>v = .slice none 0 0):=by
 obtain ⟨hm,ho⟩:=hr
 subst hm
 have hle:=ho.le
 have hsm:=ho.small
 refine enter (n:=40) Tryd.func106 rfl Tryd.ntmps106 kz fun a hE=>?_
 have hW:WOk w (RdM br) w [⟨br,0,[.slice A s.length c,.bool bd],true⟩] []:=WOk.startStr hst
 have hE1:=(hE.grow ⟨br,0,[.slice A s.length c,.bool bd],true⟩).recast 0 (.v (.pointer (some ⟨br,0,none⟩))) (.p 0 0) rfl rfl (Nat.le_of_ble_eq_true (n:=1) rfl)
 refine qaq [(0,.p 0 0),(1,.v (.int .i64 l))] hW hE1 fun a1 hE2=>?_
 refine wp_seq ?_
 refine qad [0,1,2,3,4,5,6,7,8,9,10] kz ?_
 refine qaj [0,1,2,3,4,5,6,7] [8,9,10] [(0,.p 0 0),(1,.v (.int .i64 l)),(13,.v (.bool (decide (((s.length:Nat):Int) < l))))] hW hE2 fun a3 hE4=>?_
 have hc5:(decide (((s.length:Nat):Int) < l)) = false:=decide_eq_false (by omega)
 have hE6:=hE4.cast (env':=[(0,.p 0 0),(1,.v (.int .i64 l)),(13,.v (.bool false))]) (by rw [hc5])
 refine qaj [8,9,10] [] [(0,.p 0 0),(1,.v (.int .i64 l)),(16,.v (.bool (decide (l < 0))))] hW hE6 fun a7 hE8=>?_
 refine qae (qab ?_)
 refine qbb hE8 (b:=decide (l < 0)) kz (decide_eq_true (by omega)) ?_
 refine qad [0,1,2,3] kz ?_
 refine qaj [0,1,2] [3] [(0,.p 0 0),(19,.p 0 1)] hW hE8 fun a9 hE10=>?_
 refine qal (qan hW hE10 (oi:=0) (cs:=[.slice A s.length c,.bool true]) kz fun w11 hF12 hW13 hE14=>?_)
 refine qae (qab ?_)
 refine qad [0,1,2,3] kz ?_
 refine qaj [0,1,2] [3] [(22,.p 0 0)] hW13 hE14 fun a15 hE16=>?_
 refine qal (qan hW13 hE16 (oi:=0) (cs:=[.slice none 0 0,.bool true]) kz fun w17 hF18 hW19 hE20=>?_)
 refine qae (qab ?_)
 refine qaq [(4,.v (.slice none 0 0))] hW19 hE20 fun a21 hE22=>?_
 refine wp_ret ?_
 refine qax ?_
 refine qaG hE22 hW19.cells (v:=.slice none 0 0) kz ?_
 exact ⟨_,_,_,_,rfl,Str.of hW19 0 rfl,RdS.nil_ _ _,hW19.step,rfl⟩
theorem qhw (l:Int) (σ:Sg) {br:Nat} {A:Option Addr} {m c:Nat} {w:World} {F:Nat → Nat → Prop} (hst:Str w br [.slice A m c,.bool σ.1]) (hr:RdS w F A m c σ.2) (hFd:∀ b o,F b o → ¬ RdM br b o) :
  Calls Tryd.prog 106 #[.pointer (some ⟨br,0,none⟩),.int .i64 l] w (RdPostT w br F (aSp l σ) fun v w'=>∃ A2 c2,v = .slice A2 (uSp l σ).length c2 ∧ Octs w' F A2 c2 (uSp l σ)):=by
 unfold aSp uSp
 by_cases h0:l < 0
 ·simp only [if_pos (Or.inr h0:(σ.2.length:Int) < l ∨ l < 0)]
  exact (qgC l σ.1 σ.2 h0 hst hr hFd).mono fun e w' hp=>hp.q fun v w' h=>⟨none,0,h,Octs.nil _ _⟩
 by_cases h1:(σ.2.length:Int) < l
 ·simp only [if_pos (Or.inl h1:(σ.2.length:Int) < l ∨ l < 0)]
  exact (qgB l σ.1 σ.2 h1 hst hr hFd).mono fun e w' hp=>hp.q fun v w' h=>⟨none,0,h,Octs.nil _ _⟩
 simp only [if_neg (fun h=>h.elim h1 h0:¬ ((σ.2.length:Int) < l ∨ l < 0))]
 refine (qgA l σ.1 σ.2 (by omega) (by omega) hst hr hFd).mono fun e w' hp=>hp.q fun v w' h=>?_
 obtain ⟨A2,rfl,h⟩:=h
 exact ⟨A2,l.toNat,by rw [List.length_take,Nat.min_eq_left (by omega)],h⟩
theorem qhe (X:Bs) {A:Option Addr} {c:Nat} {w:World} {F:Nat → Nat → Prop} (ho:Octs w F A c X):Calls Tryd.prog 105 #[.slice A X.length c] w (qcd w (.string (bs X))):=by
 refine enter (n:=5) Tryd.func105 rfl Tryd.ntmps105 kz fun a hE=>?_
 have hW:=WOk.start w Nil
 refine qaq [(0,.v (.slice A X.length c))] hW hE fun a1 hE2=>?_
 refine qad [0,1,2] kz ?_
 refine qaj [0] [1,2] [(3,.v (.slice A X.length c))] hW hE2 fun a3 hE4=>?_
 refine qal (qeh hE4 (src:=22) (dst:=9) (e:=5) (d:=4) kz kz kz kz (ho.move hW.step nilM hW.imm) fun a5 hE6=>?_)
 refine qaj [2] [] [(2,.v (.string (bs X)))] hW hE6 fun a7 hE8=>?_
 refine qae (qab ?_)
 refine wp_ret ?_
 refine qaG hE8 hW.cells (v:=.string (bs X)) kz ?_
 exact ⟨rfl,hW.step⟩
theorem qgD (σ:Sg)  {br:Nat} {A:Option Addr} {m c:Nat} {w:World} {F:Nat → Nat → Prop} (hst:Str w br [.slice A m c,.bool σ.1]) (hr:RdS w F A m c σ.2) (hFd:∀ b o,F b o → ¬ RdM br b o) :
  Calls Tryd.prog 79 #[.pointer (some ⟨br,0,none⟩)] w (RdPostT w br (Fp F w) (aStr σ) fun v w'=>v = .string (bs (uStr σ))):=by
 refine enter (n:=11) Tryd.func79 rfl Tryd.ntmps79 kz fun a hE=>?_
 have hW:WOk w (RdM br) w [⟨br,0,[.slice A m c,.bool σ.1],true⟩] []:=WOk.startStr hst
 have hE1:=(hE.grow ⟨br,0,[.slice A m c,.bool σ.1],true⟩).recast 0 (.v (.pointer (some ⟨br,0,none⟩))) (.p 0 0) rfl rfl (Nat.le_of_ble_eq_true (n:=1) rfl)
 refine qaq [(0,.p 0 0)] hW hE1 fun a1 hE2=>?_
 refine qad [0,1,2] kz ?_
 refine qaj [0] [1,2] [(0,.p 0 0),(4,.p 0 0)] hW hE2 fun a3 hE4=>?_
 refine qal (qak hE4 (f:=77) (vs:=[.pointer (some ⟨br,0,none⟩)]) (d:=5) kz Tryd.call77 ((qf4 σ).go (Str.of hW 0 rfl) (hr.move hW.step (fun b_ o_ h_ _=>hFd b_ o_ h_) (hW.immM hFd)) (qdJ 0 rfl)) ?_)
 rintro e_ w5 ⟨_,A6,n7,c8,rfl,hs9,hr10,hst11,rfl⟩
 obtain ⟨hW12,hF13,hl17⟩:=hW.wrote 0 [⟨br,0,[.slice A6 n7 c8,.bool ((aN 2 σ).1)],true⟩] rfl hst11 hs9
 have hr21:=hr10.move (Step.refl _ Nil) nilM hl17
 refine ⟨_,rfl,fun a14 hE15=>?_⟩
 have hE16:EnvOk 11 [⟨br,0,[.slice A6 n7 c8,.bool ((aN 2 σ).1)],true⟩] [(5,.v (.int .i16 (uI16 σ))),(0,.p 0 0),(4,.p 0 0)] _:=hE15.places (⟨rfl,rfl,trivial⟩)
 refine qaj [2] [] [(0,.p 0 0),(3,.v (.int .i16 (uI16 σ)))] hW12 hE16 fun a22 hE23=>?_
 refine qae (qab ?_)
 refine qad [0,1,2,3,4,5] kz ?_
 refine qaj [0,1,2] [3,4,5] [(6,.p 0 0),(8,.v (.int .i64 (IntKind.i64.wrap (uI16 σ))))] hW12 hE23 fun a24 hE25=>?_
 have he39:IntKind.i64.wrap (uI16 σ) = uI16 σ:=by have:=qgS σ; have:=qf3 σ; simp only [i16w,i32w,i64w]; omega
 have hE40:=EnvOk.pick hE25 (ks:=[6,8]) (env':=[(6,.p 0 0),(8,.v (.int .i64 (IntKind.i64.wrap (uI16 σ))))]) kz
 have hE41:=hE40.cast (env':=[(6,.p 0 0),(8,.v (.int .i64 (uI16 σ)))]) (by rw [he39])
 refine qal (qak hE41 (f:=106) (vs:=[.pointer (some ⟨br,0,none⟩),.int .i64 (uI16 σ)]) (d:=9) kz Tryd.call106 (qhw (uI16 σ) (aN 2 σ) (Str.of hW12 0 rfl) hr21 (qdJ 0 rfl)) ?_)
 rintro e_ w26 ⟨_,A27,n28,c29,rfl,hs30,hr31,hst32,⟨A42,c43,rfl,ho44⟩⟩
 obtain ⟨hW33,hF34,hl38⟩:=hW12.wrote 0 [⟨br,0,[.slice A27 n28 c29,.bool ((aSp (uI16 σ) (aN 2 σ)).1)],true⟩] rfl hst32 hs30
 have hr45:=hr31.move (Step.refl _ Nil) nilM (fun b_ o_ h_ _=>hF34.to b_ o_ h_)
 refine ⟨_,rfl,fun a35 hE36=>?_⟩
 have hE37:EnvOk 11 [⟨br,0,[.slice A27 n28 c29,.bool ((aSp (uI16 σ) (aN 2 σ)).1)],true⟩] [(9,.v (.slice A42 ((uSp (uI16 σ) (aN 2 σ)).length) c43)),(6,.p 0 0),(8,.v (.int .i64 (uI16 σ)))] _:=hE36.places (⟨rfl,rfl,trivial⟩)
 have ho46:=ho44.move (Step.refl _ Nil) nilM (fun b_ o_ h_ _=>hF34.to b_ o_ h_)
 refine qal (qeh hE37 (src:=22) (dst:=9) (e:=5) (d:=10) kz kz kz kz ho46 fun a47 hE48=>?_)
 refine qaj [5] [] [(2,.v (.string (bs (uSp (uI16 σ) (aN 2 σ)))))] hW33 hE48 fun a49 hE50=>?_
 refine qae (qab ?_)
 refine wp_ret ?_
 refine qaG hE50 hW33.cells (v:=.string (bs (uSp (uI16 σ) (aN 2 σ)))) kz ?_
 refine ⟨_,_,_,_,rfl,Str.of hW33 0 rfl,(hr45.move (Step.refl _ Nil) nilM qcm),hW33.step,rfl⟩
theorem qdw (σ:Sg)  {br:Nat} {A:Option Addr} {m c:Nat} {w:World} {F:Nat → Nat → Prop} (hst:Str w br [.slice A m c,.bool σ.1]) (hr:RdS w F A m c σ.2) (hFd:∀ b o,F b o → ¬ RdM br b o) :
  Calls Tryd.prog 78 #[.pointer (some ⟨br,0,none⟩)] w (RdPostT w br (Fp F w) (aStr σ) fun v w'=>v = .string (bs (uStr σ))):=by
 refine enter (n:=11) Tryd.func78 rfl Tryd.ntmps78 kz fun a hE=>?_
 have hW:WOk w (RdM br) w [⟨br,0,[.slice A m c,.bool σ.1],true⟩] []:=WOk.startStr hst
 have hE1:=(hE.grow ⟨br,0,[.slice A m c,.bool σ.1],true⟩).recast 0 (.v (.pointer (some ⟨br,0,none⟩))) (.p 0 0) rfl rfl (Nat.le_of_ble_eq_true (n:=1) rfl)
 refine qaq [(0,.p 0 0)] hW hE1 fun a1 hE2=>?_
 refine qad [0,1,2] kz ?_
 refine qaj [0] [1,2] [(0,.p 0 0),(4,.p 0 0)] hW hE2 fun a3 hE4=>?_
 refine qal (qak hE4 (f:=77) (vs:=[.pointer (some ⟨br,0,none⟩)]) (d:=5) kz Tryd.call77 ((qf4 σ).go (Str.of hW 0 rfl) (hr.move hW.step (fun b_ o_ h_ _=>hFd b_ o_ h_) (hW.immM hFd)) (qdJ 0 rfl)) ?_)
 rintro e_ w5 ⟨_,A6,n7,c8,rfl,hs9,hr10,hst11,rfl⟩
 obtain ⟨hW12,hF13,hl17⟩:=hW.wrote 0 [⟨br,0,[.slice A6 n7 c8,.bool ((aN 2 σ).1)],true⟩] rfl hst11 hs9
 have hr21:=hr10.move (Step.refl _ Nil) nilM hl17
 refine ⟨_,rfl,fun a14 hE15=>?_⟩
 have hE16:EnvOk 11 [⟨br,0,[.slice A6 n7 c8,.bool ((aN 2 σ).1)],true⟩] [(5,.v (.int .i16 (uI16 σ))),(0,.p 0 0),(4,.p 0 0)] _:=hE15.places (⟨rfl,rfl,trivial⟩)
 refine qaj [2] [] [(0,.p 0 0),(3,.v (.int .i16 (uI16 σ)))] hW12 hE16 fun a22 hE23=>?_
 refine qae (qab ?_)
 refine qad [0,1,2,3,4,5] kz ?_
 refine qaj [0,1,2] [3,4,5] [(6,.p 0 0),(8,.v (.int .i64 (IntKind.i64.wrap (uI16 σ))))] hW12 hE23 fun a24 hE25=>?_
 have he39:IntKind.i64.wrap (uI16 σ) = uI16 σ:=by have:=qgS σ; have:=qf3 σ; simp only [i16w,i32w,i64w]; omega
 have hE40:=EnvOk.pick hE25 (ks:=[6,8]) (env':=[(6,.p 0 0),(8,.v (.int .i64 (IntKind.i64.wrap (uI16 σ))))]) kz
 have hE41:=hE40.cast (env':=[(6,.p 0 0),(8,.v (.int .i64 (uI16 σ)))]) (by rw [he39])
 refine qal (qak hE41 (f:=106) (vs:=[.pointer (some ⟨br,0,none⟩),.int .i64 (uI16 σ)]) (d:=9) kz Tryd.call106 (qhw (uI16 σ) (aN 2 σ) (Str.of hW12 0 rfl) hr21 (qdJ 0 rfl)) ?_)
 rintro e_ w26 ⟨_,A27,n28,c29,rfl,hs30,hr31,hst32,⟨A42,c43,rfl,ho44⟩⟩
 obtain ⟨hW33,hF34,hl38⟩:=hW12.wrote 0 [⟨br,0,[.slice A27 n28 c29,.bool ((aSp (uI16 σ) (aN 2 σ)).1)],true⟩] rfl hst32 hs30
 have hr45:=hr31.move (Step.refl _ Nil) nilM (fun b_ o_ h_ _=>hF34.to b_ o_ h_)
 refine ⟨_,rfl,fun a35 hE36=>?_⟩
 have hE37:EnvOk 11 [⟨br,0,[.slice A27 n28 c29,.bool ((aSp (uI16 σ) (aN 2 σ)).1)],true⟩] [(9,.v (.slice A42 ((uSp (uI16 σ) (aN 2 σ)).length) c43)),(6,.p 0 0),(8,.v (.int .i64 (uI16 σ)))] _:=hE36.places (⟨rfl,rfl,trivial⟩)
 have ho46:=ho44.move (Step.refl _ Nil) nilM (fun b_ o_ h_ _=>hF34.to b_ o_ h_)
 refine qal (qak hE37 (f:=105) (vs:=[.slice A42 ((uSp (uI16 σ) (aN 2 σ)).length) c43]) (d:=10) kz Tryd.call105 (qhe _ ho46) ?_)
 rintro e_ w48 ⟨rfl,hs47⟩
 refine ⟨_,rfl,fun a49 hE50=>?_⟩
 have hW51:=hW33.next_nil hs47
 have hF52:=hW33.frN hs47
 refine qaj [5] [] [(2,.v (.string (bs ((uSp (uI16 σ) (aN 2 σ))))))] hW51 hE50 fun a53 hE54=>?_
 refine qae (qab ?_)
 refine wp_ret ?_
 refine qaG hE54 hW51.cells (v:=.string (bs ((uSp (uI16 σ) (aN 2 σ))))) kz ?_
 refine ⟨_,_,_,_,rfl,Str.of hW51 0 rfl,((hr45.move hF52.step immM hF52.to').move (Step.refl _ Nil) nilM qcm),hW51.step,rfl⟩
theorem qfe {ev:Value} {br:Nat} {A:Option Addr} {m c:Nat} {w:World} {F:Nat → Nat → Prop} (hst:Str w br [.slice A m c,.bool true]) (hg:AtF w F 1 0 [ev]) (hFd:∀ b o,F b o → ¬ RdM br b o) :
  Calls Tryd.prog 81 #[.pointer (some ⟨br,0,none⟩)] w (fun e w'=>e = .returned ev ∧ w' = w):=by
 refine enter (n:=8) Tryd.func81 rfl Tryd.ntmps81 kz fun a hE=>?_
 have hW:WOk w (RdM br) w [⟨br,0,[.slice A m c,.bool true],true⟩] []:=WOk.startStr hst
 have hE1:=(hE.grow ⟨br,0,[.slice A m c,.bool true],true⟩).recast 0 (.v (.pointer (some ⟨br,0,none⟩))) (.p 0 0) rfl rfl (Nat.le_of_ble_eq_true (n:=1) rfl)
 refine qaq [(0,.p 0 0)] hW hE1 fun a1 hE2=>?_
 refine wp_seq ?_
 refine qaq [(6,.v (.bool true))] hW hE2 fun a3 hE4=>?_
 refine qbb hE4 (b:=true) kz rfl ?_
 refine qad [0,1] kz ?_
 refine qal (qa2 hE4 (t:=54) (b:=1) (o:=0) (d:=7) kz (cs:=[ev]) (v:=ev) kz (AtF.move hg hW.step (fun b_ o_ h_ _=>hFd b_ o_ h_) qbw).at_ fun a5 hE6=>?_)
 refine qaj [1] [] [(2,.v (ev))] hW hE6 fun a7 hE8=>?_
 refine qae (qab ?_)
 refine wp_ret ?_
 refine qax ?_
 refine qaG hE8 hW.cells (v:=ev) kz ?_
 exact ⟨rfl,rfl⟩
theorem qhf (σ:Sg):RPrim0U Tryd.prog 79 σ (aStr σ) (.string (bs (uStr σ))):=⟨mn_Str.len σ,fun hst hr hF=>qgD σ hst hr hF⟩
theorem qd0 (σ:Sg):RPrim0U Tryd.prog 78 σ (aStr σ) (.string (bs (uStr σ))):=⟨mn_Str.len σ,fun hst hr hF=>qdw σ hst hr hF⟩
section
variable {P:Program} {ops:Array Oper} {Q:Exit → Act → World → Prop} {n:Nat} {tb:Tb} {env:Env} {rs:List Rw} {w0:World} {M:Nat → Nat → Prop} {a:Act} {w:World}
theorem qff {i d j:Nat} {t e:TypeId} {size bytes:Nat} (z:Value) (cs:List Value) {N:Act → World → Prop} (hW:WOk w0 M w tb rs) (hE:EnvOk n tb env a)
  (K:∀ b a' w',b = w.heap.size → w0.heap.size ≤ b → Fr w tb rs w' (tb ++ [⟨b,0,cs,true⟩]) rs → WOk w0 M w' (tb ++ [⟨b,0,cs,true⟩]) rs → EnvOk n (tb ++ [⟨b,0,cs,true⟩]) ((d,.v (.slice (some ⟨b,0,none⟩) j j)) :: env) a' → N a' w')
  (h:qgl env ops n i = some (t,((j:Nat):Int),((j:Nat):Int),d):=by kernel_rfl) (ht:qcc P t = some (e,size,bytes):=by kernel_rfl) (hz:(P.info? e).bind (·.zero) = some z:=by kernel_rfl) (hcs:(madeCells z.cells (j * size)).toList = cs:=by kernel_rfl) (hb:Nat.ble (bytes * j) 1000000 = true:=by kernel_rfl):wpOp P ops Q i N a w:=by
 obtain ⟨ht',inf,z',hi,hz',hzs,hs1,rfl,hsz,hbp⟩:=qbI ht
 obtain ⟨op,ho,hd,kl,kc,hrun⟩:=qeI (P:=P) (w:=w) hE h
 have hzz:z' = z:=by rw [hi] at hz; simp only [Option.bind_some,hz',Option.some.injEq] at hz; exact hz
 subst hzz
 have hb':=Nat.le_of_ble_eq_true hb
 have hjm:j ≤ 1000000:=by
  have:=Nat.le_mul_of_pos_left j hbp
  omega
 have hr:=run_make (P:=P) w t e inf z' ht' hi hz' kl kc (j:Int) (j:Int) (by omega) (Int.le_refl _) (by
  have:((inf.bytes * j:Nat):Int) ≤ 281474976710656:=by omega
  rwa [Int.natCast_mul] at this) (by omega)
 simp only [Int.toNat_natCast,hs1] at hr
 have hca:madeCells z'.cells (j * size) = cs.toArray:=by rw [← hcs]
 rw [hca] at hr
 refine qaZ hE ho (fun o hop=>hrun o _ _ hop hr) ?_
 refine K w.heap.size _ _ rfl hW.step.size (Fr.alloc w tb rs _ cs true) (hW.alloc cs e) ?_
 exact (hE.put hd (.v (.slice (some ⟨w.heap.size,0,none⟩) j j)) trivial).grow _
theorem qdL {i d:Nat} {src dst e:TypeId} {s:ByteArray} {N:Act → World → Prop} (hW:WOk w0 M w tb rs) (hE:EnvOk n tb env a) (hsm:s.size ≤ 1099511627776)
  (K:∀ b c a' w',Fr w tb rs w' tb rs → WOk w0 M w' tb rs → (∀ G,Octs w' (Imm G w0 w' tb rs) (some ⟨b,0,none⟩) c (sb s)) → EnvOk n tb ((d,.v (.slice (some ⟨b,0,none⟩) (sb s).length c)) :: env) a' → N a' w')
  (h:qgx tb env ops n i = some (src,dst,.string s,d):=by kernel_rfl) (hs:P.underlying src = some .string:=by kernel_rfl) (hd:P.underlying dst = some (.slice e):=by kernel_rfl) (he:P.underlying e = some (.int .u8):=by kernel_rfl):wpOp P ops Q i N a w:=by
 unfold qgx at h
 split at h
 ·rename_i src' dst' x d' hop
  split at h
  ·rename_i v hx
   simp only [Option.some.injEq,Prod.mk.injEq] at h
   obtain ⟨rfl,rfl,rfl,rfl⟩:=h
   have hdn:=(qbi hE hop).choose_spec.2.2.2.1
   have hrun:=Lib.run_convert_string_bytes (P:=P) w src' dst' e s hs hd he
   have hst:Step w (Lib.bytesWorld w e s) Nil:=⟨rfl,rfl,by rw [Lib.bytesWorld_size]; omega,fun b hb=>by rw [Lib.bytesWorld_at_old w e s b hb]; exact Keeps.refl _ _⟩
   have hlen:(sb s).length = s.size:=qfw s
   have e1:=(qaN hE hx).1
   refine qaZ hE hop (v:=.slice (some ⟨w.heap.size,0,none⟩) (sb s).length (grownCap w s.size 0 e)) (w':=Lib.bytesWorld w e s) (fun o' ho'=>?_) (K w.heap.size _ _ _ (Fr.nil tb rs hst) (hW.next_nil hst) (fun G=>?_) (hE.put hdn (.v _) trivial))
   ·unfold execOp
    rw [ho']
    simp only [SV.val] at e1
    simp only [e1,Sem.run_bind,hrun,Result.andThen_ok,Sem.run_pure,hlen]
   refine ⟨by rw [hlen]; exact grownCap_ge w s.size 0 e,by rw [hlen]; exact hsm,fun h=>(by cases h),fun ad hA _=>?_⟩
   obtain rfl:=Option.some.inj hA
   refine ⟨w.heap.size,0,rfl,fun q hq=>⟨rfl,fun j v hj=>?_⟩⟩
   have hj0:j = 0:=by
    cases j with
    | zero=>rfl
    | succ j=>simp at hj
   subst hj0
   simp only [List.getElem?_cons_zero,Option.some.injEq] at hj
   subst hj
   have h2:(Lib.bytesWorld w e s).heap.size = w.heap.size + 1:=Lib.bytesWorld_size w e s
   refine ⟨⟨.inr hW.step.size,by rw [h2]; exact Nat.lt_succ_self _,fun ha=>?_⟩,?_⟩
   ·have:=hW.act_live ha
    exact absurd this (Nat.lt_irrefl _)
   rw [Nat.zero_add,Nat.mul_one,Nat.add_zero,Lib.bytesWorld_cell w e s q (by rw [← hlen]; exact hq)]
   rfl
  cases h
 cases h
end
theorem WOk.strOut {G:Nat → Nat → Prop} {w0 w:World} {tb:Tb} {rs:List Rw} {p:Nat} {cs:List Value} (tb':Tb) (hW:WOk w0 Nil w tb rs) (ht:tb' ++ [⟨p,0,cs,true⟩] = tb:=by rfl):AtF w (Imm G w0 w tb' rs) p 0 cs:=fun j v hj=>by
 subst ht
 have hi:(tb' ++ [(⟨p,0,cs,true⟩:Ob)])[tb'.length]? = some ⟨p,0,cs,true⟩:=by rw [List.getElem?_append_right (Nat.le_refl _),Nat.sub_self]; rfl
 have h1:=hW.cells _ _ hi j v hj
 have hlt:j < cs.length:=(List.getElem?_eq_some_iff.1 hj).1
 refine ⟨⟨?_,hW.live _ _ hi,fun ha=>?_⟩,h1⟩
 ·rcases (hW.rw_ _ _ hi rfl j hlt).1 with h2 | h2
  ·exact .inr h2
  exact h2.elim
 rcases ha with ⟨k,ob,h2,h3,h4,h5,h6⟩ | ⟨k,r,h2,h3⟩
 ·have hk:k < tb'.length:=(List.getElem?_eq_some_iff.1 h2).1
  have h7:(tb' ++ [(⟨p,0,cs,true⟩:Ob)])[k]? = some ob:=by rw [List.getElem?_append_left hk]; exact h2
  rcases hW.apart k _ ob _ (by omega) h7 hi (.inr rfl) with h8 | h8 | h8
  ·exact h8 h4
  ·simp only [Nat.zero_add] at h5 h6; simp only [Nat.le_zero] at h8; omega
  simp only [Nat.zero_add] at h5 h6 h8; omega
 exact hW.rtb k r h2 p h3 _ _ hi rfl
section
variable {w0 w:World} {tb:Tb} {rs:List Rw} {F:Nat → Nat → Prop}
theorem WOk.objFp (hW:WOk w0 Nil w tb rs) (i:Nat) {b:Nat} {cs:List Value} (hi:tb[i]? = some ⟨b,0,cs,true⟩):AtF w (Fp F w0) b 0 cs:=fun j v hj=>by
 have hlt:=(List.getElem?_eq_some_iff.1 hj).1
 refine ⟨?_,hW.cells i _ hi j v hj⟩
 rcases (hW.rw_ i _ hi rfl j hlt).1 with h | h
 ·exact .inr h
 exact h.elim
def TrL (w:World) (F:Nat → Nat → Prop):List (List Value) → List Tree → Prop
 | [],[]=>True
 | c :: cs,x :: xs=>TreeR w F c x ∧ TrL w F cs xs
 | _,_=>False
theorem TrL.move {w w':World} {F F' M:Nat → Nat → Prop} (hs:Step w w' M) (hM:∀ b o,F b o → b < w.heap.size → ¬ M b o) (hF:∀ b o,F b o → b < w.heap.size → F' b o):∀ {cs:List (List Value)} {l:List Tree},TrL w F cs l → TrL w' F' cs l
 | [],[],_=>trivial
 | _ :: _,_ :: _,h=>⟨h.1.move hs hM hF,TrL.move hs hM hF h.2⟩
 | [],_ :: _,h=>h.elim
 | _ :: _,[],h=>h.elim
theorem TrL.len:∀ {cs:List (List Value)} {l:List Tree},TrL w F cs l → cs.length = l.length
 | [],[],_=>rfl
 | _ :: _,_ :: _,h=>congrArg (· + 1) (TrL.len h.2)
 | [],_ :: _,h=>h.elim
 | _ :: _,[],h=>h.elim
theorem TrL.five:∀ {cs:List (List Value)} {l:List Tree},TrL w F cs l → ∀ c ∈ cs,c.length = 5
 | [],[],_=>fun c hc=>by cases hc
 | _ :: _,_ :: _,h=>fun c hc=>by
  rcases List.mem_cons.1 hc with rfl | hc
  ·exact h.1.five
  exact TrL.five h.2 c hc
 | [],_ :: _,h=>h.elim
 | _ :: _,[],h=>h.elim
theorem TrL.get:∀ {cs:List (List Value)} {l:List Tree},TrL w F cs l → ∀ (i:Nat) (x:Tree),l[i]? = some x → TreeR w F (cs.getD i []) x
 | [],[],_,i,x,hx=>by simp at hx
 | _ :: _,_ :: _,h,0,x,hx=>by
  simp only [List.getElem?_cons_zero,Option.some.injEq] at hx
  subst hx
  exact h.1
 | _ :: _,_ :: _,h,i + 1,x,hx=>TrL.get h.2 i x hx
 | [],_ :: _,h,_,_,_=>h.elim
 | _ :: _,[],h,_,_,_=>h.elim
theorem qhx {b:Nat}:∀ (css:List (List Value)) (o:Nat),AtF w F b o css.flatten → (∀ c ∈ css,c.length = 5) → ∀ i,i < css.length → (css.getD i []).length = 5 ∧ AtF w F b (o + i * 5) (css.getD i [])
 | [],o,h,hl,i,hi=>absurd hi (Nat.not_lt_zero _)
 | c :: r,o,h,hl,0,_=>⟨hl c List.mem_cons_self,fun j v hj=>by
   have hj':c[j]? = some v:=hj
   have:=h j v (by rw [List.flatten_cons,List.getElem?_append_left (List.getElem?_eq_some_iff.1 hj').1]; exact hj')
   rw [show o + 0 * 5 + j = o + j by omega]
   exact this⟩
 | c :: r,o,h,hl,i + 1,hi=>by
  have hc:=hl c List.mem_cons_self
  have:=qhx r (o + 5) (fun j v hj=>by
   have:=h (5 + j) v (by rw [List.flatten_cons,List.getElem?_append_right (by omega),show 5 + j - c.length = j by omega]; exact hj)
   rw [show o + 5 + j = o + (5 + j) by omega]
   exact this) (fun d hd=>hl d (List.mem_cons_of_mem _ hd)) i (by simpa using hi)
  rw [show o + (i + 1) * 5 = o + 5 + i * 5 by omega]
  exact this
theorem qfg {b:Nat} {css:List (List Value)} {l:List Tree} (h:AtF w F b 0 css.flatten) (hT:TrL w F css l) (hsm:l.length ≤ 1099511627776):Slots w F 5 (some ⟨b,0,none⟩) l.length l.length (fun i=>css.getD i []) :=
 ⟨Nat.le_refl _,hsm,fun h=>(by cases h),fun ad hA _=>⟨b,0,(Option.some.inj hA).symm,fun i hi=>qhx css 0 h hT.five i (by rw [hT.len]; exact hi)⟩⟩
theorem qgE (hW:WOk w0 Nil w tb rs) (i:Nat) {b n2 c3:Nat} {A3:Option Addr} {u:List (Int × Bs)} {css:List (List Value)} {cs:List Value} {l:List Tree} (hi:tb[i]? = some ⟨b,0,cs,true⟩) (hT':TrL w (Fp F w0) css l) (hU:TagsR w (Fp F w0) A3 c3 u) (hf:css.flatten = cs:=by rfl) (hl:l.length = n2:=by rfl) (hn:Nat.ble n2 1000000 = true:=by kernel_rfl) :
  qd5 w0 F (.mk 0 [] false l u) (.returned (.agg #[.int .i64 0,.slice none 0 0,.bool false,.slice (some ⟨b,0,none⟩) n2 n2,.slice A3 u.length c3])) w:=by
 subst hf
 subst hl
 have hn':=Nat.le_of_ble_eq_true hn
 exact ⟨_,rfl,TreeR.mk (s:=[]) _ (Octs.nil _ _) (qfg (hW.objFp i hi) hT' (by omega)) hT'.get hU,hW.step⟩
end
def qa1 (w:World) (F:Nat → Nat → Prop) (D:DV):Prop:=((D.f 0).s.size ≤ 1000000) ∧ ((D.f 1).s.size ≤ 1000000) ∧ (True) ∧ True
theorem qbs:qhF qa1:=by
 intro w w' F F' M d hs hM hF h
 unfold qa1 at h ⊢
 obtain ⟨g0,g1,g2,_⟩:=h
 exact ⟨g0,g1,g2,trivial⟩
def qbF (D:DV):Tree:=.mk 0 [] false [.mk 0 (sb (D.f 0).s) false [] [],.mk 0 (sb (D.f 1).s) false [] [],.mk (IntKind.i64.wrap (D.f 2).n) [] false [] []] []
theorem sHas (k x1 x2 x3 x4 x5 x6:Int) (fs:List Fld) (AF:Option Addr) (cF:Nat) (v:Int) (w:World) :
  Calls Tryd.prog 49 #[.agg #[.int .i64 k,.int .i64 x1,.int .i64 x2,.int .i64 x3,.int .i64 x4,.int .i64 x5,.int .i64 x6,.slice AF fs.length cF],.int .i64 v] w (qcd w (.bool (Fld.has (Fld.mk k x1 x2 x3 x4 x5 x6 fs) v))):=by
 refine enter (n:=20) Tryd.func49 rfl Tryd.ntmps49 kz fun a hE=>?_
 have hW:=WOk.start w Nil
 refine qad [0,1] kz ?_
 refine qal (qa5 hW hE (d:=2) (cs:=[.int .i64 k,.int .i64 x1,.int .i64 x2,.int .i64 x3,.int .i64 x4,.int .i64 x5,.int .i64 x6,.slice AF fs.length cF]) kz fun b1 a2 w3 hb4 hz5 hF6 hW7 hE8=>?_)
 refine qaj [1] [] [(1,.v (.int .i64 v)),(2,.p 0 0)] hW7 hE8 fun a9 af=>?_
 refine qae (qab ?_)
 refine qad [0,1,2,3,4,5,6,7,8,9,10,11,12,13,14,15] kz ?_
 refine qaj [0,1,2,3,4] [5,6,7,8,9,10,11,12,13,14,15] [(1,.v (.int .i64 v)),(2,.p 0 0),(9,.v (.bool (decide (x1 ≤ v))))] hW7 af fun av ac=>?_
 refine (Bool.eq_false_or_eq_true (decide (x1 ≤ v))).elim (fun aa=>?_) (fun aa=>?_)
 ·
  have ao:=of_decide_eq_true aa
  have ag:=ac.cast (env':=[(1,.v (.int .i64 v)),(2,.p 0 0),(9,.v (.bool true))]) (by rw [aa])
  refine qaj [5,6,7,8] [9,10,11,12,13,14,15] [(1,.v (.int .i64 v)),(2,.p 0 0),(9,.v (.bool true)),(13,.v (.bool (decide (x2 < 0))))] hW7 ag fun aw ae=>?_
  refine (Bool.eq_false_or_eq_true (decide (x2 < 0))).elim (fun ab=>?_) (fun ab=>?_)
  ·
   have ap:=of_decide_eq_true ab
   have ah:=ae.cast (env':=[(1,.v (.int .i64 v)),(2,.p 0 0),(9,.v (.bool true)),(13,.v (.bool true))]) (by rw [ab])
   refine qaj [9,10,11,12,13,14,15] [] [(4,.v (.bool true))] hW7 ah fun ax ai=>?_
   refine qae (qab ?_)
   refine wp_ret ?_
   refine qaG ai hW7.cells (v:=.bool true) kz ?_
   exact ⟨by simp only [Fld.has,aa,ab,Bool.true_and,Bool.and_true,Bool.false_and,Bool.and_false,Bool.true_or,Bool.false_or,Bool.or_true,Bool.or_false],hW7.step⟩
  have ar:=of_decide_eq_false ab
  have aj:=ae.cast (env':=[(1,.v (.int .i64 v)),(2,.p 0 0),(9,.v (.bool true)),(13,.v (.bool false))]) (by rw [ab])
  refine qaj [9,10,11,12,13,14,15] [] [(4,.v (.bool (decide (v ≤ x2))))] hW7 aj fun ay ak=>?_
  refine qae (qab ?_)
  refine wp_ret ?_
  refine qaG ak hW7.cells (v:=.bool (decide (v ≤ x2))) kz ?_
  exact ⟨by simp only [Fld.has,aa,ab,Bool.true_and,Bool.and_true,Bool.false_and,Bool.and_false,Bool.true_or,Bool.false_or,Bool.or_true,Bool.or_false],hW7.step⟩
 have au:=of_decide_eq_false aa
 have al:=ac.cast (env':=[(1,.v (.int .i64 v)),(2,.p 0 0),(9,.v (.bool false))]) (by rw [aa])
 refine qaj [5,6,7,8,9,10,11,12,13,14,15] [] [(4,.v (.bool false))] hW7 al fun az am=>?_
 refine qae (qab ?_)
 refine wp_ret ?_
 refine qaG am hW7.cells (v:=.bool false) kz ?_
 exact ⟨by simp only [Fld.has,aa,Bool.true_and,Bool.and_true,Bool.false_and,Bool.and_false,Bool.true_or,Bool.false_or,Bool.or_true,Bool.or_false],hW7.step⟩
theorem qhJ (k x1 x2 x3 x4 x5 x6:Int) (fs:List Fld) (AF:Option Addr) (cF:Nat) (v:Int) (n:Int) (s:Bs) (b:Bool) (l:List Tree) (u:List (Int × Bs)) (A1:Option Addr) (c1:Nat) (A2:Option Addr) (c2:Nat) (A3:Option Addr) (c3:Nat) (w:World) :
  Calls Tryd.prog 73 #[.agg #[.int .i64 k,.int .i64 x1,.int .i64 x2,.int .i64 x3,.int .i64 x4,.int .i64 x5,.int .i64 x6,.slice AF fs.length cF],.int .i64 v,.agg #[.int .i64 n,.slice A1 s.length c1,.bool b,.slice A2 l.length c2,.slice A3 u.length c3]] w (qcd w (.bool (Fld.nul (Fld.mk k x1 x2 x3 x4 x5 x6 fs) v (Tree.mk n s b l u)))):=by
 refine enter (n:=20) Tryd.func73 rfl Tryd.ntmps73 kz fun a hE=>?_
 have hW:=WOk.start w Nil
 refine qad [0,1,2] kz ?_
 refine qal (qa5 hW hE (d:=3) (cs:=[.int .i64 k,.int .i64 x1,.int .i64 x2,.int .i64 x3,.int .i64 x4,.int .i64 x5,.int .i64 x6,.slice AF fs.length cF]) kz fun b1 a2 w3 hb4 hz5 hF6 hW7 hE8=>?_)
 refine qal (qa5 hW7 hE8 (d:=5) (cs:=[.int .i64 n,.slice A1 s.length c1,.bool b,.slice A2 l.length c2,.slice A3 u.length c3]) kz fun b9 ay az ar au av aa ag=>?_)
 refine qaj [2] [] [(1,.v (.int .i64 v)),(3,.p 0 0),(5,.p 1 0)] aa ag fun aA ah=>?_
 refine qae (qab ?_)
 refine qad [0,1,2,3,4,5,6,7,8,9,10,11,12,13] kz ?_
 refine qaj [0,1,2] [3,4,5,6,7,8,9,10,11,12,13] [(1,.v (.int .i64 v)),(3,.p 0 0),(9,.v (.bool b))] aa ah fun aB ae=>?_
 refine (Bool.eq_false_or_eq_true (b)).elim (fun ac=>?_) (fun ac=>?_)
 ·
  have ai:=ae.cast (env':=[(1,.v (.int .i64 v)),(3,.p 0 0),(9,.v (.bool true))]) (by rw [ac])
  refine qaj [3,4,5,6,7] [8,9,10,11,12,13] [(1,.v (.int .i64 v)),(3,.p 0 0),(14,.v (.bool (decide (x3 ≥ 0))))] aa ai fun aC af=>?_
  refine (Bool.eq_false_or_eq_true (decide (x3 ≥ 0))).elim (fun ab=>?_) (fun ab=>?_)
  ·
   have aw:=of_decide_eq_true ab
   have aj:=af.cast (env':=[(1,.v (.int .i64 v)),(3,.p 0 0),(14,.v (.bool true))]) (by rw [ab])
   refine qaj [8,9,10,11,12,13] [] [(6,.v (.bool (decide (v ≥ x3))))] aa aj fun aD ak=>?_
   refine qae (qab ?_)
   refine wp_ret ?_
   refine qaG ak aa.cells (v:=.bool (decide (v ≥ x3))) kz ?_
   exact ⟨by simp only [Fld.nul,ac,ab,Bool.true_and,Bool.and_true,Bool.false_and,Bool.and_false,Bool.true_or,Bool.false_or,Bool.or_true,Bool.or_false],aa.step⟩
  have ax:=of_decide_eq_false ab
  have al:=af.cast (env':=[(1,.v (.int .i64 v)),(3,.p 0 0),(14,.v (.bool false))]) (by rw [ab])
  refine qaj [8,9,10,11,12,13] [] [(6,.v (.bool false))] aa al fun aE am=>?_
  refine qae (qab ?_)
  refine wp_ret ?_
  refine qaG am aa.cells (v:=.bool false) kz ?_
  exact ⟨by simp only [Fld.nul,ac,ab,Bool.true_and,Bool.and_true,Bool.false_and,Bool.and_false,Bool.true_or,Bool.false_or,Bool.or_true,Bool.or_false],aa.step⟩
 have ao:=ae.cast (env':=[(1,.v (.int .i64 v)),(3,.p 0 0),(9,.v (.bool false))]) (by rw [ac])
 refine qaj [3,4,5,6,7,8,9,10,11,12,13] [] [(6,.v (.bool false))] aa ao fun aF ap=>?_
 refine qae (qab ?_)
 refine wp_ret ?_
 refine qaG ap aa.cells (v:=.bool false) kz ?_
 exact ⟨by simp only [Fld.nul,ac,Bool.true_and,Bool.and_true,Bool.false_and,Bool.and_false,Bool.true_or,Bool.false_or,Bool.or_true,Bool.or_false],aa.step⟩
theorem qf5 (k:Int) (w:World):Calls Tryd.prog 72 #[.int .i64 k] w (qcd w (.int .i64 ((qa6 k:Nat):Int))):=by
 refine enter (n:=11) Tryd.func72 rfl Tryd.ntmps72 kz fun a hE=>?_
 have hW:=WOk.start w Nil
 refine qaq [(0,.v (.int .i64 k))] hW hE fun a1 hE2=>?_
 refine wp_seq ?_
 refine qaq [(3,.v (.int .i64 k))] hW hE2 fun a3 hE4=>?_
 refine wp_block ?_
 refine qaq [(3,.v (.int .i64 k)),(4,.v (.bool (k == 1)))] hW hE4 fun a5 hE6=>?_
 refine qaA hE6 (b:=k == 1) kz (fun hc7=>?_) (fun hc7=>?_)
 ·
  have hf8:k = 1:=by simpa using hc7
  refine qaq [(2,.v (.int .i64 1))] hW hE6 fun a9 ah=>?_
  refine wp_ret ?_
  refine qaI ?_
  refine qax ?_
  refine qaG ah hW.cells (v:=.int .i64 1) kz ?_
  exact ⟨by simp_all [qa6],hW.step⟩
 have am:k ≠ 1:=by simpa using hc7
 refine wp_seq ?_
 refine qaq [(3,.v (.int .i64 k)),(6,.v (.bool (k == 2)))] hW hE6 fun ax aa=>?_
 refine qaA aa (b:=k == 2) kz (fun ab=>?_) (fun ab=>?_)
 ·
  have ao:k = 2:=by simpa using ab
  refine wp_skip ?_
  refine qab ?_
  refine qbb aa (b:=k == 2) kz (ab) ?_
  refine qaq [(2,.v (.int .i64 2))] hW aa fun ay ai=>?_
  refine wp_ret ?_
  refine qaI ?_
  refine qax ?_
  refine qaG ai hW.cells (v:=.int .i64 2) kz ?_
  exact ⟨by simp_all [qa6],hW.step⟩
 have ap:k ≠ 2:=by simpa using ab
 refine qar [0,1] kz ?_
 refine qaj [0,1] [] [(3,.v (.int .i64 k)),(6,.v (.bool (k == 5)))] hW aa fun az ac=>?_
 refine qae (qab ?_)
 refine qaA ac (b:=k == 5) kz (fun ae=>?_) (fun ae=>?_)
 ·
  have ar:k = 5:=by simpa using ae
  refine qaq [(2,.v (.int .i64 2))] hW ac fun aA aj=>?_
  refine wp_ret ?_
  refine qaI ?_
  refine qax ?_
  refine qaG aj hW.cells (v:=.int .i64 2) kz ?_
  exact ⟨by simp_all [qa6],hW.step⟩
 have au:k ≠ 5:=by simpa using ae
 refine qaq [(9,.v (.bool (k == 3)))] hW ac fun aB af=>?_
 refine qaA af (b:=k == 3) kz (fun ag=>?_) (fun ag=>?_)
 ·
  have av:k = 3:=by simpa using ag
  refine qaq [(2,.v (.int .i64 4))] hW af fun aC ak=>?_
  refine wp_ret ?_
  refine qaI ?_
  refine qax ?_
  refine qaG ak hW.cells (v:=.int .i64 4) kz ?_
  exact ⟨by simp_all [qa6],hW.step⟩
 have aw:k ≠ 3:=by simpa using ag
 refine wp_skip ?_
 refine qau ?_
 refine qab ?_
 refine qaq [(2,.v (.int .i64 8))] hW af fun aD al=>?_
 refine wp_ret ?_
 refine qaG al hW.cells (v:=.int .i64 8) kz ?_
 exact ⟨by simp_all [qa6],hW.step⟩
theorem qf6 (A:Option Addr) (c:Nat) (s:Bs) (hc:s.length ≤ c) (w:World) :
  Calls Tryd.prog 54 #[.slice A s.length c] w (qcd w (.slice A (qas s).length c)):=by
 refine enter (n:=8) Tryd.func54 rfl Tryd.ntmps54 kz fun a hE=>?_
 have hW:=WOk.start w Nil
 refine qaq [(0,.v (.slice A s.length c))] hW hE fun a1 hE2=>?_
 refine qad [0,1,2,3,4,5] kz ?_
 refine qaj [0,1,2,3] [4,5] [(3,.v (.slice A s.length c)),(6,.v (.int .i64 (if 32767 < ((s.length:Nat):Int) then 32767 else ((s.length:Nat):Int))))] hW hE2 fun a3 hE4=>?_
 refine qal (qcG hE4 (t:=22) (A:=A) (m:=s.length) (cp:=c) (q:=(if 32767 < ((s.length:Nat):Int) then 32767 else ((s.length:Nat):Int))) (d:=7) (j:=(qas s).length) kz (e:=5) (size:=1) (bytes:=1) kz (by simpa [qas] using qeo s.length) (by simp only [qas,List.length_take]; omega) fun a5 hE6=>?_)
 refine qaj [5] [] [(2,.v (.slice A ((qas s).length) c))] hW hE6 fun a7 hE8=>?_
 refine qae (qab ?_)
 refine wp_ret ?_
 refine qaG hE8 hW.cells (v:=.slice A ((qas s).length) c) kz ?_
 exact ⟨rfl,hW.step⟩
theorem qhg (A:Option Addr) (c:Nat) (s:List Tree) (hc:s.length ≤ c) (w:World) :
  Calls Tryd.prog 74 #[.slice A s.length c] w (qcd w (.slice A (qao s).length c)):=by
 refine enter (n:=8) Tryd.func74 rfl Tryd.ntmps74 kz fun a hE=>?_
 have hW:=WOk.start w Nil
 refine qaq [(0,.v (.slice A s.length c))] hW hE fun a1 hE2=>?_
 refine qad [0,1,2,3,4,5] kz ?_
 refine qaj [0,1,2,3] [4,5] [(3,.v (.slice A s.length c)),(6,.v (.int .i64 (if 32767 < ((s.length:Nat):Int) then 32767 else ((s.length:Nat):Int))))] hW hE2 fun a3 hE4=>?_
 refine qal (qcG hE4 (t:=34) (A:=A) (m:=s.length) (cp:=c) (q:=(if 32767 < ((s.length:Nat):Int) then 32767 else ((s.length:Nat):Int))) (d:=7) (j:=(qao s).length) kz (e:=37) (size:=5) (bytes:=88) kz (by simpa [qao] using qeo s.length) (by simp only [qao,List.length_take]; omega) fun a5 hE6=>?_)
 refine qaj [5] [] [(2,.v (.slice A ((qao s).length) c))] hW hE6 fun a7 hE8=>?_
 refine qae (qab ?_)
 refine wp_ret ?_
 refine qaG hE8 hW.cells (v:=.slice A ((qao s).length) c) kz ?_
 exact ⟨rfl,hW.step⟩
theorem qhh (A A':Option Addr) (c c':Nat) (s t:Bs) (w:World) (F:Nat → Nat → Prop) (hs:Octs w F A c s) (ht:Octs w F A' c' t) :
  Calls Tryd.prog 31 #[.slice A s.length c,.slice A' t.length c'] w (qcd w (.bool (decide (s = t)))):=by
 refine enter (n:=26) Tryd.func31 rfl Tryd.ntmps31 kz fun a hE=>?_
 have hW:=WOk.start w Nil
 have hl:=Slots.small hs
 refine qaq [(0,.v (.slice A s.length c)),(1,.v (.slice A' t.length c'))] hW hE fun a1 hE2=>?_
 refine wp_seq ?_
 refine qaq [(0,.v (.slice A s.length c)),(1,.v (.slice A' t.length c')),(10,.v (.bool (((s.length:Nat):Int) != ((t.length:Nat):Int))))] hW hE2 fun a3 hE4=>?_
 refine qaA hE4 (b:=((s.length:Nat):Int) != ((t.length:Nat):Int)) kz (fun hc5=>?_) (fun hc5=>?_)
 ·
  have hf6:((s.length:Nat):Int) ≠ ((t.length:Nat):Int):=by simpa using hc5
  refine qaq [(4,.v (.bool false))] hW hE4 fun a7 hE8=>?_
  refine wp_ret ?_
  refine qax ?_
  refine qaG hE8 hW.cells (v:=.bool false) kz ?_
  exact ⟨by first | rw [← qdT hq (by omega) hlen] | rw [← qep ‹_›] | rw [← qdS ‹_›],hW.step⟩
 have hf9:((s.length:Nat):Int) = ((t.length:Nat):Int):=by simpa using hc5
 refine wp_skip ?_
 refine qab ?_
 refine wp_seq ?_
 refine qaq [(0,.v (.slice A s.length c)),(1,.v (.slice A' t.length c')),(12,.v (.int .i64 ((s.length:Nat):Int))),(13,.v (.int .i64 0))] hW hE4 fun aQ ak=>?_
 refine wp_block ?_
 have hlen:s.length = t.length:=by omega
 refine wp_loop_ghost (fun n_ a_ w_=>∃ (k:Nat),n_ = s.length - k ∧ k ≤ s.length ∧ (s.take k = t.take k) ∧ LInv hW 26 [] [] [(0,.v (.slice A s.length c)),(1,.v (.slice A' t.length c')),(12,.v (.int .i64 ((s.length:Nat):Int))),(13,.v (.int .i64 ((k:Nat):Int)))] a_ w_) (s.length) ⟨0,by omega,by omega,rfl,ak.pk,hW,Fr.refl _ _ _⟩ ?_
 rintro aR aS aT ⟨k,aD,aE,hq,al,ab,am⟩
 refine qaq [(0,.v (.slice A s.length c)),(1,.v (.slice A' t.length c')),(12,.v (.int .i64 ((s.length:Nat):Int))),(13,.v (.int .i64 ((k:Nat):Int))),(14,.v (.bool (decide (((k:Nat):Int) < ((s.length:Nat):Int)))))] ab al fun aU ac=>?_
 refine wp_seq ?_
 refine qaA ac (b:=decide (((k:Nat):Int) < ((s.length:Nat):Int))) kz (fun ae=>?_) (fun ae=>?_)
 ·
  have aF:=of_decide_eq_true ae
  refine wp_skip ?_
  refine qab ?_
  refine wp_seq ?_
  refine wp_block ?_
  refine qaq [(0,.v (.slice A s.length c)),(1,.v (.slice A' t.length c')),(5,.v (.int .i64 ((k:Nat):Int))),(12,.v (.int .i64 ((s.length:Nat):Int))),(13,.v (.int .i64 ((k:Nat):Int)))] ab ac fun aV ao=>?_
  refine qby kz ab fun aW ap aa=>?_
  refine qaH [0,1,4,5] [(0,.v (.slice A s.length c)),(1,.v (.slice A' t.length c')),(12,.v (.int .i64 ((s.length:Nat):Int))),(13,.v (.int .i64 ((k:Nat):Int))),(16,.v (.slice A s.length c)),(17,.v (.int .i64 ((k:Nat):Int))),(20,.v (.slice A' t.length c')),(21,.v (.int .i64 ((k:Nat):Int)))] 5 (qaa (qac (qaa (qaa (qac (qaa qaf)))))) (fun _ h=>h ▸ aa.cells) rfl ao fun aX ar=>?_
  obtain ⟨aG,aH,au,aI,ah⟩:=Slots.get hs (i:=k) (by omega)
  refine qaO ar (i:=2) (t:=22) (A:=A) (m:=s.length) (q:=((k:Nat):Int)) (d:=18) kz (e:=5) (size:=1) (bytes:=1) kz au rfl (by omega) kz kz (qaa (qac (qaa (qaa (qac (qaa qaf)))))) rfl fun aY av=>?_
  refine qaV av (i:=3) (t:=5) (b:=aG) (o:=aH + k * 1) (d:=19) kz (cs:=[.int .u8 ((s.getD k 0).toNat:Int)]) (v:=.int .u8 ((s.getD k 0).toNat:Int)) kz (fun w' h'=>h' ▸ (AtF.move ah aa.step nilM qbw).at_) kz kz (qaa (qac (qaa (qaa (qac (qaa qaf)))))) rfl fun aZ aw=>?_
  obtain ⟨aJ,aK,ax,aL,ai⟩:=Slots.get ht (i:=k) (by omega)
  refine qaO aw (i:=6) (t:=22) (A:=A') (m:=t.length) (q:=((k:Nat):Int)) (d:=22) kz (e:=5) (size:=1) (bytes:=1) kz ax rfl (by omega) kz kz (qaa (qac (qaa (qaa (qac (qaa qaf)))))) rfl fun ba ay=>?_
  refine qaV ay (i:=7) (t:=5) (b:=aJ) (o:=aK + k * 1) (d:=23) kz (cs:=[.int .u8 ((t.getD k 0).toNat:Int)]) (v:=.int .u8 ((t.getD k 0).toNat:Int)) kz (fun w' h'=>h' ▸ (AtF.move ai aa.step nilM qbw).at_) kz kz (qaa (qac (qaa (qaa (qac (qaa qaf)))))) rfl fun bf az=>?_
  refine qaH [8] [(0,.v (.slice A s.length c)),(1,.v (.slice A' t.length c')),(12,.v (.int .i64 ((s.length:Nat):Int))),(13,.v (.int .i64 ((k:Nat):Int))),(24,.v (.bool (((s.getD k 0).toNat:Int) != ((t.getD k 0).toNat:Int))))] 0 (qaa (qac (qaa (qaa (qac (qaa qaf)))))) (fun _ h=>h ▸ aa.cells) rfl az fun bg af=>?_
  refine qaL kz ?_ _
  refine qab ?_
  refine qaA af (b:=((s.getD k 0).toNat:Int) != ((t.getD k 0).toNat:Int)) kz (fun ag=>?_) (fun ag=>?_)
  ·
   have aM:((s.getD k 0).toNat:Int) ≠ ((t.getD k 0).toNat:Int):=by simpa using ag
   refine qaq [(4,.v (.bool false))] aa af fun bh aA=>?_
   refine wp_ret ?_
   refine qaI ?_
   refine qax ?_
   refine qax ?_
   refine qaI ?_
   refine qax ?_
   refine qaG aA aa.cells (v:=.bool false) kz ?_
   exact ⟨by first | rw [← qdT hq (by omega) hlen] | rw [← qep ‹_›] | rw [← qdS ‹_›],aa.step⟩
  have aO:((s.getD k 0).toNat:Int) = ((t.getD k 0).toNat:Int):=by simpa using ag
  refine wp_skip ?_
  refine qau ?_
  refine qab ?_
  refine qar [0,1] kz ?_
  refine qaj [0,1] [] [(0,.v (.slice A s.length c)),(1,.v (.slice A' t.length c')),(12,.v (.int .i64 ((s.length:Nat):Int))),(13,.v (.int .i64 (IntKind.i64.wrap (((k:Nat):Int) + 1))))] aa af fun bi aj=>?_
  refine qae (qab ?_)
  have aB:IntKind.i64.wrap (((k:Nat):Int) + 1) = ((k + 1:Nat):Int):=qaR (by omega)
  rw [aB] at aj
  exact ⟨s.length - (k + 1),by omega,k + 1,rfl,by omega,qft hq (by omega) hlen ‹_›,aj.pk,aa,(am.trans ap)⟩
 have aP:=of_decide_eq_false ae
 refine wp_exit ?_
 refine qav ?_
 refine qav ?_
 refine qaM ?_
 refine qab ?_
 refine qaq [(4,.v (.bool true))] ab ac fun bj aC=>?_
 refine wp_ret ?_
 refine qaG aC ab.cells (v:=.bool true) kz ?_
 exact ⟨by first | rw [← qdT hq (by omega) hlen] | rw [← qep ‹_›] | rw [← qdS ‹_›],ab.step⟩
theorem sAt (ct:List Value) (t:Tree) (i:Nat) (w:World) (F:Nat → Nat → Prop) (ht:TreeR w F ct t) :
  Calls Tryd.prog 48 #[.agg ct.toArray,.int .i64 (i:Int)] w (qhn w F (t.at_ i)):=by
 obtain ⟨n1,s2,b3,l4,u5,A6,c7,A8,c9,aP,aQ,aR,rfl,rfl,aS,aJ,aT,bt⟩:=ht.open_
 have aK:=aS.small
 have aL:=aJ.small
 refine enter (n:=16) Tryd.func48 rfl Tryd.ntmps48 kz fun a hE=>?_
 have hW:=WOk.start w Nil
 refine qad [0,1] kz ?_
 refine qal (qa5 hW hE (d:=2) (cs:=[.int .i64 n1,.slice A6 s2.length c7,.bool b3,.slice A8 l4.length c9,.slice aP u5.length aQ]) kz fun bu bw bx aU aV aW az aA=>?_)
 refine qal (qat az aA (d:=4) (cs:=[.int .i64 0,.slice none 0 0,.bool false,.slice none 0 0,.slice none 0 0]) kz fun bz bA bB aX aY aZ aa aB=>?_)
 refine qae (qab ?_)
 refine wp_seq ?_
 refine qaq [(1,.v (.int .i64 ((i:Nat):Int))),(2,.p 0 0),(4,.p 1 0),(9,.v (.bool (decide (((i:Nat):Int) < ((l4.length:Nat):Int)))))] aa aB fun bC ae=>?_
 refine qaA ae (b:=decide (((i:Nat):Int) < ((l4.length:Nat):Int))) kz (fun af=>?_) (fun af=>?_)
 ·
  have ba:=of_decide_eq_true af
  refine qad [0,1,2,3,4,5] kz ?_
  refine qaj [0,1,2] [3,4,5] [(4,.p 1 0),(11,.v (.slice A8 l4.length c9)),(12,.v (.int .i64 ((i:Nat):Int)))] aa ae fun bD aC=>?_
  obtain ⟨bf,bg,aD,bh,ab⟩:=Slots.get aJ (i:=i) (by omega)
  obtain ⟨bi,ah⟩:∃ x,l4[i]? = some x:=⟨_,List.getElem?_eq_getElem (by omega)⟩
  have ag:=aT i bi ah
  obtain ⟨ak,al,am,ao,ap,ar,au,av,aw,ax,ay,bj,rfl,ac,bk,bn,bE,bF⟩:=ag.open_
  rw [ac] at ag
  have aM:=bk.small
  have aO:=bn.small
  rw [ac] at ab
  refine qal (qaW aC (t:=34) (A:=A8) (m:=l4.length) (q:=((i:Nat):Int)) (d:=13) kz (e:=37) (size:=5) (bytes:=88) kz aD rfl (by omega) fun bG aE=>?_)
  refine qal (qa2 aE (t:=37) (b:=bf) (o:=bg + i * 5) (d:=14) kz (cs:=[.int .i64 ak,.slice ar al.length au,.bool am,.slice av ao.length aw,.slice ax ap.length ay]) (v:=.agg #[.int .i64 ak,.slice ar al.length au,.bool am,.slice av ao.length aw,.slice ax ap.length ay]) kz (AtF.move ab aa.step nilM qbw).at_ fun bH aF=>?_)
  refine qal (qan aa aF (oi:=1) (cs:=[.int .i64 ak,.slice ar al.length au,.bool am,.slice av ao.length aw,.slice ax ap.length ay]) kz fun bI bo ai aG=>?_)
  refine qae (qab ?_)
  refine wp_ret ?_
  refine qax ?_
  refine qaG aG ai.cells (v:=.agg #[.int .i64 ak,.slice ar al.length au,.bool am,.slice av ao.length aw,.slice ax ap.length ay]) kz ?_
  exact ⟨_,rfl,by rw [qg6 ah]; exact ag,ai.step⟩
 have bp:=of_decide_eq_false af
 refine wp_skip ?_
 refine qab ?_
 refine qad [0,1] kz ?_
 refine qaj [0] [1] [(4,.p 1 0),(15,.v (.agg #[.int .i64 0,.slice none 0 0,.bool false,.slice none 0 0,.slice none 0 0]))] aa ae fun bJ aH=>?_
 refine qal (qan aa aH (oi:=1) (cs:=[.int .i64 0,.slice none 0 0,.bool false,.slice none 0 0,.slice none 0 0]) kz fun bK bq aj aI=>?_)
 refine qae (qab ?_)
 refine wp_ret ?_
 refine qaG aI aj.cells (v:=.agg #[.int .i64 0,.slice none 0 0,.bool false,.slice none 0 0,.slice none 0 0]) kz ?_
 exact ⟨_,rfl,by rw [qg7 (by omega)]; exact TreeR.zero _ _,aj.step⟩
theorem qc8 (x:Int) (size:Nat) (hsz:size ≤ 8) (w:World) :
  Calls Tryd.prog 28 #[.int .i64 x,.int .i64 ((size:Nat):Int)] w (qcl w 5 (be size x)):=by
 refine enter (n:=22) Tryd.func28 rfl Tryd.ntmps28 kz fun a hE=>?_
 have hW:=WOk.start w Nil
 refine qaq [(0,.v (.int .i64 x)),(1,.v (.int .i64 ((size:Nat):Int)))] hW hE fun a1 hE2=>?_
 refine qaq [(0,.v (.int .i64 x)),(1,.v (.int .i64 ((size:Nat):Int))),(5,.v (.slice none 0 0))] hW hE2 fun a3 hE4=>?_
 refine wp_seq ?_
 refine qaq [(0,.v (.int .i64 x)),(5,.v (.slice none 0 0)),(6,.v (.int .i64 (IntKind.i64.wrap (((size:Nat):Int) - 1))))] hW hE4 fun a5 hE6=>?_
 refine wp_block ?_
 have hW7:=hW.addNil 5 1
 have hF8:=hW.frNil 5 1
 have aj:IntKind.i64.wrap (((size:Nat):Int) - 1) = ((size:Nat):Int) - 1 - ((0:Nat):Int):=by rw [wrap_i64 (by omega) (by omega)]; omega
 rw [aj] at hE6
 refine wp_loop_ghost (fun n_ a_ w_=>∃ (k:Nat) (A:Option Addr) (c:Nat),n_ = size - k ∧ k ≤ size ∧ LInv hW7 22 [] [brow A c 5 ((be size x).take k)] [(0,.v (.int .i64 x)),(5,.v (.slice A (((be size x).take k).length) c)),(6,.v (.int .i64 (((size:Nat):Int) - 1 - ((k:Nat):Int))))] a_ w_) (size) ⟨0,none,0,by omega,by omega,hE6.pk,hW7,Fr.refl _ _ _⟩ ?_
 rintro n9 aK aL ⟨k,A,c,aG,aH,ak,aa,al⟩
 refine wp_seq ?_
 refine qaq [(0,.v (.int .i64 x)),(5,.v (.slice A (((be size x).take k).length) c)),(6,.v (.int .i64 (((size:Nat):Int) - 1 - ((k:Nat):Int)))),(10,.v (.bool (decide ((((size:Nat):Int) - 1 - ((k:Nat):Int)) ≥ 0))))] aa ak fun aM ae=>?_
 refine qaA ae (b:=decide ((((size:Nat):Int) - 1 - ((k:Nat):Int)) ≥ 0)) kz (fun af=>?_) (fun af=>?_)
 ·
  have aI:=of_decide_eq_true af
  refine wp_skip ?_
  refine qab ?_
  refine wp_seq ?_
  refine wp_block ?_
  refine qar [0,1,2,3,4,5,6,7,8] kz ?_
  refine qaj [0,1,2,3] [4,5,6,7,8] [(0,.v (.int .i64 x)),(6,.v (.int .i64 (((size:Nat):Int) - 1 - ((k:Nat):Int)))),(13,.v (.slice A (((be size x).take k).length) c)),(14,.v (.int .i64 x)),(16,.v (.int .i64 (IntKind.i64.wrap (8 * (((size:Nat):Int) - 1 - ((k:Nat):Int))))))] aa ae fun aO am=>?_
  refine qal (qgh am (k:=.i64) (p:=x) (q:=(IntKind.i64.wrap (8 * (((size:Nat):Int) - 1 - ((k:Nat):Int))))) (d:=17) (j:=8 * (size - 1 - k)) kz (by rw [wrap_i64 (by omega) (by omega)]; omega) (by simp only [IntKind.bits]; omega) fun aP ao=>?_)
  refine qaj [5] [6,7,8] [(0,.v (.int .i64 x)),(6,.v (.int .i64 (((size:Nat):Int) - 1 - ((k:Nat):Int)))),(13,.v (.slice A (((be size x).take k).length) c)),(18,.v (.int .u8 (IntKind.u8.wrap (x / 2 ^ (8 * (size - 1 - k))))))] aa ao fun aQ ap=>?_
  refine qbK aa ap (k:=0) (e:=5) (size:=1) (len:=1) (cs:=[.int .u8 (IntKind.u8.wrap (x / 2 ^ (8 * (size - 1 - k))))]) (d1:=19) (d:=20) kz (t:=22) (bytes:=1) kz (fun _=>by kernel_rfl) rfl kz (by first | (have:=hroom; omega) | (simp; done) | (simp; omega)) fun ab ac aR aS ar au ⟨_,av⟩=>?_
  have aw:(⟨ab,ac,5,1,((be size x).take k).length + 1,bc ((be size x).take k) ++ [.int .u8 (IntKind.u8.wrap (x / 2 ^ (8 * (size - 1 - k))))]⟩:Rw) = brow ab ac 5 ((be size x).take k ++ [by8 (x / 2 ^ (8 * (size - 1 - k)))]):=qbj (by simp only [bc,List.map,qcW]; try rfl) rfl
  obtain ⟨ag,ax⟩:=au.rowEq 0 [brow ab ac 5 ((be size x).take k ++ [by8 (x / 2 ^ (8 * (size - 1 - k)))])] aw
  have ay:=EnvOk.pick av (ks:=[0,6,13,18,20]) (env':=[(0,.v (.int .i64 x)),(6,.v (.int .i64 (((size:Nat):Int) - 1 - ((k:Nat):Int)))),(13,.v (.slice A (((be size x).take k).length) c)),(18,.v (.int .u8 (IntKind.u8.wrap (x / 2 ^ (8 * (size - 1 - k)))))),(20,.v (.slice ab (((be size x).take k).length + 1) ac))]) kz
  have az:=ay.cast (env':=[(0,.v (.int .i64 x)),(6,.v (.int .i64 (((size:Nat):Int) - 1 - ((k:Nat):Int)))),(13,.v (.slice A (((be size x).take k).length) c)),(18,.v (.int .u8 (IntKind.u8.wrap (x / 2 ^ (8 * (size - 1 - k)))))),(20,.v (.slice ab (((be size x).take k ++ [by8 (x / 2 ^ (8 * (size - 1 - k)))]).length) ac))]) (by simp only [List.length_append,List.length_cons,List.length_nil,Nat.zero_add])
  refine qaj [8] [] [(0,.v (.int .i64 x)),(5,.v (.slice ab (((be size x).take k ++ [by8 (x / 2 ^ (8 * (size - 1 - k)))]).length) ac)),(6,.v (.int .i64 (((size:Nat):Int) - 1 - ((k:Nat):Int))))] ag az fun aT aA=>?_
  refine qae ?_
  refine qau ?_
  refine qab ?_
  refine qar [0,1,2] kz ?_
  refine qaj [0,1,2] [] [(0,.v (.int .i64 x)),(5,.v (.slice ab (((be size x).take k ++ [by8 (x / 2 ^ (8 * (size - 1 - k)))]).length) ac)),(6,.v (.int .i64 (IntKind.i64.wrap ((((size:Nat):Int) - 1 - ((k:Nat):Int)) - 1))))] ag aA fun aU ah=>?_
  refine qae (qab ?_)
  have ai:((be size x).take k ++ [by8 (x / 2 ^ (8 * (size - 1 - k)))]) = ((be size x).take (k + 1)):=(qd6 (by omega)).symm
  have aB:=congrArg (brow ab ac 5) ai
  obtain ⟨aC,aD⟩:=ag.rowEq 0 [brow ab ac 5 ((be size x).take (k + 1))] aB
  rw [ai] at ah
  have aE:IntKind.i64.wrap ((((size:Nat):Int) - 1 - ((k:Nat):Int)) - 1) = ((size:Nat):Int) - 1 - (((k + 1):Nat):Int):=by rw [wrap_i64 (by omega) (by omega)]; omega
  rw [aE] at ah
  exact ⟨size - (k + 1),by omega,k + 1,ab,ac,rfl,by omega,ah.pk,aC,(((al.trans ar).trans ax).trans aD)⟩
 have aJ:=of_decide_eq_false af
 refine wp_exit ?_
 refine qav ?_
 refine qav ?_
 refine qaM ?_
 refine qab ?_
 refine qaq [(4,.v (.slice A (((be size x).take k).length) c))] aa ae fun aV aF=>?_
 refine wp_ret ?_
 refine qaG aF aa.cells (v:=.slice A (((be size x).take k).length) c) kz ?_
 exact qaS aa (k:=0) rfl (List.take_of_length_le (by simp; omega))
theorem qcC (x:Nat) (hx:x < 18446744073709551616) (w:World) :
  Calls Tryd.prog 83 #[.int .u64 ((x:Nat):Int)] w (qcl w 5 (uv x)):=by
 refine enter (n:=20) Tryd.func83 rfl Tryd.ntmps83 kz fun a hE=>?_
 have hW:=WOk.start w Nil
 refine qaq [(0,.v (.int .u64 ((x:Nat):Int)))] hW hE fun a1 hE2=>?_
 refine qaq [(0,.v (.int .u64 ((x:Nat):Int))),(3,.v (.slice none 0 0))] hW hE2 fun a3 hE4=>?_
 refine wp_seq ?_
 refine wp_block ?_
 have hW5:=hW.addNil 5 1
 have hF6:=hW.frNil 5 1
 refine wp_loop_ghost (fun n_ a_ w_=>∃ (A:Option Addr) (c:Nat) (pre:Bs) (m:Nat),n_ = m ∧ (pre ++ uv m = uv x) ∧ (m < 18446744073709551616) ∧ LInv hW5 20 [] [brow A c 5 pre] [(0,.v (.int .u64 ((m:Nat):Int))),(3,.v (.slice A pre.length c))] a_ w_) (x) ⟨none,0,[],x,rfl,rfl,hx,hE4.pk,hW5,Fr.refl _ _ _⟩ ?_
 rintro n7 a8 w9 ⟨A,c,pre,m,aM,hp,hm,am,aa,ao⟩
 refine wp_seq ?_
 refine qaq [(0,.v (.int .u64 ((m:Nat):Int))),(3,.v (.slice A pre.length c)),(5,.v (.bool (decide (((m:Nat):Int) > 127))))] aa am fun aS ae=>?_
 refine qaA ae (b:=decide (((m:Nat):Int) > 127)) kz (fun af=>?_) (fun af=>?_)
 ·
  have aO:=of_decide_eq_true af
  refine wp_skip ?_
  refine qab ?_
  refine wp_block ?_
  refine qad [0,1,2,3,4,5,6,7] kz ?_
  refine qaj [0,1,2,3,4] [5,6,7] [(0,.v (.int .u64 ((m:Nat):Int))),(6,.v (.slice A pre.length c)),(10,.v (.int .u8 (IntKind.u8.wrap (BitVec.ofInt 8 (IntKind.u8.wrap (IntKind.u64.wrap (BitVec.ofInt 64 ((m:Nat):Int) &&& BitVec.ofInt 64 127).toNat)) ||| BitVec.ofInt 8 128).toNat)))] aa ae fun aT ap=>?_
  refine qbK aa ap (k:=0) (e:=5) (size:=1) (len:=1) (cs:=[.int .u8 (IntKind.u8.wrap (BitVec.ofInt 8 (IntKind.u8.wrap (IntKind.u64.wrap (BitVec.ofInt 64 ((m:Nat):Int) &&& BitVec.ofInt 64 127).toNat)) ||| BitVec.ofInt 8 128).toNat)]) (d1:=11) (d:=12) kz (t:=22) (bytes:=1) kz (fun _=>by kernel_rfl) rfl kz (by have h1_:=qdV x hx; rw [← hp,List.length_append] at h1_; omega) fun ab ac aU aV ar au ⟨_,av⟩=>?_
  have aw:(⟨ab,ac,5,1,pre.length + 1,bc pre ++ [.int .u8 (IntKind.u8.wrap (BitVec.ofInt 8 (IntKind.u8.wrap (IntKind.u64.wrap (BitVec.ofInt 64 ((m:Nat):Int) &&& BitVec.ofInt 64 127).toNat)) ||| BitVec.ofInt 8 128).toNat)]⟩:Rw) = brow ab ac 5 (pre ++ [by8 (BitVec.ofInt 8 (IntKind.u8.wrap (IntKind.u64.wrap (BitVec.ofInt 64 ((m:Nat):Int) &&& BitVec.ofInt 64 127).toNat)) ||| BitVec.ofInt 8 128).toNat]):=qbj (by simp only [bc,List.map,qcW]; try rfl) rfl
  obtain ⟨ag,ax⟩:=au.rowEq 0 [brow ab ac 5 (pre ++ [by8 (BitVec.ofInt 8 (IntKind.u8.wrap (IntKind.u64.wrap (BitVec.ofInt 64 ((m:Nat):Int) &&& BitVec.ofInt 64 127).toNat)) ||| BitVec.ofInt 8 128).toNat])] aw
  have ay:=EnvOk.pick av (ks:=[0,6,10,12]) (env':=[(0,.v (.int .u64 ((m:Nat):Int))),(6,.v (.slice A pre.length c)),(10,.v (.int .u8 (IntKind.u8.wrap (BitVec.ofInt 8 (IntKind.u8.wrap (IntKind.u64.wrap (BitVec.ofInt 64 ((m:Nat):Int) &&& BitVec.ofInt 64 127).toNat)) ||| BitVec.ofInt 8 128).toNat))),(12,.v (.slice ab (pre.length + 1) ac))]) kz
  have az:=ay.cast (env':=[(0,.v (.int .u64 ((m:Nat):Int))),(6,.v (.slice A pre.length c)),(10,.v (.int .u8 (IntKind.u8.wrap (BitVec.ofInt 8 (IntKind.u8.wrap (IntKind.u64.wrap (BitVec.ofInt 64 ((m:Nat):Int) &&& BitVec.ofInt 64 127).toNat)) ||| BitVec.ofInt 8 128).toNat))),(12,.v (.slice ab ((pre ++ [by8 (BitVec.ofInt 8 (IntKind.u8.wrap (IntKind.u64.wrap (BitVec.ofInt 64 ((m:Nat):Int) &&& BitVec.ofInt 64 127).toNat)) ||| BitVec.ofInt 8 128).toNat]).length) ac))]) (by simp only [List.length_append,List.length_cons,List.length_nil,Nat.zero_add])
  refine qaj [7] [] [(0,.v (.int .u64 ((m:Nat):Int))),(3,.v (.slice ab ((pre ++ [by8 (BitVec.ofInt 8 (IntKind.u8.wrap (IntKind.u64.wrap (BitVec.ofInt 64 ((m:Nat):Int) &&& BitVec.ofInt 64 127).toNat)) ||| BitVec.ofInt 8 128).toNat]).length) ac))] ag az fun aW aA=>?_
  refine qae (qab ?_)
  refine qar [0,1,2] kz ?_
  refine qaj [0,1,2] [] [(0,.v (.int .u64 (Int.fdiv ((m:Nat):Int) 128))),(3,.v (.slice ab ((pre ++ [by8 (BitVec.ofInt 8 (IntKind.u8.wrap (IntKind.u64.wrap (BitVec.ofInt 64 ((m:Nat):Int) &&& BitVec.ofInt 64 127).toNat)) ||| BitVec.ofInt 8 128).toNat]).length) ac))] ag aA fun aX ah=>?_
  refine qae ?_
  refine qau ?_
  refine qab ?_
  have al:(pre ++ [by8 (BitVec.ofInt 8 (IntKind.u8.wrap (IntKind.u64.wrap (BitVec.ofInt 64 ((m:Nat):Int) &&& BitVec.ofInt 64 127).toNat)) ||| BitVec.ofInt 8 128).toNat]) = (pre ++ [UInt8.ofNat (m % 128 + 128)]):=by rw [qgm m (by omega)]
  have aB:=congrArg (brow ab ac 5) al
  obtain ⟨aC,aD⟩:=ag.rowEq 0 [brow ab ac 5 (pre ++ [UInt8.ofNat (m % 128 + 128)])] aB
  rw [al] at ah
  have aE:Int.fdiv ((m:Nat):Int) 128 = ((m / 128:Nat):Int):=qg9 m
  rw [aE] at ah
  exact ⟨m / 128,by omega,ab,ac,pre ++ [UInt8.ofNat (m % 128 + 128)],m / 128,rfl,by rw [← hp,qgR (show 128 ≤ m by omega)]; simp,by omega,ah.pk,aC,(((ao.trans ar).trans ax).trans aD)⟩
 have aP:=of_decide_eq_false af
 refine wp_exit ?_
 refine qav ?_
 refine qav ?_
 refine qaM ?_
 refine qab ?_
 refine qad [0,1,2,3,4,5] kz ?_
 refine qaj [0,1,2] [3,4,5] [(15,.v (.slice A pre.length c)),(17,.v (.int .u8 (IntKind.u8.wrap ((m:Nat):Int))))] aa ae fun aY aF=>?_
 refine qbK aa aF (k:=0) (e:=5) (size:=1) (len:=1) (cs:=[.int .u8 (IntKind.u8.wrap ((m:Nat):Int))]) (d1:=18) (d:=19) kz (t:=22) (bytes:=1) kz (fun _=>by kernel_rfl) rfl kz (by have h1_:=qdV x hx; rw [← hp,List.length_append] at h1_; omega) fun ai aj aZ ba aQ aG ⟨_,aH⟩=>?_
 have aI:(⟨ai,aj,5,1,pre.length + 1,bc pre ++ [.int .u8 (IntKind.u8.wrap ((m:Nat):Int))]⟩:Rw) = brow ai aj 5 (pre ++ [by8 ((m:Nat):Int)]):=qbj (by simp only [bc,List.map,qcW]; try rfl) rfl
 obtain ⟨ak,aR⟩:=aG.rowEq 0 [brow ai aj 5 (pre ++ [by8 ((m:Nat):Int)])] aI
 have aJ:=EnvOk.pick aH (ks:=[15,17,19]) (env':=[(15,.v (.slice A pre.length c)),(17,.v (.int .u8 (IntKind.u8.wrap ((m:Nat):Int)))),(19,.v (.slice ai (pre.length + 1) aj))]) kz
 have aK:=aJ.cast (env':=[(15,.v (.slice A pre.length c)),(17,.v (.int .u8 (IntKind.u8.wrap ((m:Nat):Int)))),(19,.v (.slice ai ((pre ++ [by8 ((m:Nat):Int)]).length) aj))]) (by simp only [List.length_append,List.length_cons,List.length_nil,Nat.zero_add])
 refine qaj [5] [] [(2,.v (.slice ai ((pre ++ [by8 ((m:Nat):Int)]).length) aj))] ak aK fun bf aL=>?_
 refine qae (qab ?_)
 refine wp_ret ?_
 refine qaG aL ak.cells (v:=.slice ai ((pre ++ [by8 ((m:Nat):Int)]).length) aj) kz ?_
 exact qaS ak (k:=0) rfl (by rw [← hp,qeK (show m < 128 by omega),qfz])
theorem qcD (flex null:Bool) (m sz:Nat) (hm:m ≤ 1099511627776) (hsz:sz ≤ 8) (w:World) :
  Calls Tryd.prog 108 #[.bool flex,.bool null,.int .i64 ((m:Nat):Int),.int .i64 ((sz:Nat):Int)] w (qcl w 5 (qai flex null m sz)):=by
 refine enter (n:=28) Tryd.func108 rfl Tryd.ntmps108 kz fun a hE=>?_
 have hW:=WOk.start w Nil
 refine qaq [(0,.v (.bool flex)),(1,.v (.bool null)),(2,.v (.int .i64 ((m:Nat):Int))),(3,.v (.int .i64 ((sz:Nat):Int)))] hW hE fun a1 hE2=>?_
 refine wp_seq ?_
 refine wp_block ?_
 refine qad [0,1,2,3,4] kz ?_
 refine qaj [0,1] [2,3,4] [(0,.v (.bool flex)),(1,.v (.bool null)),(2,.v (.int .i64 ((m:Nat):Int))),(3,.v (.int .i64 ((sz:Nat):Int))),(11,.v (.bool flex))] hW hE2 fun a3 hE4=>?_
 refine (Bool.eq_false_or_eq_true (flex)).elim (fun hc5=>?_) (fun hc5=>?_)
 ·
  have hE7:=hE4.cast (env':=[(0,.v (.bool true)),(1,.v (.bool null)),(2,.v (.int .i64 ((m:Nat):Int))),(3,.v (.int .i64 ((sz:Nat):Int))),(11,.v (.bool true))]) (by rw [hc5])
  refine qaj [2,3,4] [] [(0,.v (.bool true)),(1,.v (.bool null)),(2,.v (.int .i64 ((m:Nat):Int))),(3,.v (.int .i64 ((sz:Nat):Int))),(9,.v (.bool null))] hW hE7 fun a8 hE9=>?_
  refine qae (qab ?_)
  refine qaA hE9 (b:=null) kz (fun aa=>?_) (fun aa=>?_)
  ·
   refine qad [0,1] kz ?_
   refine qal (qdd hW hE9 (e:=5) (size:=1) (len:=1) (cs:=[.int .u8 0]) (d:=14) kz kz fun ab bh bi aW aX aY am ao=>?_)
   have ap:(⟨some ⟨ab,0,none⟩,1,5,1,1,[.int .u8 0]⟩:Rw) = brow (some ⟨ab,0,none⟩) 1 5 [by8 0]:=by first | rfl | (simp only [brow,bc,List.map,qcW]; try rfl)
   obtain ⟨ac,aZ⟩:=am.rowEq 0 [brow (some ⟨ab,0,none⟩) 1 5 [by8 0]] ap
   have ar:=EnvOk.pick ao (ks:=[0,1,2,3,9,14]) (env':=[(0,.v (.bool true)),(1,.v (.bool null)),(2,.v (.int .i64 ((m:Nat):Int))),(3,.v (.int .i64 ((sz:Nat):Int))),(9,.v (.bool null)),(14,.v (.slice (some ⟨ab,0,none⟩) 1 1))]) kz
   have au:=ar.cast (env':=[(0,.v (.bool true)),(1,.v (.bool null)),(2,.v (.int .i64 ((m:Nat):Int))),(3,.v (.int .i64 ((sz:Nat):Int))),(9,.v (.bool null)),(14,.v (.slice (some ⟨ab,0,none⟩) ([by8 0].length) 1))]) rfl
   refine qaj [1] [] [(8,.v (.slice (some ⟨ab,0,none⟩) ([by8 0].length) 1))] ac au fun bj av=>?_
   refine qae (qab ?_)
   refine wp_ret ?_
   refine qaI ?_
   refine qax ?_
   refine qaG av ac.cells (v:=.slice (some ⟨ab,0,none⟩) ([by8 0].length) 1) kz ?_
   exact qaS ac (k:=0) rfl (by simp [qai,hc5,aa]; try rfl)
  refine qaq [(1,.v (.bool null)),(2,.v (.int .i64 ((m:Nat):Int))),(3,.v (.int .i64 ((sz:Nat):Int))),(15,.v (.bool true))] hW hE9 fun bk aj=>?_
  refine qbb aj (b:=true) kz rfl ?_
  refine qad [0,1,2,3,4] kz ?_
  refine qaj [0,1,2] [3,4] [(19,.v (.int .u64 (IntKind.u64.wrap ((IntKind.u64.wrap ((m:Nat):Int)) + 1))))] hW aj fun bn aw=>?_
  have ax:IntKind.u64.wrap ((IntKind.u64.wrap ((m:Nat):Int)) + 1) = ((m + 1:Nat):Int):=by simp only [qct,qaU,qbn,IntKind.wrap_i64,IntKind.wrap_i32]; omega
  have ay:=EnvOk.pick aw (ks:=[19]) (env':=[(19,.v (.int .u64 (IntKind.u64.wrap ((IntKind.u64.wrap ((m:Nat):Int)) + 1))))]) kz
  have az:=ay.cast (env':=[(19,.v (.int .u64 ((m + 1:Nat):Int)))]) (by rw [ax])
  refine qal (qak az (f:=83) (vs:=[.int .u64 ((m + 1:Nat):Int)]) (d:=20) kz Tryd.call83 (qcC (m + 1) (by omega) _) ?_)
  rintro e_ bo ⟨aA,aB,rfl,aC,aD⟩
  refine ⟨_,rfl,fun bp aE=>?_⟩
  obtain ⟨ae,ba⟩:=hW.frFresh aD (brow aA aB 5 (uv (m + 1))) (Nat.le_refl _) aC
  refine qaj [4] [] [(8,.v (.slice aA ((uv (m + 1)).length) aB))] ae aE fun bq aF=>?_
  refine qae (qab ?_)
  refine wp_ret ?_
  refine qaI ?_
  refine qax ?_
  refine qaG aF ae.cells (v:=.slice aA ((uv (m + 1)).length) aB) kz ?_
  exact qaS ae (k:=0) rfl (by simp [qai,hc5,aa]; try rfl)
 have aG:=hE4.cast (env':=[(0,.v (.bool false)),(1,.v (.bool null)),(2,.v (.int .i64 ((m:Nat):Int))),(3,.v (.int .i64 ((sz:Nat):Int))),(11,.v (.bool false))]) (by rw [hc5])
 refine qaj [2,3,4] [] [(0,.v (.bool false)),(1,.v (.bool null)),(2,.v (.int .i64 ((m:Nat):Int))),(3,.v (.int .i64 ((sz:Nat):Int))),(9,.v (.bool false))] hW aG fun bt ak=>?_
 refine qae (qab ?_)
 refine qaQ ak (b:=false) kz rfl ?_
 refine qaq [(1,.v (.bool null)),(2,.v (.int .i64 ((m:Nat):Int))),(3,.v (.int .i64 ((sz:Nat):Int))),(15,.v (.bool false))] hW ak fun bu al=>?_
 refine qaQ al (b:=false) kz rfl ?_
 refine qaq [(2,.v (.int .i64 ((m:Nat):Int))),(3,.v (.int .i64 ((sz:Nat):Int))),(21,.v (.bool null))] hW al fun bw af=>?_
 refine qaA af (b:=null) kz (fun ag=>?_) (fun ag=>?_)
 ·
  refine qad [0,1,2] kz ?_
  refine qaj [0] [1,2] [(23,.v (.int .i64 ((sz:Nat):Int)))] hW af fun bx aH=>?_
  refine qal (qak aH (f:=28) (vs:=[.int .i64 (-1),.int .i64 ((sz:Nat):Int)]) (d:=24) kz Tryd.call28 (qc8 (-1) sz (by first | decide | exact qbu _ | omega) _) ?_)
  rintro e_ bz ⟨aI,aJ,rfl,aK,aL⟩
  refine ⟨_,rfl,fun bA aM=>?_⟩
  obtain ⟨ah,bf⟩:=hW.frFresh aL (brow aI aJ 5 (be sz (-1))) (Nat.le_refl _) aK
  refine qaj [2] [] [(8,.v (.slice aI ((be sz (-1)).length) aJ))] ah aM fun bB aO=>?_
  refine qae (qab ?_)
  refine wp_ret ?_
  refine qaI ?_
  refine qax ?_
  refine qaG aO ah.cells (v:=.slice aI ((be sz (-1)).length) aJ) kz ?_
  exact qaS ah (k:=0) rfl (by simp [qai,hc5,ag]; try rfl)
 refine wp_skip ?_
 refine qau ?_
 refine qab ?_
 refine qad [0,1,2,3] kz ?_
 refine qaj [0,1] [2,3] [(25,.v (.int .i64 ((m:Nat):Int))),(26,.v (.int .i64 ((sz:Nat):Int)))] hW af fun bC aP=>?_
 refine qal (qak aP (f:=28) (vs:=[.int .i64 ((m:Nat):Int),.int .i64 ((sz:Nat):Int)]) (d:=27) kz Tryd.call28 (qc8 ((m:Nat):Int) sz (by first | decide | exact qbu _ | omega) _) ?_)
 rintro e_ bD ⟨aQ,aR,rfl,aS,aT⟩
 refine ⟨_,rfl,fun bE aU=>?_⟩
 obtain ⟨ai,bg⟩:=hW.frFresh aT (brow aQ aR 5 (be sz ((m:Nat):Int))) (Nat.le_refl _) aS
 refine qaj [3] [] [(8,.v (.slice aQ ((be sz ((m:Nat):Int)).length) aR))] ai aU fun bF aV=>?_
 refine qae (qab ?_)
 refine wp_ret ?_
 refine qaG aV ai.cells (v:=.slice aQ ((be sz ((m:Nat):Int)).length) aR) kz ?_
 exact qaS ai (k:=0) rfl (by simp [qai,hc5,ag]; try rfl)
theorem qgT (A:Option Addr) (c:Nat) (l:List Fld) (w:World) (F:Nat → Nat → Prop) (hl:FldsR w F A c l) :
  Calls Tryd.prog 76 #[.slice A l.length c] w (qcd w (.int .u32 (qam l))):=by
 obtain ⟨xfs,h1,h2⟩:=hl.ex
 have hsm:=h1.small
 refine enter (n:=23) Tryd.func76 rfl Tryd.ntmps76 kz fun a hE=>?_
 have hW:=WOk.start w Nil
 refine qaq [(0,.v (.slice A l.length c))] hW hE fun a1 hE2=>?_
 refine qaq [(0,.v (.slice A l.length c)),(3,.v (.int .u32 0))] hW hE2 fun a3 hE4=>?_
 refine wp_seq ?_
 refine qaq [(3,.v (.int .u32 0)),(6,.v (.slice A l.length c)),(7,.v (.int .i64 ((l.length:Nat):Int))),(8,.v (.int .i64 0))] hW hE4 fun a5 hE6=>?_
 refine wp_block ?_
 refine wp_loop_ghost (fun n_ a_ w_=>∃ (k:Nat),n_ = l.length - k ∧ k ≤ l.length ∧ LInv hW 23 [] [] [(3,.v (.int .u32 (qam (l.take k)))),(6,.v (.slice A l.length c)),(7,.v (.int .i64 ((l.length:Nat):Int))),(8,.v (.int .i64 ((k:Nat):Int)))] a_ w_) (l.length) ⟨0,by omega,by omega,hE6.pk,hW,Fr.refl _ _ _⟩ ?_
 rintro n7 a8 w9 ⟨k,bf,bg,av,aa,ao⟩
 refine qaq [(3,.v (.int .u32 (qam (l.take k)))),(6,.v (.slice A l.length c)),(7,.v (.int .i64 ((l.length:Nat):Int))),(8,.v (.int .i64 ((k:Nat):Int))),(9,.v (.bool (decide (((k:Nat):Int) < ((l.length:Nat):Int)))))] aa av fun bw ag=>?_
 refine wp_seq ?_
 refine qaA ag (b:=decide (((k:Nat):Int) < ((l.length:Nat):Int))) kz (fun ah=>?_) (fun ah=>?_)
 ·
  have bh:=of_decide_eq_true ah
  refine wp_skip ?_
  refine qab ?_
  refine wp_seq ?_
  refine wp_block ?_
  refine qad [0,1,2,3] kz ?_
  obtain ⟨bi,bj,aw,bk,ae⟩:=Slots.get h1 (i:=k) (by omega)
  obtain ⟨bn,ai⟩:∃ x,l[k]? = some x:=⟨_,List.getElem?_eq_getElem (by omega)⟩
  have ap:=h2 k bn ai
  obtain ⟨ax,ay,az,aA,ab,aB,aC,aD,aE,aF,bo,rfl,af,bp,bx⟩:=ap.open_
  rw [af] at ap
  have ba:=bp.small
  rw [af] at ae
  refine qal (qaW ag (t:=30) (A:=A) (m:=l.length) (q:=((k:Nat):Int)) (d:=10) kz (e:=60) (size:=8) (bytes:=80) kz aw rfl (by omega) fun bz aG=>?_)
  refine qal (qa2 aG (t:=60) (b:=bi) (o:=bj + k * 8) (d:=11) kz (cs:=[.int .i64 ax,.int .i64 ay,.int .i64 az,.int .i64 aA,.int .i64 ab,.int .i64 aB,.int .i64 aC,.slice aE aD.length aF]) (v:=.agg #[.int .i64 ax,.int .i64 ay,.int .i64 az,.int .i64 aA,.int .i64 ab,.int .i64 aB,.int .i64 aC,.slice aE aD.length aF]) kz (AtF.move ae aa.step nilM qbw).at_ fun bA aH=>?_)
  refine qal (qat aa aH (d:=5) (cs:=[.int .i64 0,.int .i64 0,.int .i64 0,.int .i64 0,.int .i64 0,.int .i64 0,.int .i64 0,.slice none 0 0]) kz fun bB bC bD bq bt ar aI aJ=>?_)
  refine qal (qan aI aJ (oi:=0) (cs:=[.int .i64 ax,.int .i64 ay,.int .i64 az,.int .i64 aA,.int .i64 ab,.int .i64 aB,.int .i64 aC,.slice aE aD.length aF]) kz fun bE au ac aK=>?_)
  refine qae (qab ?_)
  refine qaq [(3,.v (.int .u32 (qam (l.take k)))),(5,.p 0 0),(6,.v (.slice A l.length c)),(7,.v (.int .i64 ((l.length:Nat):Int))),(8,.v (.int .i64 ((k:Nat):Int))),(14,.v (.bool (decide (ab ≥ 0))))] ac aK fun bF aj=>?_
  refine qaA aj (b:=decide (ab ≥ 0)) kz (fun ak=>?_) (fun ak=>?_)
  ·
   have aL:=of_decide_eq_true ak
   refine qar [0,1,2,3,4,5,6] kz ?_
   refine qaj [0,1,2,3,4,5,6] [] [(3,.v (.int .u32 (if IntKind.u32.wrap ((IntKind.u32.wrap ab) + 1) > qam (l.take k) then IntKind.u32.wrap ((IntKind.u32.wrap ab) + 1) else qam (l.take k)))),(6,.v (.slice A l.length c)),(7,.v (.int .i64 ((l.length:Nat):Int))),(8,.v (.int .i64 ((k:Nat):Int)))] ac aj fun bG aM=>?_
   refine qae ?_
   refine qau ?_
   refine qab ?_
   refine qar [0,1] kz ?_
   refine qaj [0,1] [] [(3,.v (.int .u32 (if IntKind.u32.wrap ((IntKind.u32.wrap ab) + 1) > qam (l.take k) then IntKind.u32.wrap ((IntKind.u32.wrap ab) + 1) else qam (l.take k)))),(6,.v (.slice A l.length c)),(7,.v (.int .i64 ((l.length:Nat):Int))),(8,.v (.int .i64 (IntKind.i64.wrap (((k:Nat):Int) + 1))))] ac aM fun bH aO=>?_
   refine qae (qab ?_)
   obtain ⟨al,aP,aQ⟩:=ac.cutB aO 0 [] [(3,.v (.int .u32 (if IntKind.u32.wrap ((IntKind.u32.wrap ab) + 1) > qam (l.take k) then IntKind.u32.wrap ((IntKind.u32.wrap ab) + 1) else qam (l.take k)))),(6,.v (.slice A l.length c)),(7,.v (.int .i64 ((l.length:Nat):Int))),(8,.v (.int .i64 (IntKind.i64.wrap (((k:Nat):Int) + 1))))]
   have aR:IntKind.i64.wrap (((k:Nat):Int) + 1) = ((k + 1:Nat):Int):=qaR (by omega)
   rw [aR] at al
   have aS:(if IntKind.u32.wrap ((IntKind.u32.wrap ab) + 1) > qam (l.take k) then IntKind.u32.wrap ((IntKind.u32.wrap ab) + 1) else qam (l.take k)) = qam (l.take (k + 1)):=qfC ai aL
   rw [aS] at al
   exact ⟨l.length - (k + 1),by omega,k + 1,rfl,by omega,al.pk,aP,(((ao.trans ar).trans au).trans aQ)⟩
  have aT:=of_decide_eq_false ak
  refine wp_skip ?_
  refine qau ?_
  refine qab ?_
  refine qar [0,1] kz ?_
  refine qaj [0,1] [] [(3,.v (.int .u32 (qam (l.take k)))),(6,.v (.slice A l.length c)),(7,.v (.int .i64 ((l.length:Nat):Int))),(8,.v (.int .i64 (IntKind.i64.wrap (((k:Nat):Int) + 1))))] ac aj fun bI aU=>?_
  refine qae (qab ?_)
  obtain ⟨am,aV,aW⟩:=ac.cutB aU 0 [] [(3,.v (.int .u32 (qam (l.take k)))),(6,.v (.slice A l.length c)),(7,.v (.int .i64 ((l.length:Nat):Int))),(8,.v (.int .i64 (IntKind.i64.wrap (((k:Nat):Int) + 1))))]
  have aX:IntKind.i64.wrap (((k:Nat):Int) + 1) = ((k + 1:Nat):Int):=qaR (by omega)
  rw [aX] at am
  have aY:qam (l.take k) = qam (l.take (k + 1)):=qfD ai aT
  rw [aY] at am
  exact ⟨l.length - (k + 1),by omega,k + 1,rfl,by omega,am.pk,aV,(((ao.trans ar).trans au).trans aW)⟩
 have bu:=of_decide_eq_false ah
 refine wp_exit ?_
 refine qav ?_
 refine qav ?_
 refine qaM ?_
 refine qab ?_
 refine qaq [(2,.v (.int .u32 (qam (l.take k))))] aa ag fun bJ aZ=>?_
 refine wp_ret ?_
 refine qaG aZ aa.cells (v:=.int .u32 (qam (l.take k))) kz ?_
 exact ⟨by rw [List.take_of_length_le (by omega)],aa.step⟩
def qf7 (d:Nat):Prop:=∀ (A:Option Addr) (c:Nat) (l:List Fld) (v:Int) (flex:Bool) (ct:List Value) (t:Tree) (w:World) (F:Nat → Nat → Prop),FldsR w F A c l → depths l ≤ d → TreeR w F ct t → (qaF d l v flex t).length ≤ 1099511627776 →
  Calls Tryd.prog 57 #[.slice A l.length c,.int .i64 v,.bool flex,.agg ct.toArray] w (qcl w 5 (qaF d l v flex t))
theorem qf8 {d:Nat} (hp:qf7 d) (kind:Int) (A:Option Addr) (c:Nat) (l:List Fld) (null:Bool) (v:Int) (flex:Bool) (ct:List Value) (t:Tree) (w:World) (F:Nat → Nat → Prop) (hl:FldsR w F A c l) (hd:depths l ≤ d) (ht:TreeR w F ct t) (hroom:(qaz (qaF d l v flex) kind null flex t).length ≤ 1099511627776) :
  Calls Tryd.prog 109 #[.int .i64 kind,.slice A l.length c,.bool null,.int .i64 v,.bool flex,.agg ct.toArray] w (qcl w 5 (qaz (qaF d l v flex) kind null flex t)):=by
 obtain ⟨n1,s2,b3,l4,u5,A6,c7,A8,c9,di,dj,eb,rfl,rfl,aY,ec,fD,fE⟩:=ht.open_
 have dO:=aY.small
 have dP:=ec.small
 have hl0:=hl
 obtain ⟨xfs,h1,h2⟩:=hl.ex
 have hsm:=h1.small
 refine enter (n:=70) Tryd.func109 rfl Tryd.ntmps109 kz fun a hE=>?_
 have hW:=WOk.start w Nil
 refine qad [0,1] kz ?_
 refine qal (qa5 hW hE (d:=11) (cs:=[.int .i64 n1,.slice A6 s2.length c7,.bool b3,.slice A8 l4.length c9,.slice di u5.length dj]) kz fun fF fG fH ee ef eg aa dl=>?_)
 refine qaj [1] [] [(0,.v (.int .i64 kind)),(1,.v (.slice A l.length c)),(2,.v (.bool null)),(3,.v (.int .i64 v)),(4,.v (.bool flex)),(11,.p 0 0)] aa dl fun fI dp=>?_
 refine qae (qab ?_)
 refine wp_seq ?_
 refine qaq [(0,.v (.int .i64 kind)),(1,.v (.slice A l.length c)),(2,.v (.bool null)),(3,.v (.int .i64 v)),(4,.v (.bool flex)),(11,.p 0 0),(16,.v (.int .i64 kind))] aa dp fun fJ dq=>?_
 refine wp_block ?_
 refine qaq [(0,.v (.int .i64 kind)),(1,.v (.slice A l.length c)),(2,.v (.bool null)),(3,.v (.int .i64 v)),(4,.v (.bool flex)),(11,.p 0 0),(16,.v (.int .i64 kind)),(17,.v (.bool (kind == 0)))] aa dq fun fK bo=>?_
 refine qaA bo (b:=kind == 0) kz (fun ac=>?_) (fun ac=>?_)
 ·
  have dr:kind = 0:=by simpa using ac
  refine qad [0,1,2,3,4,5] kz ?_
  refine qaj [0,1,2,3] [4,5] [(22,.v (.int .u8 (IntKind.u8.wrap (IntKind.i64.wrap (BitVec.ofInt 64 n1 &&& BitVec.ofInt 64 1).toNat))))] aa bo fun fL dt=>?_
  refine qal (qdd aa dt (e:=5) (size:=1) (len:=1) (cs:=[.int .u8 (IntKind.u8.wrap (IntKind.i64.wrap (BitVec.ofInt 64 n1 &&& BitVec.ofInt 64 1).toNat))]) (d:=23) kz kz fun bp fM fN eh ei ej du dv=>?_)
  have dw:(⟨some ⟨bp,0,none⟩,1,5,1,1,[.int .u8 (IntKind.u8.wrap (IntKind.i64.wrap (BitVec.ofInt 64 n1 &&& BitVec.ofInt 64 1).toNat))]⟩:Rw) = brow (some ⟨bp,0,none⟩) 1 5 [by8 (IntKind.i64.wrap (BitVec.ofInt 64 n1 &&& BitVec.ofInt 64 1).toNat)]:=by first | rfl | (simp only [brow,bc,List.map,qcW]; try rfl)
  obtain ⟨bq,ek⟩:=du.rowEq 0 [brow (some ⟨bp,0,none⟩) 1 5 [by8 (IntKind.i64.wrap (BitVec.ofInt 64 n1 &&& BitVec.ofInt 64 1).toNat)]] dw
  have dx:=EnvOk.pick dv (ks:=[22,23]) (env':=[(22,.v (.int .u8 (IntKind.u8.wrap (IntKind.i64.wrap (BitVec.ofInt 64 n1 &&& BitVec.ofInt 64 1).toNat)))),(23,.v (.slice (some ⟨bp,0,none⟩) 1 1))]) kz
  have dy:=dx.cast (env':=[(22,.v (.int .u8 (IntKind.u8.wrap (IntKind.i64.wrap (BitVec.ofInt 64 n1 &&& BitVec.ofInt 64 1).toNat)))),(23,.v (.slice (some ⟨bp,0,none⟩) ([by8 (IntKind.i64.wrap (BitVec.ofInt 64 n1 &&& BitVec.ofInt 64 1).toNat)].length) 1))]) rfl
  refine qaj [5] [] [(12,.v (.slice (some ⟨bp,0,none⟩) ([by8 (IntKind.i64.wrap (BitVec.ofInt 64 n1 &&& BitVec.ofInt 64 1).toNat)].length) 1))] bq dy fun fO dA=>?_
  refine qae (qab ?_)
  refine wp_ret ?_
  refine qaI ?_
  refine qax ?_
  refine qaG dA bq.cells (v:=.slice (some ⟨bp,0,none⟩) ([by8 (IntKind.i64.wrap (BitVec.ofInt 64 n1 &&& BitVec.ofInt 64 1).toNat)].length) 1) kz ?_
  exact qaS bq (k:=0) rfl (by (try simp only [and1]); simp [qaz,Tree.S,Tree.N,dr,ac])
 have ak:kind ≠ 0:=by simpa using ac
 refine qaq [(0,.v (.int .i64 kind)),(1,.v (.slice A l.length c)),(2,.v (.bool null)),(3,.v (.int .i64 v)),(4,.v (.bool flex)),(11,.p 0 0),(16,.v (.int .i64 kind)),(24,.v (.bool (kind == 7)))] aa bo fun fP bt=>?_
 refine qaA bt (b:=kind == 7) kz (fun ae=>?_) (fun ae=>?_)
 ·
  have dB:kind = 7:=by simpa using ae
  refine qad [0,1] kz ?_
  refine qal (qe2 aa bt (d:=26) (j:=16) (t:=22) (e:=5) (bytes:=1) (z:=.int .u8 0) kz kz kz kz (rfl) (rfl) (by omega) fun aB fQ fR em eo ep aC dC=>?_)
  refine qaj [1] [] [(11,.p 0 0),(13,.v (.slice (some ⟨aB,0,none⟩) 16 16))] aC dC fun fS dD=>?_
  refine qae (qab ?_)
  refine qad [0,1,2,3] kz ?_
  refine qaj [0,1,2] [3] [(13,.v (.slice (some ⟨aB,0,none⟩) 16 16)),(27,.v (.slice (some ⟨aB,0,none⟩) 16 16)),(29,.v (.slice A6 s2.length c7))] aC dD fun fT dE=>?_
  refine qal (qe1 aC dE (k:=0) (d:=30) (t:=22) (u:=22) (e:=5) (bytes:=1) (A:=(some ⟨aB,0,none⟩)) (As:=A6) (m:=s2.length) (cs:=c7) (m0:=16) (c:=16) (xs:=(List.replicate 16 (.int .u8 0))) (news:=bc s2) kz kz rfl (aY.move aC.step nilM aC.imm).src fun fU fV eu dF dG=>?_)
  have dH:(⟨(some ⟨aB,0,none⟩),16,5,1,16,qa4 (List.replicate 16 (.int .u8 0)) 0 ((bc s2).take (min s2.length 16))⟩:Rw) = brow (some ⟨aB,0,none⟩) 16 5 (qda s2):=qgn _ _ _
  obtain ⟨bu,ew⟩:=dF.rowEq 0 [brow (some ⟨aB,0,none⟩) 16 5 (qda s2)] dH
  have dI:=EnvOk.pick dG (ks:=[13,27,29,30]) (env':=[(13,.v (.slice (some ⟨aB,0,none⟩) 16 16)),(27,.v (.slice (some ⟨aB,0,none⟩) 16 16)),(29,.v (.slice A6 s2.length c7)),(30,.v (.int .i64 ((min s2.length 16:Nat):Int)))]) kz
  have dJ:=dI.cast (env':=[(13,.v (.slice (some ⟨aB,0,none⟩) ((qda s2).length) 16)),(27,.v (.slice (some ⟨aB,0,none⟩) ((qda s2).length) 16)),(29,.v (.slice A6 s2.length c7)),(30,.v (.int .i64 ((min s2.length 16:Nat):Int)))]) (by rw [qbX _])
  refine qae (qab ?_)
  refine qaq [(12,.v (.slice (some ⟨aB,0,none⟩) ((qda s2).length) 16))] bu dJ fun fW dK=>?_
  refine wp_ret ?_
  refine qaI ?_
  refine qax ?_
  refine qaG dK bu.cells (v:=.slice (some ⟨aB,0,none⟩) ((qda s2).length) 16) kz ?_
  exact qaS bu (k:=0) rfl (by (try simp only [and1]); simp [qaz,Tree.S,Tree.N,ak,dB,ac,ae])
 have am:kind ≠ 7:=by simpa using ae
 refine qaq [(0,.v (.int .i64 kind)),(1,.v (.slice A l.length c)),(2,.v (.bool null)),(3,.v (.int .i64 v)),(4,.v (.bool flex)),(11,.p 0 0),(16,.v (.int .i64 kind)),(32,.v (.bool (kind == 8)))] aa bt fun fX bw=>?_
 refine qaA bw (b:=kind == 8) kz (fun ag=>?_) (fun ag=>?_)
 ·
  have bC:kind = 8:=by simpa using ag
  refine qad [0,1,2,3] kz ?_
  refine qaj [0,1] [2,3] [(2,.v (.bool null)),(4,.v (.bool flex)),(35,.v (.slice A6 s2.length c7))] aa bw fun fY dL=>?_
  have dQ:=qbc s2
  refine qal (qak dL (f:=54) (vs:=[.slice A6 s2.length c7]) (d:=36) kz Tryd.call54 (qf6 _ _ s2 (aY.move aa.step nilM aa.imm).le _) ?_)
  rintro e_ fZ ⟨rfl,bD⟩
  refine ⟨_,rfl,fun f5 dM=>?_⟩
  have ao:=aa.next_nil bD
  have ey:=aa.frN bD
  refine qaj [3] [] [(2,.v (.bool null)),(4,.v (.bool flex)),(14,.v (.slice A6 ((qas s2).length) c7))] ao dM fun f7 bE=>?_
  refine qae (qab ?_)
  refine wp_seq ?_
  refine qaq [(2,.v (.bool null)),(4,.v (.bool flex)),(14,.v (.slice A6 ((qas s2).length) c7)),(37,.v (.bool null))] ao bE fun ez aD=>?_
  refine qaA aD (b:=null) kz (fun aE=>?_) (fun aE=>?_)
  ·
   refine qar [0] kz ?_
   refine qaj [0] [] [(2,.v (.bool null)),(4,.v (.bool flex)),(14,.v (.slice none 0 0))] ao aD fun eB bF=>?_
   refine qae (qab ?_)
   refine qad [0,1,2,3,4,5,6,7] kz ?_
   refine qaj [0,1,2,3] [4,5,6,7] [(14,.v (.slice none 0 0)),(38,.v (.bool flex)),(39,.v (.bool null)),(41,.v (.int .i64 0))] ao bF fun eC bG=>?_
   refine qal (qak bG (f:=108) (vs:=[.bool flex,.bool null,.int .i64 0,.int .i64 2]) (d:=42) kz Tryd.call108 (qcD flex null 0 2 (by first | omega | exact Nat.le_trans (qbc _) (by decide) | exact Nat.le_trans (qb3 _) (by decide) | (simp; done) | (have:=hroom; omega)) (by first | decide | omega) _) ?_)
   rintro e_ eD ⟨aF,aG,rfl,bH,bI⟩
   refine ⟨_,rfl,fun eE bJ=>?_⟩
   obtain ⟨aZ,dR⟩:=ao.frFresh bI (brow aF aG 5 (qai flex null 0 2)) (Nat.le_refl _) bH
   refine qaj [5] [6,7] [(42,.v (.slice aF ((qai flex null 0 2).length) aG)),(43,.v (.slice none 0 0))] aZ bJ fun eF bK=>?_
   refine qal (qaJ aZ bK (k:=0) (d:=44) (t:=22) (e:=5) (size:=1) (bytes:=1) (A:=aF) (As:=none) (m0:=((qai flex null 0 2).length)) (c:=aG) (m:=0) (cs:=0) (xs:=(bc (qai flex null 0 2))) (news:=bc ([]:Bs)) kz kz rfl (Octs.nil _ (fun _ _=>True)).src (fun _=>rfl) (by first | exact qcn (by omega) (by decide) (by omega) | exact qcn (Nat.le_trans (qbc _) (by decide)) (by decide) (Nat.le_trans (qbc _) (by decide)) | (simp; done)) fun ap ar eG eH dS bL bM=>?_)
   have bN:(⟨ap,ar,5,1,(qai flex null 0 2).length + 0,bc (qai flex null 0 2) ++ bc ([]:Bs)⟩:Rw) = brow ap ar 5 (qai flex null 0 2 ++ ([]:Bs)):=qbj (rfl) rfl
   obtain ⟨aH,dT⟩:=bL.rowEq 0 [brow ap ar 5 (qai flex null 0 2 ++ ([]:Bs))] bN
   have bO:=EnvOk.pick bM (ks:=[42,43,44]) (env':=[(42,.v (.slice aF ((qai flex null 0 2).length) aG)),(43,.v (.slice none 0 0)),(44,.v (.slice ap ((qai flex null 0 2).length + 0) ar))]) kz
   have bP:=bO.cast (env':=[(42,.v (.slice aF ((qai flex null 0 2).length) aG)),(43,.v (.slice none 0 0)),(44,.v (.slice ap ((qai flex null 0 2 ++ ([]:Bs)).length) ar))]) (by simp only [List.length_append,List.length_cons,List.length_nil,Nat.zero_add])
   refine qaj [7] [] [(12,.v (.slice ap ((qai flex null 0 2 ++ ([]:Bs)).length) ar))] aH bP fun eI bQ=>?_
   refine qae (qab ?_)
   refine wp_ret ?_
   refine qaI ?_
   refine qax ?_
   refine qaG bQ aH.cells (v:=.slice ap ((qai flex null 0 2 ++ ([]:Bs)).length) ar) kz ?_
   exact qaS aH (k:=0) rfl (by (try simp only [and1]); simp [qaz,Tree.S,Tree.N,ak,am,bC,ac,ae,ag,aE])
  refine wp_skip ?_
  refine qab ?_
  refine qad [0,1,2,3,4,5,6,7] kz ?_
  refine qaj [0,1,2,3] [4,5,6,7] [(14,.v (.slice A6 ((qas s2).length) c7)),(38,.v (.bool flex)),(39,.v (.bool null)),(41,.v (.int .i64 (((qas s2).length:Nat):Int)))] ao aD fun eJ bR=>?_
  refine qal (qak bR (f:=108) (vs:=[.bool flex,.bool null,.int .i64 (((qas s2).length:Nat):Int),.int .i64 2]) (d:=42) kz Tryd.call108 (qcD flex null ((qas s2).length) 2 (by first | omega | exact Nat.le_trans (qbc _) (by decide) | exact Nat.le_trans (qb3 _) (by decide) | (simp; done) | (have:=hroom; omega)) (by first | decide | omega) _) ?_)
  rintro e_ eK ⟨aI,aJ,rfl,bS,bT⟩
  refine ⟨_,rfl,fun eL bU=>?_⟩
  obtain ⟨ah,dU⟩:=ao.frFresh bT (brow aI aJ 5 (qai flex null ((qas s2).length) 2)) (Nat.le_refl _) bS
  refine qaj [5] [6,7] [(42,.v (.slice aI ((qai flex null ((qas s2).length) 2).length) aJ)),(43,.v (.slice A6 ((qas s2).length) c7))] ah bU fun eM bV=>?_
  refine qal (qaJ ah bV (k:=0) (d:=44) (t:=22) (e:=5) (size:=1) (bytes:=1) (A:=aI) (As:=A6) (m0:=((qai flex null ((qas s2).length) 2).length)) (c:=aJ) (m:=((qas s2).length)) (cs:=c7) (xs:=(bc (qai flex null ((qas s2).length) 2))) (news:=bc (qas s2)) kz kz rfl ((aY.take 32767).move ah.step nilM ah.imm).src ((aY.take 32767).move ah.step nilM ah.imm).cap (by first | exact qcn (by omega) (by decide) (by omega) | exact qcn (Nat.le_trans (qbc _) (by decide)) (by decide) (Nat.le_trans (qbc _) (by decide)) | (simp; done)) fun au av eN eO dV bW bX=>?_)
  have bY:(⟨au,av,5,1,(qai flex null ((qas s2).length) 2).length + (qas s2).length,bc (qai flex null ((qas s2).length) 2) ++ bc (qas s2)⟩:Rw) = brow au av 5 (qai flex null ((qas s2).length) 2 ++ (qas s2)):=qbj (rfl) rfl
  obtain ⟨aK,dW⟩:=bW.rowEq 0 [brow au av 5 (qai flex null ((qas s2).length) 2 ++ (qas s2))] bY
  have bZ:=EnvOk.pick bX (ks:=[42,43,44]) (env':=[(42,.v (.slice aI ((qai flex null ((qas s2).length) 2).length) aJ)),(43,.v (.slice A6 ((qas s2).length) c7)),(44,.v (.slice au ((qai flex null ((qas s2).length) 2).length + (qas s2).length) av))]) kz
  have b8:=bZ.cast (env':=[(42,.v (.slice aI ((qai flex null ((qas s2).length) 2).length) aJ)),(43,.v (.slice A6 ((qas s2).length) c7)),(44,.v (.slice au ((qai flex null ((qas s2).length) 2 ++ (qas s2)).length) av))]) (by simp only [List.length_append,List.length_cons,List.length_nil,Nat.zero_add])
  refine qaj [7] [] [(12,.v (.slice au ((qai flex null ((qas s2).length) 2 ++ (qas s2)).length) av))] aK b8 fun eP cd=>?_
  refine qae (qab ?_)
  refine wp_ret ?_
  refine qaI ?_
  refine qax ?_
  refine qaG cd aK.cells (v:=.slice au ((qai flex null ((qas s2).length) 2 ++ (qas s2)).length) av) kz ?_
  exact qaS aK (k:=0) rfl (by (try simp only [and1]); simp [qaz,Tree.S,Tree.N,ak,am,bC,ac,ae,ag,aE])
 have al:kind ≠ 8:=by simpa using ag
 refine qaq [(0,.v (.int .i64 kind)),(1,.v (.slice A l.length c)),(2,.v (.bool null)),(3,.v (.int .i64 v)),(4,.v (.bool flex)),(11,.p 0 0),(16,.v (.int .i64 kind)),(45,.v (.bool (kind == 9)))] aa bw fun eQ aL=>?_
 refine qaA aL (b:=kind == 9) kz (fun ab=>?_) (fun ab=>?_)
 ·
  have ba:kind = 9:=by simpa using ab
  refine qad [0,1,2,3] kz ?_
  refine qaj [0,1] [2,3] [(2,.v (.bool null)),(4,.v (.bool flex)),(48,.v (.slice A6 s2.length c7))] aa aL fun eR ce=>?_
  have dN:=qbc s2
  refine qal (qak ce (f:=54) (vs:=[.slice A6 s2.length c7]) (d:=49) kz Tryd.call54 (qf6 _ _ s2 (aY.move aa.step nilM aa.imm).le _) ?_)
  rintro e_ eS ⟨rfl,bf⟩
  refine ⟨_,rfl,fun eU cg=>?_⟩
  have af:=aa.next_nil bf
  have dX:=aa.frN bf
  refine qaj [3] [] [(2,.v (.bool null)),(4,.v (.bool flex)),(15,.v (.slice A6 ((qas s2).length) c7))] af cg fun eV cm=>?_
  refine qae (qab ?_)
  refine wp_seq ?_
  refine qaq [(2,.v (.bool null)),(4,.v (.bool flex)),(15,.v (.slice A6 ((qas s2).length) c7)),(50,.v (.bool null))] af cm fun eW aM=>?_
  refine qaA aM (b:=null) kz (fun aO=>?_) (fun aO=>?_)
  ·
   refine qar [0] kz ?_
   refine qaj [0] [] [(2,.v (.bool null)),(4,.v (.bool flex)),(15,.v (.slice none 0 0))] af aM fun eX cq=>?_
   refine qae (qab ?_)
   refine qad [0,1,2,3,4,5,6,7] kz ?_
   refine qaj [0,1,2,3] [4,5,6,7] [(15,.v (.slice none 0 0)),(51,.v (.bool flex)),(52,.v (.bool null)),(54,.v (.int .i64 0))] af cq fun eY cr=>?_
   refine qal (qak cr (f:=108) (vs:=[.bool flex,.bool null,.int .i64 0,.int .i64 4]) (d:=55) kz Tryd.call108 (qcD flex null 0 4 (by first | omega | exact Nat.le_trans (qbc _) (by decide) | exact Nat.le_trans (qb3 _) (by decide) | (simp; done) | (have:=hroom; omega)) (by first | decide | omega) _) ?_)
   rintro e_ eZ ⟨aP,aQ,rfl,cu,cw⟩
   refine ⟨_,rfl,fun e9 cz=>?_⟩
   obtain ⟨bg,dY⟩:=af.frFresh cw (brow aP aQ 5 (qai flex null 0 4)) (Nat.le_refl _) cu
   refine qaj [5] [6,7] [(55,.v (.slice aP ((qai flex null 0 4).length) aQ)),(56,.v (.slice none 0 0))] bg cz fun fa cA=>?_
   refine qal (qaJ bg cA (k:=0) (d:=57) (t:=22) (e:=5) (size:=1) (bytes:=1) (A:=aP) (As:=none) (m0:=((qai flex null 0 4).length)) (c:=aQ) (m:=0) (cs:=0) (xs:=(bc (qai flex null 0 4))) (news:=bc ([]:Bs)) kz kz rfl (Octs.nil _ (fun _ _=>True)).src (fun _=>rfl) (by first | exact qcn (by omega) (by decide) (by omega) | exact qcn (Nat.le_trans (qbc _) (by decide)) (by decide) (Nat.le_trans (qbc _) (by decide)) | (simp; done)) fun aw ax fb fe dZ cB cC=>?_)
   have cD:(⟨aw,ax,5,1,(qai flex null 0 4).length + 0,bc (qai flex null 0 4) ++ bc ([]:Bs)⟩:Rw) = brow aw ax 5 (qai flex null 0 4 ++ ([]:Bs)):=qbj (rfl) rfl
   obtain ⟨aR,d5⟩:=cB.rowEq 0 [brow aw ax 5 (qai flex null 0 4 ++ ([]:Bs))] cD
   have cE:=EnvOk.pick cC (ks:=[55,56,57]) (env':=[(55,.v (.slice aP ((qai flex null 0 4).length) aQ)),(56,.v (.slice none 0 0)),(57,.v (.slice aw ((qai flex null 0 4).length + 0) ax))]) kz
   have cG:=cE.cast (env':=[(55,.v (.slice aP ((qai flex null 0 4).length) aQ)),(56,.v (.slice none 0 0)),(57,.v (.slice aw ((qai flex null 0 4 ++ ([]:Bs)).length) ax))]) (by simp only [List.length_append,List.length_cons,List.length_nil,Nat.zero_add])
   refine qaj [7] [] [(12,.v (.slice aw ((qai flex null 0 4 ++ ([]:Bs)).length) ax))] aR cG fun ff cH=>?_
   refine qae (qab ?_)
   refine wp_ret ?_
   refine qaI ?_
   refine qax ?_
   refine qaG cH aR.cells (v:=.slice aw ((qai flex null 0 4 ++ ([]:Bs)).length) ax) kz ?_
   exact qaS aR (k:=0) rfl (by (try simp only [and1]); simp [qaz,Tree.S,Tree.N,ak,am,al,ba,ac,ae,ag,ab,aO])
  refine wp_skip ?_
  refine qab ?_
  refine qad [0,1,2,3,4,5,6,7] kz ?_
  refine qaj [0,1,2,3] [4,5,6,7] [(15,.v (.slice A6 ((qas s2).length) c7)),(51,.v (.bool flex)),(52,.v (.bool null)),(54,.v (.int .i64 (((qas s2).length:Nat):Int)))] af aM fun fg cI=>?_
  refine qal (qak cI (f:=108) (vs:=[.bool flex,.bool null,.int .i64 (((qas s2).length:Nat):Int),.int .i64 4]) (d:=55) kz Tryd.call108 (qcD flex null ((qas s2).length) 4 (by first | omega | exact Nat.le_trans (qbc _) (by decide) | exact Nat.le_trans (qb3 _) (by decide) | (simp; done) | (have:=hroom; omega)) (by first | decide | omega) _) ?_)
  rintro e_ fh ⟨aS,aT,rfl,cJ,cK⟩
  refine ⟨_,rfl,fun fi cL=>?_⟩
  obtain ⟨ai,d6⟩:=af.frFresh cK (brow aS aT 5 (qai flex null ((qas s2).length) 4)) (Nat.le_refl _) cJ
  refine qaj [5] [6,7] [(55,.v (.slice aS ((qai flex null ((qas s2).length) 4).length) aT)),(56,.v (.slice A6 ((qas s2).length) c7))] ai cL fun fj cM=>?_
  refine qal (qaJ ai cM (k:=0) (d:=57) (t:=22) (e:=5) (size:=1) (bytes:=1) (A:=aS) (As:=A6) (m0:=((qai flex null ((qas s2).length) 4).length)) (c:=aT) (m:=((qas s2).length)) (cs:=c7) (xs:=(bc (qai flex null ((qas s2).length) 4))) (news:=bc (qas s2)) kz kz rfl ((aY.take 32767).move ai.step nilM ai.imm).src ((aY.take 32767).move ai.step nilM ai.imm).cap (by first | exact qcn (by omega) (by decide) (by omega) | exact qcn (Nat.le_trans (qbc _) (by decide)) (by decide) (Nat.le_trans (qbc _) (by decide)) | (simp; done)) fun ay az fk fl d7 cN cO=>?_)
  have cP:(⟨ay,az,5,1,(qai flex null ((qas s2).length) 4).length + (qas s2).length,bc (qai flex null ((qas s2).length) 4) ++ bc (qas s2)⟩:Rw) = brow ay az 5 (qai flex null ((qas s2).length) 4 ++ (qas s2)):=qbj (rfl) rfl
  obtain ⟨aU,d8⟩:=cN.rowEq 0 [brow ay az 5 (qai flex null ((qas s2).length) 4 ++ (qas s2))] cP
  have cQ:=EnvOk.pick cO (ks:=[55,56,57]) (env':=[(55,.v (.slice aS ((qai flex null ((qas s2).length) 4).length) aT)),(56,.v (.slice A6 ((qas s2).length) c7)),(57,.v (.slice ay ((qai flex null ((qas s2).length) 4).length + (qas s2).length) az))]) kz
  have cR:=cQ.cast (env':=[(55,.v (.slice aS ((qai flex null ((qas s2).length) 4).length) aT)),(56,.v (.slice A6 ((qas s2).length) c7)),(57,.v (.slice ay ((qai flex null ((qas s2).length) 4 ++ (qas s2)).length) az))]) (by simp only [List.length_append,List.length_cons,List.length_nil,Nat.zero_add])
  refine qaj [7] [] [(12,.v (.slice ay ((qai flex null ((qas s2).length) 4 ++ (qas s2)).length) az))] aU cR fun fm cS=>?_
  refine qae (qab ?_)
  refine wp_ret ?_
  refine qaI ?_
  refine qax ?_
  refine qaG cS aU.cells (v:=.slice ay ((qai flex null ((qas s2).length) 4 ++ (qas s2)).length) az) kz ?_
  exact qaS aU (k:=0) rfl (by (try simp only [and1]); simp [qaz,Tree.S,Tree.N,ak,am,al,ba,ac,ae,ag,ab,aO])
 have aV:kind ≠ 9:=by simpa using ab
 refine qaq [(0,.v (.int .i64 kind)),(1,.v (.slice A l.length c)),(3,.v (.int .i64 v)),(4,.v (.bool flex)),(11,.p 0 0),(58,.v (.bool (kind == 10)))] aa aL fun fo aW=>?_
 refine qaA aW (b:=kind == 10) kz (fun aj=>?_) (fun aj=>?_)
 ·
  have bh:kind = 10:=by simpa using aj
  refine qad [0,1,2,3,4,5] kz ?_
  refine qaj [0,1,2,3] [4,5] [(60,.v (.slice A l.length c)),(61,.v (.int .i64 v)),(62,.v (.bool flex)),(63,.v (.agg #[.int .i64 n1,.slice A6 s2.length c7,.bool b3,.slice A8 l4.length c9,.slice di u5.length dj]))] aa aW fun fq cT=>?_
  refine qal (qak cT (f:=57) (vs:=[.slice A l.length c,.int .i64 v,.bool flex,.agg #[.int .i64 n1,.slice A6 s2.length c7,.bool b3,.slice A8 l4.length c9,.slice di u5.length dj]]) (d:=64) kz Tryd.call57 (hp _ _ l v flex _ (Tree.mk n1 s2 b3 l4 u5) _ _ ⟨xfs,(h1.move aa.step nilM aa.imm),(fun i_ x_ h_=>((h2 i_ x_ h_).move aa.step nilM aa.imm))⟩ hd (ht.move aa.step nilM aa.imm) (by simpa [qaz,ak,am,al,aV,bh,ac,ae,ag,ab,aj] using hroom)) ?_)
  rintro e_ fr ⟨bx,bz,rfl,cU,cV⟩
  refine ⟨_,rfl,fun ft cW=>?_⟩
  obtain ⟨aX,d9⟩:=aa.frFresh cV (brow bx bz 5 (qaF d l v flex (Tree.mk n1 s2 b3 l4 u5))) (Nat.le_refl _) cU
  refine qaj [5] [] [(12,.v (.slice bx ((qaF d l v flex (Tree.mk n1 s2 b3 l4 u5)).length) bz))] aX cW fun fu cX=>?_
  refine qae (qab ?_)
  refine wp_ret ?_
  refine qaI ?_
  refine qax ?_
  refine qaG cX aX.cells (v:=.slice bx ((qaF d l v flex (Tree.mk n1 s2 b3 l4 u5)).length) bz) kz ?_
  exact qaS aX (k:=0) rfl (by (try simp only [and1]); simp [qaz,Tree.S,Tree.N,ak,am,al,aV,bh,ac,ae,ag,ab,aj])
 have cY:kind ≠ 10:=by simpa using aj
 refine wp_skip ?_
 refine qau ?_
 refine qab ?_
 refine qaT 5 kz aa fun fv ea bi cZ=>?_
 refine qaH [0,1,2] [(66,.v (.int .i64 n1)),(67,.v (.int .i64 kind))] 3 (qaa qaf) (fun _ h=>h.cells) cZ aW fun fw c5=>?_
 refine qaE (i:=3) kz (qak c5 (f:=72) (vs:=[.int .i64 kind]) (d:=68) kz Tryd.call72 (qf5 kind _) ?_)
 rintro e_ fx ⟨rfl,bj⟩
 refine ⟨_,rfl,fun fy c6=>?_⟩
 have bk:=bi.next_nil bj
 have bn:=bi.frN bj
 have da:=TT.ofW bn bk
 refine ⟨fun _=>da,?_⟩
 refine qaE (i:=4) kz (qak c6 (f:=28) (vs:=[.int .i64 n1,.int .i64 ((qa6 kind:Nat):Int)]) (d:=69) kz Tryd.call28 (qc8 n1 (qa6 kind) (by first | decide | exact qbu _ | omega) _) ?_)
 rintro e_ fA ⟨bA,bB,rfl,db,dc⟩
 refine ⟨_,rfl,fun fB de=>?_⟩
 obtain ⟨aA,df⟩:=bk.frFresh dc (brow bA bB 5 (be (qa6 kind) n1)) (Nat.le_refl _) db
 have dg:=TT.ofW (bn.trans df) aA
 refine ⟨fun _=>dg,?_⟩
 refine qaE (i:=5) kz (qbp [12] aA.cells de (env':=[(12,.v (.slice bA ((be (qa6 kind) n1).length) bB))]) kz fun fC dh=>?_)
 refine ⟨fun h=>absurd rfl h,?_⟩
 refine qaL kz ?_ _
 refine qab ?_
 refine wp_ret ?_
 refine qaG dh aA.cells (v:=.slice bA ((be (qa6 kind) n1).length) bB) kz ?_
 exact qaS aA (k:=0) rfl (by (try simp only [and1]); simp [qaz,Tree.S,Tree.N,ak,am,al,aV,cY,ac,ae,ag,ab,aj])
theorem qhy {d:Nat} (hp:qf7 d) (cf:List Value) (f:Fld) (v:Int) (flex:Bool) (ct:List Value) (t:Tree) (w:World) (F:Nat → Nat → Prop) (hf:FldR w F cf f) (hd:depths f.sub ≤ d) (ht:TreeR w F ct t) (hroom:(qbN d f v flex t).length ≤ 1099511627776) :
  Calls Tryd.prog 82 #[.agg cf.toArray,.int .i64 v,.bool flex,.agg ct.toArray] w (qcl w 5 (qbN d f v flex t)):=by
 obtain ⟨n1,s2,b3,l4,u5,A6,c7,A8,c9,aK,aL,fa,rfl,rfl,fb,dY,fe,gt⟩:=ht.open_
 have ez:=fb.small
 have eB:=dY.small
 obtain ⟨ac,af,ag,ae,ah,ai,ab,aa,ay,az,bz,rfl,rfl,ce,dX⟩:=hf.open_
 have eC:=ce.small
 refine enter (n:=76) Tryd.func82 rfl Tryd.ntmps82 kz fun a hE=>?_
 have hW:=WOk.start w Nil
 refine qad [0,1,2] kz ?_
 refine qal (qa5 hW hE (d:=4) (cs:=[.int .i64 ac,.int .i64 af,.int .i64 ag,.int .i64 ae,.int .i64 ah,.int .i64 ai,.int .i64 ab,.slice ay aa.length az]) kz fun eD gv gw ff fg fh dZ d5=>?_)
 refine qal (qa5 dZ d5 (d:=7) (cs:=[.int .i64 n1,.slice A6 s2.length c7,.bool b3,.slice A8 l4.length c9,.slice aK u5.length aL]) kz fun eE gx gy fi fj fk bA d6=>?_)
 refine qaj [2] [] [(1,.v (.int .i64 v)),(2,.v (.bool flex)),(4,.p 0 0),(7,.p 1 0)] bA d6 fun gz d7=>?_
 refine qae (qab ?_)
 refine qad [0,1,2,3,4] kz ?_
 refine qaj [0,1,2] [3,4] [(1,.v (.int .i64 v)),(2,.v (.bool flex)),(4,.p 0 0),(7,.p 1 0),(13,.v (.agg #[.int .i64 ac,.int .i64 af,.int .i64 ag,.int .i64 ae,.int .i64 ah,.int .i64 ai,.int .i64 ab,.slice ay aa.length az])),(14,.v (.int .i64 v)),(15,.v (.agg #[.int .i64 n1,.slice A6 s2.length c7,.bool b3,.slice A8 l4.length c9,.slice aK u5.length aL]))] bA d7 fun gA d8=>?_
 refine qal (qak d8 (f:=73) (vs:=[.agg #[.int .i64 ac,.int .i64 af,.int .i64 ag,.int .i64 ae,.int .i64 ah,.int .i64 ai,.int .i64 ab,.slice ay aa.length az],.int .i64 v,.agg #[.int .i64 n1,.slice A6 s2.length c7,.bool b3,.slice A8 l4.length c9,.slice aK u5.length aL]]) (d:=16) kz Tryd.call73 (qhJ ac af ag ae ah ai ab aa _ _ v n1 s2 b3 l4 u5 _ _ _ _ _ _ _) ?_)
 rintro e_ gB ⟨rfl,cg⟩
 refine ⟨_,rfl,fun gC d9=>?_⟩
 have aj:=bA.next_nil cg
 have fl:=bA.frN cg
 refine qaj [4] [] [(1,.v (.int .i64 v)),(2,.v (.bool flex)),(4,.p 0 0),(7,.p 1 0),(9,.v (.bool (Fld.nul (Fld.mk ac af ag ae ah ai ab aa) v (Tree.mk n1 s2 b3 l4 u5))))] aj d9 fun gD ea=>?_
 refine qae (qab ?_)
 refine wp_seq ?_
 refine qaq [(1,.v (.int .i64 v)),(2,.v (.bool flex)),(4,.p 0 0),(7,.p 1 0),(9,.v (.bool (Fld.nul (Fld.mk ac af ag ae ah ai ab aa) v (Tree.mk n1 s2 b3 l4 u5)))),(19,.v (.bool (ac == 11)))] aj ea fun gE bO=>?_
 refine qaA bO (b:=ac == 11) kz (fun bP=>?_) (fun bP=>?_)
 ·
  have fm:ac = 11:=by simpa using bP
  refine qad [0,1,2,3] kz ?_
  refine qaj [0,1] [2,3] [(1,.v (.int .i64 v)),(2,.v (.bool flex)),(4,.p 0 0),(9,.v (.bool (Fld.nul (Fld.mk ac af ag ae ah ai ab aa) v (Tree.mk n1 s2 b3 l4 u5)))),(21,.v (.slice A8 l4.length c9))] aj bO fun gF eb=>?_
  refine qal (qak eb (f:=74) (vs:=[.slice A8 l4.length c9]) (d:=22) kz Tryd.call74 (qhg _ _ l4 (dY.move aj.step nilM aj.imm).le _) ?_)
  rintro e_ gG ⟨rfl,cm⟩
  refine ⟨_,rfl,fun gH ec=>?_⟩
  have aB:=aj.next_nil cm
  have fo:=aj.frN cm
  refine qaj [3] [] [(1,.v (.int .i64 v)),(2,.v (.bool flex)),(4,.p 0 0),(9,.v (.bool (Fld.nul (Fld.mk ac af ag ae ah ai ab aa) v (Tree.mk n1 s2 b3 l4 u5)))),(10,.v (.slice A8 ((qao l4).length) c9))] aB ec fun gI ee=>?_
  refine qae (qab ?_)
  refine wp_seq ?_
  refine qaq [(1,.v (.int .i64 v)),(2,.v (.bool flex)),(4,.p 0 0),(9,.v (.bool (Fld.nul (Fld.mk ac af ag ae ah ai ab aa) v (Tree.mk n1 s2 b3 l4 u5)))),(10,.v (.slice A8 ((qao l4).length) c9)),(23,.v (.bool (Fld.nul (Fld.mk ac af ag ae ah ai ab aa) v (Tree.mk n1 s2 b3 l4 u5))))] aB ee fun gJ bQ=>?_
  refine qaA bQ (b:=Fld.nul (Fld.mk ac af ag ae ah ai ab aa) v (Tree.mk n1 s2 b3 l4 u5)) kz (fun ef=>?_) (fun ef=>?_)
  ·
   refine qar [0] kz ?_
   refine qaj [0] [] [(1,.v (.int .i64 v)),(2,.v (.bool flex)),(4,.p 0 0),(9,.v (.bool (Fld.nul (Fld.mk ac af ag ae ah ai ab aa) v (Tree.mk n1 s2 b3 l4 u5)))),(10,.v (.slice none 0 0))] aB bQ fun gK eg=>?_
   refine qae (qab ?_)
   refine qad [0,1,2,3,4,5] kz ?_
   refine qaj [0,1,2,3] [4,5] [(1,.v (.int .i64 v)),(2,.v (.bool flex)),(4,.p 0 0),(10,.v (.slice none 0 0)),(24,.v (.bool flex)),(25,.v (.bool (Fld.nul (Fld.mk ac af ag ae ah ai ab aa) v (Tree.mk n1 s2 b3 l4 u5)))),(27,.v (.int .i64 0))] aB eg fun gL eh=>?_
   refine qal (qak eh (f:=108) (vs:=[.bool flex,.bool (Fld.nul (Fld.mk ac af ag ae ah ai ab aa) v (Tree.mk n1 s2 b3 l4 u5)),.int .i64 0,.int .i64 4]) (d:=28) kz Tryd.call108 (qcD flex (Fld.nul (Fld.mk ac af ag ae ah ai ab aa) v (Tree.mk n1 s2 b3 l4 u5)) 0 4 (by first | omega | exact Nat.le_trans (qbc _) (by decide) | exact Nat.le_trans (qb3 _) (by decide) | (simp; done) | (have:=hroom; omega)) (by first | decide | omega) _) ?_)
   rintro e_ gM ⟨b8,cd,rfl,ei,ej⟩
   refine ⟨_,rfl,fun gN ek=>?_⟩
   obtain ⟨bR,fq⟩:=aB.frFresh ej (brow b8 cd 5 (qai flex (Fld.nul (Fld.mk ac af ag ae ah ai ab aa) v (Tree.mk n1 s2 b3 l4 u5)) 0 4)) (Nat.le_refl _) ei
   refine qaj [5] [] [(1,.v (.int .i64 v)),(2,.v (.bool flex)),(4,.p 0 0),(10,.v (.slice none 0 0)),(11,.v (.slice b8 ((qai flex (Fld.nul (Fld.mk ac af ag ae ah ai ab aa) v (Tree.mk n1 s2 b3 l4 u5)) 0 4).length) cd))] bR ek fun gO em=>?_
   refine qae (qab ?_)
   refine wp_seq ?_
   refine qaq [(1,.v (.int .i64 v)),(2,.v (.bool flex)),(4,.p 0 0),(10,.v (.slice none 0 0)),(11,.v (.slice b8 ((qai flex (Fld.nul (Fld.mk ac af ag ae ah ai ab aa) v (Tree.mk n1 s2 b3 l4 u5)) 0 4).length) cd)),(30,.v (.int .i64 0)),(31,.v (.int .i64 0))] bR em fun gP cq=>?_
   refine wp_block ?_
   have hr2:(qai flex (Fld.nul (Fld.mk ac af ag ae ah ai ab aa) v (Tree.mk n1 s2 b3 l4 u5)) 0 4 ++ ([]:List Tree).flatMap (qaz (qaF d aa v flex) ab false flex)).length ≤ 1099511627776:=by have h_:=hroom; rw [qdF ‹_› ‹_›] at h_; exact h_
   rw [List.length_append] at hr2
   have hr3:=qbO ([]:List Tree) (qaz (qaF d aa v flex) ab false flex)
   have cr:(qai flex (Fld.nul (Fld.mk ac af ag ae ah ai ab aa) v (Tree.mk n1 s2 b3 l4 u5)) 0 4) = (qai flex (Fld.nul (Fld.mk ac af ag ae ah ai ab aa) v (Tree.mk n1 s2 b3 l4 u5)) 0 4 ++ (([]:List Tree).take 0).flatMap (qaz (qaF d aa v flex) ab false flex)):=by simp
   have cu:=congrArg (brow b8 cd 5) cr
   obtain ⟨bD,eF⟩:=bR.rowEq 0 [brow b8 cd 5 (qai flex (Fld.nul (Fld.mk ac af ag ae ah ai ab aa) v (Tree.mk n1 s2 b3 l4 u5)) 0 4 ++ (([]:List Tree).take 0).flatMap (qaz (qaF d aa v flex) ab false flex))] cu
   rw [cr] at cq
   refine wp_loop_ghost (fun n_ a_ w_=>∃ (k:Nat) (A_:Option Addr) (c_:Nat),n_ = 0 - k ∧ k ≤ 0 ∧ LInv bD 76 [⟨eD,0,[.int .i64 ac,.int .i64 af,.int .i64 ag,.int .i64 ae,.int .i64 ah,.int .i64 ai,.int .i64 ab,.slice ay aa.length az],true⟩,⟨eE,0,[.int .i64 n1,.slice A6 s2.length c7,.bool b3,.slice A8 l4.length c9,.slice aK u5.length aL],true⟩] [brow A_ c_ 5 (qai flex (Fld.nul (Fld.mk ac af ag ae ah ai ab aa) v (Tree.mk n1 s2 b3 l4 u5)) 0 4 ++ (([]:List Tree).take k).flatMap (qaz (qaF d aa v flex) ab false flex))] [(1,.v (.int .i64 v)),(2,.v (.bool flex)),(4,.p 0 0),(10,.v (.slice none 0 0)),(11,.v (.slice A_ ((qai flex (Fld.nul (Fld.mk ac af ag ae ah ai ab aa) v (Tree.mk n1 s2 b3 l4 u5)) 0 4 ++ (([]:List Tree).take k).flatMap (qaz (qaF d aa v flex) ab false flex)).length) c_)),(30,.v (.int .i64 0)),(31,.v (.int .i64 ((k:Nat):Int)))] a_ w_) (0) ⟨0,b8,cd,by omega,by omega,cq.pk,bD,Fr.refl _ _ _⟩ ?_
   rintro fr ft fu ⟨k,A_,c_,eG,eH,cw,aE,eI⟩
   refine qaq [(1,.v (.int .i64 v)),(2,.v (.bool flex)),(4,.p 0 0),(10,.v (.slice none 0 0)),(11,.v (.slice A_ ((qai flex (Fld.nul (Fld.mk ac af ag ae ah ai ab aa) v (Tree.mk n1 s2 b3 l4 u5)) 0 4 ++ (([]:List Tree).take k).flatMap (qaz (qaF d aa v flex) ab false flex)).length) c_)),(30,.v (.int .i64 0)),(31,.v (.int .i64 ((k:Nat):Int))),(32,.v (.bool (decide (((k:Nat):Int) < 0))))] aE cw fun fv bE=>?_
   refine wp_seq ?_
   refine qaQ bE (b:=decide (((k:Nat):Int) < 0)) kz (decide_eq_false (by omega)) ?_
   refine wp_exit ?_
   refine qav ?_
   refine qav ?_
   refine qaM ?_
   refine qab ?_
   refine qaq [(8,.v (.slice A_ ((qai flex (Fld.nul (Fld.mk ac af ag ae ah ai ab aa) v (Tree.mk n1 s2 b3 l4 u5)) 0 4 ++ (([]:List Tree).take k).flatMap (qaz (qaF d aa v flex) ab false flex)).length) c_))] aE bE fun fw cz=>?_
   refine wp_ret ?_
   refine qax ?_
   refine qaG cz aE.cells (v:=.slice A_ ((qai flex (Fld.nul (Fld.mk ac af ag ae ah ai ab aa) v (Tree.mk n1 s2 b3 l4 u5)) 0 4 ++ (([]:List Tree).take k).flatMap (qaz (qaF d aa v flex) ab false flex)).length) c_) kz ?_
   exact qaS aE (k:=0) rfl (by rw [qdF ‹_› ‹_›]; simp)
  refine wp_skip ?_
  refine qab ?_
  refine qad [0,1,2,3,4,5] kz ?_
  refine qaj [0,1,2,3] [4,5] [(1,.v (.int .i64 v)),(2,.v (.bool flex)),(4,.p 0 0),(10,.v (.slice A8 ((qao l4).length) c9)),(24,.v (.bool flex)),(25,.v (.bool (Fld.nul (Fld.mk ac af ag ae ah ai ab aa) v (Tree.mk n1 s2 b3 l4 u5)))),(27,.v (.int .i64 (((qao l4).length:Nat):Int)))] aB bQ fun fx cA=>?_
  refine qal (qak cA (f:=108) (vs:=[.bool flex,.bool (Fld.nul (Fld.mk ac af ag ae ah ai ab aa) v (Tree.mk n1 s2 b3 l4 u5)),.int .i64 (((qao l4).length:Nat):Int),.int .i64 4]) (d:=28) kz Tryd.call108 (qcD flex (Fld.nul (Fld.mk ac af ag ae ah ai ab aa) v (Tree.mk n1 s2 b3 l4 u5)) ((qao l4).length) 4 (by first | omega | exact Nat.le_trans (qbc _) (by decide) | exact Nat.le_trans (qb3 _) (by decide) | (simp; done) | (have:=hroom; omega)) (by first | decide | omega) _) ?_)
  rintro e_ fy ⟨aM,aO,rfl,cB,cC⟩
  refine ⟨_,rfl,fun fA cD=>?_⟩
  obtain ⟨aP,eJ⟩:=aB.frFresh cC (brow aM aO 5 (qai flex (Fld.nul (Fld.mk ac af ag ae ah ai ab aa) v (Tree.mk n1 s2 b3 l4 u5)) ((qao l4).length) 4)) (Nat.le_refl _) cB
  refine qaj [5] [] [(1,.v (.int .i64 v)),(2,.v (.bool flex)),(4,.p 0 0),(10,.v (.slice A8 ((qao l4).length) c9)),(11,.v (.slice aM ((qai flex (Fld.nul (Fld.mk ac af ag ae ah ai ab aa) v (Tree.mk n1 s2 b3 l4 u5)) ((qao l4).length) 4).length) aO))] aP cD fun fB cE=>?_
  refine qae (qab ?_)
  refine wp_seq ?_
  refine qaq [(1,.v (.int .i64 v)),(2,.v (.bool flex)),(4,.p 0 0),(10,.v (.slice A8 ((qao l4).length) c9)),(11,.v (.slice aM ((qai flex (Fld.nul (Fld.mk ac af ag ae ah ai ab aa) v (Tree.mk n1 s2 b3 l4 u5)) ((qao l4).length) 4).length) aO)),(30,.v (.int .i64 (((qao l4).length:Nat):Int))),(31,.v (.int .i64 0))] aP cE fun fC bF=>?_
  refine wp_block ?_
  have hr2:(qai flex (Fld.nul (Fld.mk ac af ag ae ah ai ab aa) v (Tree.mk n1 s2 b3 l4 u5)) ((qao l4).length) 4 ++ (qao l4).flatMap (qaz (qaF d aa v flex) ab false flex)).length ≤ 1099511627776:=by have h_:=hroom; rw [qea ‹_› ‹_›] at h_; exact h_
  rw [List.length_append] at hr2
  have hr3:=qbO (qao l4) (qaz (qaF d aa v flex) ab false flex)
  have hsm3:(qao l4).length ≤ 32767:=by simp only [qao,List.length_take]; omega
  have bG:(qai flex (Fld.nul (Fld.mk ac af ag ae ah ai ab aa) v (Tree.mk n1 s2 b3 l4 u5)) ((qao l4).length) 4) = (qai flex (Fld.nul (Fld.mk ac af ag ae ah ai ab aa) v (Tree.mk n1 s2 b3 l4 u5)) ((qao l4).length) 4 ++ ((qao l4).take 0).flatMap (qaz (qaF d aa v flex) ab false flex)):=by simp
  have cG:=congrArg (brow aM aO 5) bG
  obtain ⟨bH,eK⟩:=aP.rowEq 0 [brow aM aO 5 (qai flex (Fld.nul (Fld.mk ac af ag ae ah ai ab aa) v (Tree.mk n1 s2 b3 l4 u5)) ((qao l4).length) 4 ++ ((qao l4).take 0).flatMap (qaz (qaF d aa v flex) ab false flex))] cG
  rw [bG] at bF
  refine wp_loop_ghost (fun n_ a_ w_=>∃ (k:Nat) (A_:Option Addr) (c_:Nat),n_ = (qao l4).length - k ∧ k ≤ (qao l4).length ∧ LInv bH 76 [⟨eD,0,[.int .i64 ac,.int .i64 af,.int .i64 ag,.int .i64 ae,.int .i64 ah,.int .i64 ai,.int .i64 ab,.slice ay aa.length az],true⟩,⟨eE,0,[.int .i64 n1,.slice A6 s2.length c7,.bool b3,.slice A8 l4.length c9,.slice aK u5.length aL],true⟩] [brow A_ c_ 5 (qai flex (Fld.nul (Fld.mk ac af ag ae ah ai ab aa) v (Tree.mk n1 s2 b3 l4 u5)) ((qao l4).length) 4 ++ ((qao l4).take k).flatMap (qaz (qaF d aa v flex) ab false flex))] [(1,.v (.int .i64 v)),(2,.v (.bool flex)),(4,.p 0 0),(10,.v (.slice A8 ((qao l4).length) c9)),(11,.v (.slice A_ ((qai flex (Fld.nul (Fld.mk ac af ag ae ah ai ab aa) v (Tree.mk n1 s2 b3 l4 u5)) ((qao l4).length) 4 ++ ((qao l4).take k).flatMap (qaz (qaF d aa v flex) ab false flex)).length) c_)),(30,.v (.int .i64 (((qao l4).length:Nat):Int))),(31,.v (.int .i64 ((k:Nat):Int)))] a_ w_) ((qao l4).length) ⟨0,aM,aO,by omega,by omega,bF.pk,bH,Fr.refl _ _ _⟩ ?_
  rintro fD fE fF ⟨k,A_,c_,eL,eM,cH,ax,cI⟩
  refine qaq [(1,.v (.int .i64 v)),(2,.v (.bool flex)),(4,.p 0 0),(10,.v (.slice A8 ((qao l4).length) c9)),(11,.v (.slice A_ ((qai flex (Fld.nul (Fld.mk ac af ag ae ah ai ab aa) v (Tree.mk n1 s2 b3 l4 u5)) ((qao l4).length) 4 ++ ((qao l4).take k).flatMap (qaz (qaF d aa v flex) ab false flex)).length) c_)),(30,.v (.int .i64 (((qao l4).length:Nat):Int))),(31,.v (.int .i64 ((k:Nat):Int))),(32,.v (.bool (decide (((k:Nat):Int) < (((qao l4).length:Nat):Int)))))] ax cH fun fG aQ=>?_
  refine wp_seq ?_
  refine qaA aQ (b:=decide (((k:Nat):Int) < (((qao l4).length:Nat):Int))) kz (fun aR=>?_) (fun aR=>?_)
  ·
   have eN:=of_decide_eq_true aR
   refine wp_skip ?_
   refine qab ?_
   refine wp_seq ?_
   refine wp_block ?_
   refine qaq [(1,.v (.int .i64 v)),(2,.v (.bool flex)),(4,.p 0 0),(10,.v (.slice A8 ((qao l4).length) c9)),(11,.v (.slice A_ ((qai flex (Fld.nul (Fld.mk ac af ag ae ah ai ab aa) v (Tree.mk n1 s2 b3 l4 u5)) ((qao l4).length) 4 ++ ((qao l4).take k).flatMap (qaz (qaF d aa v flex) ab false flex)).length) c_)),(12,.v (.int .i64 ((k:Nat):Int))),(30,.v (.int .i64 (((qao l4).length:Nat):Int))),(31,.v (.int .i64 ((k:Nat):Int)))] ax aQ fun fH cJ=>?_
   refine qdQ 13 kz ax fun fI cK ar aS=>?_
   refine qaH [0,1,2,3,4,5,6,7,8] [(1,.v (.int .i64 v)),(2,.v (.bool flex)),(4,.p 0 0),(10,.v (.slice A8 ((qao l4).length) c9)),(11,.v (.slice A_ ((qai flex (Fld.nul (Fld.mk ac af ag ae ah ai ab aa) v (Tree.mk n1 s2 b3 l4 u5)) ((qao l4).length) 4 ++ ((qao l4).take k).flatMap (qaz (qaF d aa v flex) ab false flex)).length) c_)),(30,.v (.int .i64 (((qao l4).length:Nat):Int))),(31,.v (.int .i64 ((k:Nat):Int))),(34,.v (.slice A_ ((qai flex (Fld.nul (Fld.mk ac af ag ae ah ai ab aa) v (Tree.mk n1 s2 b3 l4 u5)) ((qao l4).length) 4 ++ ((qao l4).take k).flatMap (qaz (qaF d aa v flex) ab false flex)).length) c_)),(36,.v (.int .i64 ab)),(38,.v (.slice ay aa.length az)),(39,.v (.int .i64 v)),(40,.v (.bool flex)),(41,.v (.slice A8 ((qao l4).length) c9)),(42,.v (.int .i64 ((k:Nat):Int)))] 5 (qac (qaa (qaa (qac (qaa (qaa qaf)))))) (fun _ h=>h.cells) aS cJ fun fJ cL=>?_
   obtain ⟨bS,bT,cM,eO,aT⟩:=Slots.get (qd7 dY) (i:=k) (by omega)
   obtain ⟨eo,aF⟩:∃ x,(qao l4)[k]? = some x:=⟨_,List.getElem?_eq_getElem (by omega)⟩
   have aU:=(qeq fe) k eo aF
   obtain ⟨ak,al,am,ao,ap,aV,aW,aX,aY,aZ,ba,eP,rfl,bf,ep,eu,fK,fL⟩:=aU.open_
   rw [bf] at aU
   have ew:=ep.small
   have ey:=eu.small
   rw [bf] at aT
   refine qaO cL (i:=9) (t:=34) (A:=A8) (m:=((qao l4).length)) (q:=((k:Nat):Int)) (d:=43) kz (e:=37) (size:=5) (bytes:=88) kz cM rfl (by omega) kz kz (qac (qaa (qaa (qac (qaa (qaa qaf)))))) aS fun fM cN=>?_
   refine qaV cN (i:=10) (t:=37) (b:=bS) (o:=bT + k * 5) (d:=44) kz (cs:=[.int .i64 ak,.slice aV al.length aW,.bool am,.slice aX ao.length aY,.slice aZ ap.length ba]) (v:=.agg #[.int .i64 ak,.slice aV al.length aW,.bool am,.slice aX ao.length aY,.slice aZ ap.length ba]) kz (fun w' h'=>(AtF.move aT (TT.step0 ar h') nilM qbw).at_) kz kz (qac (qaa (qaa (qac (qaa (qaa qaf)))))) aS fun fN cO=>?_
   refine qaE (i:=11) kz (qak cO (f:=109) (vs:=[.int .i64 ab,.slice ay aa.length az,.bool false,.int .i64 v,.bool flex,.agg #[.int .i64 ak,.slice aV al.length aW,.bool am,.slice aX ao.length aY,.slice aZ ap.length ba]]) (d:=45) kz Tryd.call109 (qf8 hp ab _ _ aa false v flex _ (Tree.mk ak al am ao ap) _ _ ⟨bz,(ce.move ar.step nilM ar.imm),(fun i_ x_ h_=>((dX i_ x_ h_).move ar.step nilM ar.imm))⟩ hd (aU.move ar.step nilM ar.imm) (by have:=qdE (g:=qaz (qaF d aa v flex) ab false flex) aF; omega)) ?_)
   rintro e_ fO ⟨bg,bh,rfl,cP,cQ⟩
   refine ⟨_,rfl,fun fP cR=>?_⟩
   obtain ⟨aG,bi⟩:=ar.frFresh cQ (brow bg bh 5 (qaz (qaF d aa v flex) ab false flex (Tree.mk ak al am ao ap))) (Nat.le_refl _) cP
   have cS:=TT.ofW bi aG
   refine ⟨fun _=>cS,?_⟩
   refine qaE (i:=12) kz (qaJ aG cR (k:=0) (d:=46) (t:=22) (e:=5) (size:=1) (bytes:=1) (A:=A_) (As:=bg) (m0:=((qai flex (Fld.nul (Fld.mk ac af ag ae ah ai ab aa) v (Tree.mk n1 s2 b3 l4 u5)) ((qao l4).length) 4 ++ ((qao l4).take k).flatMap (qaz (qaF d aa v flex) ab false flex)).length)) (c:=c_) (m:=((qaz (qaF d aa v flex) ab false flex (Tree.mk ak al am ao ap)).length)) (cs:=bh) (xs:=(bc (qai flex (Fld.nul (Fld.mk ac af ag ae ah ai ab aa) v (Tree.mk n1 s2 b3 l4 u5)) ((qao l4).length) 4 ++ ((qao l4).take k).flatMap (qaz (qaF d aa v flex) ab false flex)))) (news:=bc (qaz (qaF d aa v flex) ab false flex (Tree.mk ak al am ao ap))) kz kz rfl (qbA (aG.own 1 _ rfl) (qb2 _)) (qbG (aG.own 1 _ rfl)) (by rw [List.length_append]; have h8_:=hr3 k; have h9_:=qdE (g:=qaz (qaF d aa v flex) ab false flex) aF; omega) fun av aw fQ fR bI cT cU=>?_)
   have cV:(⟨av,aw,5,1,(qai flex (Fld.nul (Fld.mk ac af ag ae ah ai ab aa) v (Tree.mk n1 s2 b3 l4 u5)) ((qao l4).length) 4 ++ ((qao l4).take k).flatMap (qaz (qaF d aa v flex) ab false flex)).length + (qaz (qaF d aa v flex) ab false flex (Tree.mk ak al am ao ap)).length,bc (qai flex (Fld.nul (Fld.mk ac af ag ae ah ai ab aa) v (Tree.mk n1 s2 b3 l4 u5)) ((qao l4).length) 4 ++ ((qao l4).take k).flatMap (qaz (qaF d aa v flex) ab false flex)) ++ bc (qaz (qaF d aa v flex) ab false flex (Tree.mk ak al am ao ap))⟩:Rw) = brow av aw 5 (qai flex (Fld.nul (Fld.mk ac af ag ae ah ai ab aa) v (Tree.mk n1 s2 b3 l4 u5)) ((qao l4).length) 4 ++ ((qao l4).take k).flatMap (qaz (qaF d aa v flex) ab false flex) ++ (qaz (qaF d aa v flex) ab false flex (Tree.mk ak al am ao ap))):=qbj (rfl) rfl
   obtain ⟨aH,bJ⟩:=cT.rowEq 0 [brow av aw 5 (qai flex (Fld.nul (Fld.mk ac af ag ae ah ai ab aa) v (Tree.mk n1 s2 b3 l4 u5)) ((qao l4).length) 4 ++ ((qao l4).take k).flatMap (qaz (qaF d aa v flex) ab false flex) ++ (qaz (qaF d aa v flex) ab false flex (Tree.mk ak al am ao ap))),brow bg bh 5 (qaz (qaF d aa v flex) ab false flex (Tree.mk ak al am ao ap))] cV
   have cW:=EnvOk.pick cU (ks:=[1,2,4,10,11,30,31,34,36,38,39,40,41,42,43,44,45,46]) (env':=[(1,.v (.int .i64 v)),(2,.v (.bool flex)),(4,.p 0 0),(10,.v (.slice A8 ((qao l4).length) c9)),(11,.v (.slice A_ ((qai flex (Fld.nul (Fld.mk ac af ag ae ah ai ab aa) v (Tree.mk n1 s2 b3 l4 u5)) ((qao l4).length) 4 ++ ((qao l4).take k).flatMap (qaz (qaF d aa v flex) ab false flex)).length) c_)),(30,.v (.int .i64 (((qao l4).length:Nat):Int))),(31,.v (.int .i64 ((k:Nat):Int))),(34,.v (.slice A_ ((qai flex (Fld.nul (Fld.mk ac af ag ae ah ai ab aa) v (Tree.mk n1 s2 b3 l4 u5)) ((qao l4).length) 4 ++ ((qao l4).take k).flatMap (qaz (qaF d aa v flex) ab false flex)).length) c_)),(36,.v (.int .i64 ab)),(38,.v (.slice ay aa.length az)),(39,.v (.int .i64 v)),(40,.v (.bool flex)),(41,.v (.slice A8 ((qao l4).length) c9)),(42,.v (.int .i64 ((k:Nat):Int))),(43,.v (.pointer (some ⟨bS,bT + k * 5,none⟩))),(44,.v (.agg #[.int .i64 ak,.slice aV al.length aW,.bool am,.slice aX ao.length aY,.slice aZ ap.length ba])),(45,.v (.slice bg ((qaz (qaF d aa v flex) ab false flex (Tree.mk ak al am ao ap)).length) bh)),(46,.v (.slice av ((qai flex (Fld.nul (Fld.mk ac af ag ae ah ai ab aa) v (Tree.mk n1 s2 b3 l4 u5)) ((qao l4).length) 4 ++ ((qao l4).take k).flatMap (qaz (qaF d aa v flex) ab false flex)).length + (qaz (qaF d aa v flex) ab false flex (Tree.mk ak al am ao ap)).length) aw))]) kz
   have cX:=cW.cast (env':=[(1,.v (.int .i64 v)),(2,.v (.bool flex)),(4,.p 0 0),(10,.v (.slice A8 ((qao l4).length) c9)),(11,.v (.slice A_ ((qai flex (Fld.nul (Fld.mk ac af ag ae ah ai ab aa) v (Tree.mk n1 s2 b3 l4 u5)) ((qao l4).length) 4 ++ ((qao l4).take k).flatMap (qaz (qaF d aa v flex) ab false flex)).length) c_)),(30,.v (.int .i64 (((qao l4).length:Nat):Int))),(31,.v (.int .i64 ((k:Nat):Int))),(34,.v (.slice A_ ((qai flex (Fld.nul (Fld.mk ac af ag ae ah ai ab aa) v (Tree.mk n1 s2 b3 l4 u5)) ((qao l4).length) 4 ++ ((qao l4).take k).flatMap (qaz (qaF d aa v flex) ab false flex)).length) c_)),(36,.v (.int .i64 ab)),(38,.v (.slice ay aa.length az)),(39,.v (.int .i64 v)),(40,.v (.bool flex)),(41,.v (.slice A8 ((qao l4).length) c9)),(42,.v (.int .i64 ((k:Nat):Int))),(43,.v (.pointer (some ⟨bS,bT + k * 5,none⟩))),(44,.v (.agg #[.int .i64 ak,.slice aV al.length aW,.bool am,.slice aX ao.length aY,.slice aZ ap.length ba])),(45,.v (.slice bg ((qaz (qaF d aa v flex) ab false flex (Tree.mk ak al am ao ap)).length) bh)),(46,.v (.slice av ((qai flex (Fld.nul (Fld.mk ac af ag ae ah ai ab aa) v (Tree.mk n1 s2 b3 l4 u5)) ((qao l4).length) 4 ++ ((qao l4).take k).flatMap (qaz (qaF d aa v flex) ab false flex) ++ (qaz (qaF d aa v flex) ab false flex (Tree.mk ak al am ao ap))).length) aw))]) (by simp only [List.length_append,List.length_cons,List.length_nil,Nat.zero_add])
   have cY:=TT.ofW ((bi.trans bI).trans bJ) aH
   refine ⟨fun _=>cY,?_⟩
   refine qaE (i:=13) kz (qbp [1,2,4,10,11,30,31] aH.cells cX (env':=[(1,.v (.int .i64 v)),(2,.v (.bool flex)),(4,.p 0 0),(10,.v (.slice A8 ((qao l4).length) c9)),(11,.v (.slice av ((qai flex (Fld.nul (Fld.mk ac af ag ae ah ai ab aa) v (Tree.mk n1 s2 b3 l4 u5)) ((qao l4).length) 4 ++ ((qao l4).take k).flatMap (qaz (qaF d aa v flex) ab false flex) ++ (qaz (qaF d aa v flex) ab false flex (Tree.mk ak al am ao ap))).length) aw)),(30,.v (.int .i64 (((qao l4).length:Nat):Int))),(31,.v (.int .i64 ((k:Nat):Int)))]) kz fun fS cZ=>?_)
   refine ⟨fun h=>absurd rfl h,?_⟩
   refine qaL kz ?_ _
   refine qau ?_
   refine qab ?_
   refine qar [0,1] kz ?_
   refine qaj [0,1] [] [(1,.v (.int .i64 v)),(2,.v (.bool flex)),(4,.p 0 0),(10,.v (.slice A8 ((qao l4).length) c9)),(11,.v (.slice av ((qai flex (Fld.nul (Fld.mk ac af ag ae ah ai ab aa) v (Tree.mk n1 s2 b3 l4 u5)) ((qao l4).length) 4 ++ ((qao l4).take k).flatMap (qaz (qaF d aa v flex) ab false flex) ++ (qaz (qaF d aa v flex) ab false flex (Tree.mk ak al am ao ap))).length) aw)),(30,.v (.int .i64 (((qao l4).length:Nat):Int))),(31,.v (.int .i64 (IntKind.i64.wrap (((k:Nat):Int) + 1))))] aH cZ fun fT bj=>?_
   refine qae (qab ?_)
   obtain ⟨c5,c6⟩:=aH.cutR 1 [brow av aw 5 (qai flex (Fld.nul (Fld.mk ac af ag ae ah ai ab aa) v (Tree.mk n1 s2 b3 l4 u5)) ((qao l4).length) 4 ++ ((qao l4).take k).flatMap (qaz (qaF d aa v flex) ab false flex) ++ (qaz (qaF d aa v flex) ab false flex (Tree.mk ak al am ao ap)))]
   have bK:(qai flex (Fld.nul (Fld.mk ac af ag ae ah ai ab aa) v (Tree.mk n1 s2 b3 l4 u5)) ((qao l4).length) 4 ++ ((qao l4).take k).flatMap (qaz (qaF d aa v flex) ab false flex) ++ (qaz (qaF d aa v flex) ab false flex (Tree.mk ak al am ao ap))) = (qai flex (Fld.nul (Fld.mk ac af ag ae ah ai ab aa) v (Tree.mk n1 s2 b3 l4 u5)) ((qao l4).length) 4 ++ ((qao l4).take (k + 1)).flatMap (qaz (qaF d aa v flex) ab false flex)):=by rw [qb4 aF,List.append_assoc]
   have da:=congrArg (brow av aw 5) bK
   obtain ⟨db,dc⟩:=c5.rowEq 0 [brow av aw 5 (qai flex (Fld.nul (Fld.mk ac af ag ae ah ai ab aa) v (Tree.mk n1 s2 b3 l4 u5)) ((qao l4).length) 4 ++ ((qao l4).take (k + 1)).flatMap (qaz (qaF d aa v flex) ab false flex))] da
   rw [bK] at bj
   have de:IntKind.i64.wrap (((k:Nat):Int) + 1) = ((k + 1:Nat):Int):=qaR (by omega)
   rw [de] at bj
   exact ⟨(qao l4).length - (k + 1),by omega,k + 1,av,aw,rfl,by omega,bj.pk,db,((((((cI.trans cK).trans bi).trans bI).trans bJ).trans c6).trans dc)⟩
  have eQ:=of_decide_eq_false aR
  refine wp_exit ?_
  refine qav ?_
  refine qav ?_
  refine qaM ?_
  refine qab ?_
  refine qaq [(8,.v (.slice A_ ((qai flex (Fld.nul (Fld.mk ac af ag ae ah ai ab aa) v (Tree.mk n1 s2 b3 l4 u5)) ((qao l4).length) 4 ++ ((qao l4).take k).flatMap (qaz (qaF d aa v flex) ab false flex)).length) c_))] ax aQ fun fU df=>?_
  refine wp_ret ?_
  refine qax ?_
  refine qaG df ax.cells (v:=.slice A_ ((qai flex (Fld.nul (Fld.mk ac af ag ae ah ai ab aa) v (Tree.mk n1 s2 b3 l4 u5)) ((qao l4).length) 4 ++ ((qao l4).take k).flatMap (qaz (qaF d aa v flex) ab false flex)).length) c_) kz ?_
  have hkk:(qao l4).take k = qao l4:=List.take_of_length_le (by omega)
  exact qaS ax (k:=0) rfl (by rw [hkk,qea ‹_› ‹_›]; rfl)
 have eR:ac ≠ 11:=by simpa using bP
 refine wp_skip ?_
 refine qab ?_
 refine wp_seq ?_
 refine qad [0,1,2,3,4,5,6,7] kz ?_
 refine qaj [0,1,2,3] [4,5,6,7] [(1,.v (.int .i64 v)),(2,.v (.bool flex)),(4,.p 0 0),(7,.p 1 0),(9,.v (.bool (Fld.nul (Fld.mk ac af ag ae ah ai ab aa) v (Tree.mk n1 s2 b3 l4 u5)))),(52,.v (.bool (ac == 10)))] aj bO fun fV bL=>?_
 refine (Bool.eq_false_or_eq_true (ac == 10)).elim (fun aA=>?_) (fun aA=>?_)
 ·
  have eS:ac = 10:=by simpa using aA
  have dg:=bL.cast (env':=[(1,.v (.int .i64 v)),(2,.v (.bool flex)),(4,.p 0 0),(7,.p 1 0),(9,.v (.bool (Fld.nul (Fld.mk ac af ag ae ah ai ab aa) v (Tree.mk n1 s2 b3 l4 u5)))),(52,.v (.bool true))]) (by rw [aA])
  refine qaj [4,5,6,7] [] [(1,.v (.int .i64 v)),(2,.v (.bool flex)),(4,.p 0 0),(7,.p 1 0),(9,.v (.bool (Fld.nul (Fld.mk ac af ag ae ah ai ab aa) v (Tree.mk n1 s2 b3 l4 u5)))),(56,.v (.bool (decide (ae ≥ 0))))] aj dg fun fW bk=>?_
  refine qae (qab ?_)
  refine qaA bk (b:=decide (ae ≥ 0)) kz (fun bn=>?_) (fun bn=>?_)
  ·
   have eU:=of_decide_eq_true bn
   refine wp_seq ?_
   refine qaq [(1,.v (.int .i64 v)),(2,.v (.bool flex)),(4,.p 0 0),(7,.p 1 0),(57,.v (.bool (Fld.nul (Fld.mk ac af ag ae ah ai ab aa) v (Tree.mk n1 s2 b3 l4 u5))))] aj bk fun fX bo=>?_
   refine qaA bo (b:=Fld.nul (Fld.mk ac af ag ae ah ai ab aa) v (Tree.mk n1 s2 b3 l4 u5)) kz (fun dh=>?_) (fun dh=>?_)
   ·
    refine qad [0,1] kz ?_
    refine qal (qak bo (f:=28) (vs:=[.int .i64 (-1),.int .i64 1]) (d:=58) kz Tryd.call28 (qc8 (-1) 1 (by first | decide | exact qbu _ | omega) _) ?_)
    rintro e_ fY ⟨bU,bV,rfl,di,dj⟩
    refine ⟨_,rfl,fun fZ dl=>?_⟩
    obtain ⟨bp,eV⟩:=aj.frFresh dj (brow bU bV 5 (be 1 (-1))) (Nat.le_refl _) di
    refine qaj [1] [] [(8,.v (.slice bU ((be 1 (-1)).length) bV))] bp dl fun f5 dp=>?_
    refine qae (qab ?_)
    refine wp_ret ?_
    refine qax ?_
    refine qax ?_
    refine qaG dp bp.cells (v:=.slice bU ((be 1 (-1)).length) bV) kz ?_
    exact qaS bp (k:=0) rfl (by first | rw [qcw ‹_› ‹_›] | rw [qcv ‹_› ‹_› ‹_›] | rw [qb5 ‹_› ‹_› ‹_› ‹_›] | rw [qcu ‹_› ‹_› ‹_› ‹_›])
   refine wp_skip ?_
   refine qab ?_
   refine qaT 8 kz aj fun f7 eW dq dr=>?_
   refine qaH [1,2,3,4,5] [(61,.v (.slice ay aa.length az)),(62,.v (.int .i64 v)),(63,.v (.bool flex)),(64,.v (.agg #[.int .i64 n1,.slice A6 s2.length c7,.bool b3,.slice A8 l4.length c9,.slice aK u5.length aL]))] 4 (qaa (qaa qaf)) (fun _ h=>h.cells) dr bo fun f8 dt=>?_
   refine qaE (i:=0) kz (qak dt (f:=28) (vs:=[.int .i64 1,.int .i64 1]) (d:=59) kz Tryd.call28 (qc8 1 1 (by first | decide | exact qbu _ | omega) _) ?_)
   rintro e_ f9 ⟨bB,bC,rfl,du,dv⟩
   refine ⟨_,rfl,fun ga dw=>?_⟩
   obtain ⟨au,bq⟩:=dq.frFresh dv (brow bB bC 5 (be 1 1)) (Nat.le_refl _) du
   have dx:=TT.ofW bq au
   refine ⟨fun _=>dx,?_⟩
   refine qaE (i:=6) kz (qak dw (f:=57) (vs:=[.slice ay aa.length az,.int .i64 v,.bool flex,.agg #[.int .i64 n1,.slice A6 s2.length c7,.bool b3,.slice A8 l4.length c9,.slice aK u5.length aL]]) (d:=65) kz Tryd.call57 (hp _ _ aa v flex _ (Tree.mk n1 s2 b3 l4 u5) _ _ ⟨bz,(ce.move au.step nilM au.imm),(fun i_ x_ h_=>((dX i_ x_ h_).move au.step nilM au.imm))⟩ hd (ht.move au.step nilM au.imm) (by have h9_:=hroom; rw [qb5 ‹_› ‹_› ‹_› ‹_›,List.length_append] at h9_; omega)) ?_)
   rintro e_ gb ⟨bt,bu,rfl,dy,dA⟩
   refine ⟨_,rfl,fun gc dB=>?_⟩
   obtain ⟨aI,bM⟩:=au.frFresh dA (brow bt bu 5 (qaF d aa v flex (Tree.mk n1 s2 b3 l4 u5))) (Nat.le_refl _) dy
   have dC:=TT.ofW (bq.trans bM) aI
   refine ⟨fun _=>dC,?_⟩
   refine qaE (i:=7) kz (qaJ aI dB (k:=0) (d:=66) (t:=22) (e:=5) (size:=1) (bytes:=1) (A:=bB) (As:=bt) (m0:=((be 1 1).length)) (c:=bC) (m:=((qaF d aa v flex (Tree.mk n1 s2 b3 l4 u5)).length)) (cs:=bu) (xs:=(bc (be 1 1))) (news:=bc (qaF d aa v flex (Tree.mk n1 s2 b3 l4 u5))) kz kz rfl (qbA (aI.own 1 _ rfl) (qb2 _)) (qbG (aI.own 1 _ rfl)) (by have h9_:=hroom; rw [qb5 ‹_› ‹_› ‹_› ‹_›,List.length_append] at h9_; omega) fun aC aD gd ge dD dE dF=>?_)
   have dG:(⟨aC,aD,5,1,(be 1 1).length + (qaF d aa v flex (Tree.mk n1 s2 b3 l4 u5)).length,bc (be 1 1) ++ bc (qaF d aa v flex (Tree.mk n1 s2 b3 l4 u5))⟩:Rw) = brow aC aD 5 (be 1 1 ++ (qaF d aa v flex (Tree.mk n1 s2 b3 l4 u5))):=qbj (rfl) rfl
   obtain ⟨aJ,dH⟩:=dE.rowEq 0 [brow aC aD 5 (be 1 1 ++ (qaF d aa v flex (Tree.mk n1 s2 b3 l4 u5))),brow bt bu 5 (qaF d aa v flex (Tree.mk n1 s2 b3 l4 u5))] dG
   have dI:=EnvOk.pick dF (ks:=[61,62,63,64,59,65,66]) (env':=[(61,.v (.slice ay aa.length az)),(62,.v (.int .i64 v)),(63,.v (.bool flex)),(64,.v (.agg #[.int .i64 n1,.slice A6 s2.length c7,.bool b3,.slice A8 l4.length c9,.slice aK u5.length aL])),(59,.v (.slice bB ((be 1 1).length) bC)),(65,.v (.slice bt ((qaF d aa v flex (Tree.mk n1 s2 b3 l4 u5)).length) bu)),(66,.v (.slice aC ((be 1 1).length + (qaF d aa v flex (Tree.mk n1 s2 b3 l4 u5)).length) aD))]) kz
   have dJ:=dI.cast (env':=[(61,.v (.slice ay aa.length az)),(62,.v (.int .i64 v)),(63,.v (.bool flex)),(64,.v (.agg #[.int .i64 n1,.slice A6 s2.length c7,.bool b3,.slice A8 l4.length c9,.slice aK u5.length aL])),(59,.v (.slice bB ((be 1 1).length) bC)),(65,.v (.slice bt ((qaF d aa v flex (Tree.mk n1 s2 b3 l4 u5)).length) bu)),(66,.v (.slice aC ((be 1 1 ++ (qaF d aa v flex (Tree.mk n1 s2 b3 l4 u5))).length) aD))]) (by simp only [List.length_append,List.length_cons,List.length_nil,Nat.zero_add])
   have dK:=TT.ofW (((bq.trans bM).trans dD).trans dH) aJ
   refine ⟨fun _=>dK,?_⟩
   refine qaE (i:=8) kz (qbp [8] aJ.cells dJ (env':=[(8,.v (.slice aC ((be 1 1 ++ (qaF d aa v flex (Tree.mk n1 s2 b3 l4 u5))).length) aD))]) kz fun gg dL=>?_)
   refine ⟨fun h=>absurd rfl h,?_⟩
   refine qaL kz ?_ _
   refine qab ?_
   refine wp_ret ?_
   refine qax ?_
   refine qaG dL aJ.cells (v:=.slice aC ((be 1 1 ++ (qaF d aa v flex (Tree.mk n1 s2 b3 l4 u5))).length) aD) kz ?_
   exact qaS aJ (k:=0) rfl (by first | rw [qcw ‹_› ‹_›] | rw [qcv ‹_› ‹_› ‹_›] | rw [qb5 ‹_› ‹_› ‹_› ‹_›] | rw [qcu ‹_› ‹_› ‹_› ‹_›])
  have eX:=of_decide_eq_false bn
  refine wp_skip ?_
  refine qab ?_
  refine qad [0,1,2,3,4,5,6,7,8,9] kz ?_
  refine qaj [0,1,2,3,4,5,6,7] [8,9] [(68,.v (.int .i64 ac)),(70,.v (.slice ay aa.length az)),(71,.v (.bool (Fld.nul (Fld.mk ac af ag ae ah ai ab aa) v (Tree.mk n1 s2 b3 l4 u5)))),(72,.v (.int .i64 v)),(73,.v (.bool flex)),(74,.v (.agg #[.int .i64 n1,.slice A6 s2.length c7,.bool b3,.slice A8 l4.length c9,.slice aK u5.length aL]))] aj bk fun gh dM=>?_
  refine qal (qak dM (f:=109) (vs:=[.int .i64 ac,.slice ay aa.length az,.bool (Fld.nul (Fld.mk ac af ag ae ah ai ab aa) v (Tree.mk n1 s2 b3 l4 u5)),.int .i64 v,.bool flex,.agg #[.int .i64 n1,.slice A6 s2.length c7,.bool b3,.slice A8 l4.length c9,.slice aK u5.length aL]]) (d:=75) kz Tryd.call109 (qf8 hp ac _ _ aa (Fld.nul (Fld.mk ac af ag ae ah ai ab aa) v (Tree.mk n1 s2 b3 l4 u5)) v flex _ (Tree.mk n1 s2 b3 l4 u5) _ _ ⟨bz,(ce.move aj.step nilM aj.imm),(fun i_ x_ h_=>((dX i_ x_ h_).move aj.step nilM aj.imm))⟩ hd (ht.move aj.step nilM aj.imm) (by have h_:=hroom; (first | rw [qcw ‹_› ‹_›] at h_ | rw [qcv ‹_› ‹_› ‹_›] at h_); exact h_)) ?_)
  rintro e_ gi ⟨bW,bX,rfl,dN,dO⟩
  refine ⟨_,rfl,fun gj dP=>?_⟩
  obtain ⟨bw,eY⟩:=aj.frFresh dO (brow bW bX 5 (qaz (qaF d aa v flex) ac (Fld.nul (Fld.mk ac af ag ae ah ai ab aa) v (Tree.mk n1 s2 b3 l4 u5)) flex (Tree.mk n1 s2 b3 l4 u5))) (Nat.le_refl _) dN
  refine qaj [9] [] [(8,.v (.slice bW ((qaz (qaF d aa v flex) ac (Fld.nul (Fld.mk ac af ag ae ah ai ab aa) v (Tree.mk n1 s2 b3 l4 u5)) flex (Tree.mk n1 s2 b3 l4 u5)).length) bX))] bw dP fun gk dQ=>?_
  refine qae (qab ?_)
  refine wp_ret ?_
  refine qaG dQ bw.cells (v:=.slice bW ((qaz (qaF d aa v flex) ac (Fld.nul (Fld.mk ac af ag ae ah ai ab aa) v (Tree.mk n1 s2 b3 l4 u5)) flex (Tree.mk n1 s2 b3 l4 u5)).length) bX) kz ?_
  exact qaS bw (k:=0) rfl (by first | rw [qcw ‹_› ‹_›] | rw [qcv ‹_› ‹_› ‹_›] | rw [qb5 ‹_› ‹_› ‹_› ‹_›] | rw [qcu ‹_› ‹_› ‹_› ‹_›])
 have eZ:ac ≠ 10:=by simpa using aA
 have dR:=bL.cast (env':=[(1,.v (.int .i64 v)),(2,.v (.bool flex)),(4,.p 0 0),(7,.p 1 0),(9,.v (.bool (Fld.nul (Fld.mk ac af ag ae ah ai ab aa) v (Tree.mk n1 s2 b3 l4 u5)))),(52,.v (.bool false))]) (by rw [aA])
 refine qaj [4,5,6,7] [] [(1,.v (.int .i64 v)),(2,.v (.bool flex)),(4,.p 0 0),(7,.p 1 0),(9,.v (.bool (Fld.nul (Fld.mk ac af ag ae ah ai ab aa) v (Tree.mk n1 s2 b3 l4 u5)))),(56,.v (.bool false))] aj dR fun gl bN=>?_
 refine qae (qab ?_)
 refine qaQ bN (b:=false) kz rfl ?_
 refine wp_skip ?_
 refine qab ?_
 refine qad [0,1,2,3,4,5,6,7,8,9] kz ?_
 refine qaj [0,1,2,3,4,5,6,7] [8,9] [(68,.v (.int .i64 ac)),(70,.v (.slice ay aa.length az)),(71,.v (.bool (Fld.nul (Fld.mk ac af ag ae ah ai ab aa) v (Tree.mk n1 s2 b3 l4 u5)))),(72,.v (.int .i64 v)),(73,.v (.bool flex)),(74,.v (.agg #[.int .i64 n1,.slice A6 s2.length c7,.bool b3,.slice A8 l4.length c9,.slice aK u5.length aL]))] aj bN fun gm dS=>?_
 refine qal (qak dS (f:=109) (vs:=[.int .i64 ac,.slice ay aa.length az,.bool (Fld.nul (Fld.mk ac af ag ae ah ai ab aa) v (Tree.mk n1 s2 b3 l4 u5)),.int .i64 v,.bool flex,.agg #[.int .i64 n1,.slice A6 s2.length c7,.bool b3,.slice A8 l4.length c9,.slice aK u5.length aL]]) (d:=75) kz Tryd.call109 (qf8 hp ac _ _ aa (Fld.nul (Fld.mk ac af ag ae ah ai ab aa) v (Tree.mk n1 s2 b3 l4 u5)) v flex _ (Tree.mk n1 s2 b3 l4 u5) _ _ ⟨bz,(ce.move aj.step nilM aj.imm),(fun i_ x_ h_=>((dX i_ x_ h_).move aj.step nilM aj.imm))⟩ hd (ht.move aj.step nilM aj.imm) (by have h_:=hroom; (first | rw [qcw ‹_› ‹_›] at h_ | rw [qcv ‹_› ‹_› ‹_›] at h_); exact h_)) ?_)
 rintro e_ gn ⟨bY,bZ,rfl,dT,dU⟩
 refine ⟨_,rfl,fun gp dV=>?_⟩
 obtain ⟨bx,e9⟩:=aj.frFresh dU (brow bY bZ 5 (qaz (qaF d aa v flex) ac (Fld.nul (Fld.mk ac af ag ae ah ai ab aa) v (Tree.mk n1 s2 b3 l4 u5)) flex (Tree.mk n1 s2 b3 l4 u5))) (Nat.le_refl _) dT
 refine qaj [9] [] [(8,.v (.slice bY ((qaz (qaF d aa v flex) ac (Fld.nul (Fld.mk ac af ag ae ah ai ab aa) v (Tree.mk n1 s2 b3 l4 u5)) flex (Tree.mk n1 s2 b3 l4 u5)).length) bZ))] bx dV fun gq dW=>?_
 refine qae (qab ?_)
 refine wp_ret ?_
 refine qaG dW bx.cells (v:=.slice bY ((qaz (qaF d aa v flex) ac (Fld.nul (Fld.mk ac af ag ae ah ai ab aa) v (Tree.mk n1 s2 b3 l4 u5)) flex (Tree.mk n1 s2 b3 l4 u5)).length) bZ) kz ?_
 exact qaS bx (k:=0) rfl (by first | rw [qcw ‹_› ‹_›] | rw [qcv ‹_› ‹_› ‹_›] | rw [qb5 ‹_› ‹_› ‹_› ‹_›] | rw [qcu ‹_› ‹_› ‹_› ‹_›])
theorem qeS (Af:Option Addr) (cf:Nat) (l:List Fld) (A:Option Addr) (c:Nat) (u:List (Int × Bs)) (w:World) (F:Nat → Nat → Prop) (hl:FldsR w F Af cf l) (hu:TagsR w F A c u) :
  Calls Tryd.prog 53 #[.slice Af l.length cf,.slice A u.length c] w (qgQ w F (qah l u)):=by
 obtain ⟨xf,hf1,hf2⟩:=hl.ex
 obtain ⟨xu,hu1,hu2⟩:=hu.ex
 have hsmu:=hu1.small
 have hule:(u.take 32767).length ≤ 32767:=by rw [List.length_take]; omega
 refine enter (n:=85) Tryd.func53 rfl Tryd.ntmps53 kz fun a hE=>?_
 have hW:=WOk.start w Nil
 refine qaq [(0,.v (.slice Af l.length cf)),(1,.v (.slice A u.length c))] hW hE fun a1 hE2=>?_
 refine qad [0,1,2] kz ?_
 refine qaj [0] [1,2] [(1,.v (.slice A u.length c)),(11,.v (.slice Af l.length cf))] hW hE2 fun a3 hE4=>?_
 refine qal (qak hE4 (f:=76) (vs:=[.slice Af l.length cf]) (d:=12) kz Tryd.call76 (qgT _ _ l _ _ ⟨xf,(hf1.move hW.step nilM hW.imm),(fun i_ x_ h_=>((hf2 i_ x_ h_).move hW.step nilM hW.imm))⟩) ?_)
 rintro e_ w6 ⟨rfl,hs5⟩
 refine ⟨_,rfl,fun a7 hE8=>?_⟩
 have hW9:=hW.next_nil hs5
 have fF:=hW.frN hs5
 refine qaj [2] [] [(1,.v (.slice A u.length c)),(5,.v (.int .u32 (qam l)))] hW9 hE8 fun ib eI=>?_
 refine qae (qab ?_)
 refine qaq [(1,.v (.slice A u.length c)),(5,.v (.int .u32 (qam l))),(6,.v (.slice none 0 0))] hW9 eI fun ic eJ=>?_
 refine wp_seq ?_
 refine qad [0,1,2,3,4,5,6] kz ?_
 refine qaj [0,1,2,3] [4,5,6] [(5,.v (.int .u32 (qam l))),(6,.v (.slice none 0 0)),(13,.v (.slice A u.length c)),(16,.v (.int .i64 (if 32767 < ((u.length:Nat):Int) then 32767 else ((u.length:Nat):Int))))] hW9 eJ fun ig eK=>?_
 refine qal (qcG eK (t:=35) (A:=A) (m:=u.length) (cp:=c) (q:=(if 32767 < ((u.length:Nat):Int) then 32767 else ((u.length:Nat):Int))) (d:=17) (j:=(u.take 32767).length) kz (e:=64) (size:=2) (bytes:=32) kz (by simpa using qeo u.length) (by rw [List.length_take]; have:=hu1.le; omega) fun ii eL=>?_)
 refine qaj [5,6] [] [(5,.v (.int .u32 (qam l))),(6,.v (.slice none 0 0)),(17,.v (.slice A ((u.take 32767).length) c)),(18,.v (.int .i64 (((u.take 32767).length:Nat):Int))),(19,.v (.int .i64 0))] hW9 eL fun ij eM=>?_
 refine qae (qab ?_)
 refine wp_block ?_
 have cL:=hW9.addNil 64 2
 have fG:=hW9.frNil 64 2
 refine wp_loop_ghost (fun n_ a_ w_=>∃ (k:Nat) (A_:Option Addr) (c_:Nat) (out:List (Int × Bs)) (css:List (List Value)),n_ = (u.take 32767).length - k ∧ k ≤ (u.take 32767).length ∧ (TagsE w_ (Imm F w w_ [] [⟨A_,c_,64,2,out.length,css.flatten⟩]) out css) ∧ (out = ((u.take 32767).take k).foldl (qc5 (qam l)) []) ∧ (out.length ≤ k) ∧ LInv cL 85 [] [⟨A_,c_,64,2,out.length,css.flatten⟩] [(5,.v (.int .u32 (qam l))),(6,.v (.slice A_ out.length c_)),(17,.v (.slice A ((u.take 32767).length) c)),(18,.v (.int .i64 (((u.take 32767).length:Nat):Int))),(19,.v (.int .i64 ((k:Nat):Int)))] a_ w_) ((u.take 32767).length) ⟨0,none,0,[],[],by omega,by omega,TagsE.nil _ _,rfl,Nat.zero_le _,eM.pk,cL,Fr.refl _ _ _⟩ ?_
 rintro ik il im ⟨k,A_,c_,out,css,fH,fI,hT,hout,hlen,eN,aP,aS⟩
 refine qaq [(5,.v (.int .u32 (qam l))),(6,.v (.slice A_ out.length c_)),(17,.v (.slice A ((u.take 32767).length) c)),(18,.v (.int .i64 (((u.take 32767).length:Nat):Int))),(19,.v (.int .i64 ((k:Nat):Int))),(20,.v (.bool (decide (((k:Nat):Int) < (((u.take 32767).length:Nat):Int)))))] aP eN fun io cD=>?_
 refine wp_seq ?_
 refine qaA cD (b:=decide (((k:Nat):Int) < (((u.take 32767).length:Nat):Int))) kz (fun cE=>?_) (fun cE=>?_)
 ·
  have fJ:=of_decide_eq_true cE
  refine wp_skip ?_
  refine qab ?_
  refine wp_seq ?_
  refine wp_block ?_
  refine qad [0,1,2,3] kz ?_
  obtain ⟨fK,fL,eO,fM,bH⟩:=Slots.get (qdq hu1 32767) (i:=k) (by omega)
  obtain ⟨⟨al,ax⟩,aQ⟩:∃ x,(u.take 32767)[k]? = some x:=⟨_,List.getElem?_eq_getElem (by omega)⟩
  obtain ⟨⟨aI,aJ,cM,cN⟩,fg,fh⟩:=(qdu hu2 32767) k al ax aQ
  rw [cM] at bH
  refine qal (qaW cD (t:=35) (A:=A) (m:=((u.take 32767).length)) (q:=((k:Nat):Int)) (d:=21) kz (e:=64) (size:=2) (bytes:=32) kz eO rfl (by omega) fun ip eP=>?_)
  refine qal (qa2 eP (t:=64) (b:=fK) (o:=fL + k * 2) (d:=22) kz (cs:=[.int .u32 al,.slice aI ax.length aJ]) (v:=.agg #[.int .u32 al,.slice aI ax.length aJ]) kz (AtF.move bH aP.step nilM qbw).at_ fun iq eQ=>?_)
  refine qal (qat aP eQ (d:=8) (cs:=[.int .u32 0,.slice none 0 0]) kz fun eR ir iu fN fO ac eS eU=>?_)
  refine qal (qan eS eU (oi:=0) (cs:=[.int .u32 al,.slice aI ax.length aJ]) kz fun iv ae cG eV=>?_)
  refine qae (qab ?_)
  refine qaq [(5,.v (.int .u32 (qam l))),(6,.v (.slice A_ out.length c_)),(8,.p 0 0),(9,.v (.int .i64 0)),(17,.v (.slice A ((u.take 32767).length) c)),(18,.v (.int .i64 (((u.take 32767).length:Nat):Int))),(19,.v (.int .i64 ((k:Nat):Int)))] cG eV fun iw eW=>?_
  refine wp_seq ?_
  refine wp_block ?_
  refine wp_loop_ghost (fun n_ a_ w_=>∃ (i:Nat),n_ = out.length - i ∧ (i ≤ out.length) ∧ (∀ q,q < i → (out.getD q (0,[])).1 < al) ∧ LInv cG 85 [⟨eR,0,[.int .u32 al,.slice aI ax.length aJ],true⟩] [⟨A_,c_,64,2,out.length,css.flatten⟩] [(5,.v (.int .u32 (qam l))),(6,.v (.slice A_ out.length c_)),(8,.p 0 0),(9,.v (.int .i64 ((i:Nat):Int))),(17,.v (.slice A ((u.take 32767).length) c)),(18,.v (.int .i64 (((u.take 32767).length:Nat):Int))),(19,.v (.int .i64 ((k:Nat):Int)))] a_ w_) (out.length - 0) ⟨0,rfl,Nat.zero_le _,fun q h_=>absurd h_ (Nat.not_lt_zero q),eW.pk,cG,Fr.refl _ _ _⟩ ?_
  rintro ix iy iz ⟨i,fP,hi,hlt,eX,eY,aa⟩
  refine wp_seq ?_
  refine qby kz eY fun iA ab aB=>?_
  refine qaH [0,1,2,3,4] [(5,.v (.int .u32 (qam l))),(6,.v (.slice A_ out.length c_)),(8,.p 0 0),(9,.v (.int .i64 ((i:Nat):Int))),(17,.v (.slice A ((u.take 32767).length) c)),(18,.v (.int .i64 (((u.take 32767).length:Nat):Int))),(19,.v (.int .i64 ((k:Nat):Int))),(27,.v (.bool (decide (((i:Nat):Int) < ((out.length:Nat):Int)))))] 9 (qaa (qaa (qaa (qac (qaa (qac (qaa (qaa (qac (qaa qaf)))))))))) (fun _ h=>h ▸ aB.cells) rfl eX fun iB cO=>?_
  refine (Bool.eq_false_or_eq_true (decide (((i:Nat):Int) < ((out.length:Nat):Int)))).elim (fun aO=>?_) (fun aO=>?_)
  ·
   have fQ:=of_decide_eq_true aO
   have eZ:=cO.cast (env':=[(5,.v (.int .u32 (qam l))),(6,.v (.slice A_ out.length c_)),(8,.p 0 0),(9,.v (.int .i64 ((i:Nat):Int))),(17,.v (.slice A ((u.take 32767).length) c)),(18,.v (.int .i64 (((u.take 32767).length:Nat):Int))),(19,.v (.int .i64 ((k:Nat):Int))),(27,.v (.bool true))]) (by rw [aO])
   refine qaH [5,6,10,11] [(5,.v (.int .u32 (qam l))),(6,.v (.slice A_ out.length c_)),(8,.p 0 0),(9,.v (.int .i64 ((i:Nat):Int))),(17,.v (.slice A ((u.take 32767).length) c)),(18,.v (.int .i64 (((u.take 32767).length:Nat):Int))),(19,.v (.int .i64 ((k:Nat):Int))),(27,.v (.bool true)),(28,.v (.slice A_ out.length c_)),(29,.v (.int .i64 ((i:Nat):Int))),(34,.v (.int .u32 al))] 5 (qaa (qaa (qaa (qac (qaa (qac (qaa (qaa (qac (qaa qaf)))))))))) (fun _ h=>h ▸ aB.cells) rfl eZ fun iC e9=>?_
   obtain ⟨fa,cP⟩:=qbW (aB.own 0 _ rfl) (show 0 < out.length by omega)
   obtain ⟨⟨eH,iD⟩,bx⟩:∃ x,out[i]? = some x:=⟨_,List.getElem?_eq_getElem (by omega)⟩
   obtain ⟨iE,iF,fb,fR,iG,iH⟩:=TagsE.get2 (hT.move (((ac.trans ae).trans aa).trans ab).step immM (((ac.trans ae).trans aa).trans ab).to') bx
   have cQ:=qeJ (aB.own 0 _ rfl) cP (qcx (hT.move (((ac.trans ae).trans aa).trans ab).step immM (((ac.trans ae).trans aa).trans ab).to').two fb)
   refine qaO e9 (i:=7) (t:=35) (A:=A_) (m:=out.length) (q:=((i:Nat):Int)) (d:=30) kz (e:=64) (size:=2) (bytes:=32) kz (b:=fa) (o:=0) (j:=i) cP (rfl) (by omega) kz kz (qaa (qaa (qaa (qac (qaa (qac (qaa (qaa (qac (qaa qaf)))))))))) rfl fun iI fe=>?_
   refine qaH [8] [(5,.v (.int .u32 (qam l))),(6,.v (.slice A_ out.length c_)),(8,.p 0 0),(9,.v (.int .i64 ((i:Nat):Int))),(17,.v (.slice A ((u.take 32767).length) c)),(18,.v (.int .i64 (((u.take 32767).length:Nat):Int))),(19,.v (.int .i64 ((k:Nat):Int))),(27,.v (.bool true)),(31,.v (.pointer (some ⟨fa,0 + i * 2,none⟩))),(34,.v (.int .u32 al))] 3 (qaa (qaa (qaa (qac (qaa (qac (qaa (qaa (qac (qaa qaf)))))))))) (fun _ h=>h ▸ aB.cells) rfl fe fun iJ ff=>?_
   refine qaV ff (i:=9) (t:=62) (b:=fa) (o:=0 + i * 2) (d:=32) kz (cs:=[.int .u32 eH]) (v:=.int .u32 eH) kz (fun w' h'=>h' ▸ (At.drop cQ 0 1)) kz kz (qaa (qaa (qaa (qac (qaa (qac (qaa (qaa (qac (qaa qaf)))))))))) rfl fun fS cR=>?_
   refine qaH [12,13] [(5,.v (.int .u32 (qam l))),(6,.v (.slice A_ out.length c_)),(8,.p 0 0),(9,.v (.int .i64 ((i:Nat):Int))),(17,.v (.slice A ((u.take 32767).length) c)),(18,.v (.int .i64 (((u.take 32767).length:Nat):Int))),(19,.v (.int .i64 ((k:Nat):Int))),(36,.v (.bool (decide (eH < al))))] 0 (qaa (qaa (qaa (qac (qaa (qac (qaa (qaa (qac (qaa qaf)))))))))) (fun _ h=>h ▸ aB.cells) rfl cR fun fT aT=>?_
   refine qaL kz ?_ _
   refine qab ?_
   refine qaA aT (b:=decide (eH < al)) kz (fun aU=>?_) (fun aU=>?_)
   ·
    have fi:=of_decide_eq_true aU
    refine wp_skip ?_
    refine qab ?_
    refine wp_block ?_
    refine qar [0,1,2] kz ?_
    refine qaj [0,1,2] [] [(5,.v (.int .u32 (qam l))),(6,.v (.slice A_ out.length c_)),(8,.p 0 0),(9,.v (.int .i64 (IntKind.i64.wrap (((i:Nat):Int) + 1)))),(17,.v (.slice A ((u.take 32767).length) c)),(18,.v (.int .i64 (((u.take 32767).length:Nat):Int))),(19,.v (.int .i64 ((k:Nat):Int)))] aB aT fun fU bI=>?_
    refine qae ?_
    refine qau ?_
    refine qab ?_
    have cS:IntKind.i64.wrap (((i:Nat):Int) + 1) = ((i + 1:Nat):Int):=qaR (by omega)
    rw [cS] at bI
    exact ⟨out.length - (i + 1),by omega,(i + 1),rfl,by omega,fun q hq=>by rcases Nat.lt_succ_iff_lt_or_eq.1 hq with h_ | h_; exact hlt q h_; rw [h_,qfF bx]; assumption,bI.pk,aB,(aa.trans ab)⟩
   have fj:=of_decide_eq_false aU
   refine wp_exit ?_
   refine qav ?_
   refine qav ?_
   refine qaM ?_
   refine qab ?_
   refine wp_seq ?_
   refine qby kz aB fun fV af ap=>?_
   refine qaH [0,1,2,3,4] [(5,.v (.int .u32 (qam l))),(6,.v (.slice A_ out.length c_)),(8,.p 0 0),(9,.v (.int .i64 ((i:Nat):Int))),(17,.v (.slice A ((u.take 32767).length) c)),(18,.v (.int .i64 (((u.take 32767).length:Nat):Int))),(19,.v (.int .i64 ((k:Nat):Int))),(43,.v (.bool (decide (al < (qam l)))))] 15 (qaa (qaa (qac (qaa (qaa (qac (qaa qaf))))))) (fun _ h=>h ▸ ap.cells) rfl aT fun fW bJ=>?_
   refine (Bool.eq_false_or_eq_true (decide (al < (qam l)))).elim (fun aK=>?_) (fun aK=>?_)
   ·
    have fk:=of_decide_eq_true aK
    have cT:=bJ.cast (env':=[(5,.v (.int .u32 (qam l))),(6,.v (.slice A_ out.length c_)),(8,.p 0 0),(9,.v (.int .i64 ((i:Nat):Int))),(17,.v (.slice A ((u.take 32767).length) c)),(18,.v (.int .i64 (((u.take 32767).length:Nat):Int))),(19,.v (.int .i64 ((k:Nat):Int))),(43,.v (.bool true))]) (by rw [aK])
    refine qaH [5,6,7,8,9,10,11,12,13,14,15,16,17,18,19] [(5,.v (.int .u32 (qam l))),(6,.v (.slice A_ out.length c_)),(8,.p 0 0),(9,.v (.int .i64 ((i:Nat):Int))),(17,.v (.slice A ((u.take 32767).length) c)),(18,.v (.int .i64 (((u.take 32767).length:Nat):Int))),(19,.v (.int .i64 ((k:Nat):Int))),(58,.v (.bool true))] 0 (qaa (qaa (qac (qaa (qaa (qac (qaa qaf))))))) (fun _ h=>h ▸ ap.cells) rfl cT fun fX bK=>?_
    refine qaL kz ?_ _
    refine qab ?_
    refine qbb bK (b:=true) kz rfl ?_
    refine wp_exit ?_
    refine qav ?_
    refine qaM ?_
    refine qab ?_
    refine qar [0,1] kz ?_
    refine qaj [0,1] [] [(5,.v (.int .u32 (qam l))),(6,.v (.slice A_ out.length c_)),(17,.v (.slice A ((u.take 32767).length) c)),(18,.v (.int .i64 (((u.take 32767).length:Nat):Int))),(19,.v (.int .i64 (IntKind.i64.wrap (((k:Nat):Int) + 1))))] ap bK fun fY cU=>?_
    refine qae (qab ?_)
    obtain ⟨bL,cV,aV⟩:=ap.cutB cU 0 [] [(5,.v (.int .u32 (qam l))),(6,.v (.slice A_ out.length c_)),(17,.v (.slice A ((u.take 32767).length) c)),(18,.v (.int .i64 (((u.take 32767).length:Nat):Int))),(19,.v (.int .i64 (IntKind.i64.wrap (((k:Nat):Int) + 1))))]
    have cW:IntKind.i64.wrap (((k:Nat):Int) + 1) = ((k + 1:Nat):Int):=qaR (by omega)
    rw [cW] at bL
    exact ⟨(u.take 32767).length - (k + 1),by omega,k + 1,A_,c_,out,css,rfl,by omega,(hT.move (((((ac.trans ae).trans aa).trans ab).trans af).trans aV).step immM (((((ac.trans ae).trans aa).trans ab).trans af).trans aV).to'),by rw [qbq aQ,← hout]; exact (qfG ‹_›).symm,by omega,bL.pk,cV,((((((aS.trans ac).trans ae).trans aa).trans ab).trans af).trans aV)⟩
   have fl:=of_decide_eq_false aK
   have cX:=bJ.cast (env':=[(5,.v (.int .u32 (qam l))),(6,.v (.slice A_ out.length c_)),(8,.p 0 0),(9,.v (.int .i64 ((i:Nat):Int))),(17,.v (.slice A ((u.take 32767).length) c)),(18,.v (.int .i64 (((u.take 32767).length:Nat):Int))),(19,.v (.int .i64 ((k:Nat):Int))),(43,.v (.bool false))]) (by rw [aK])
   refine qaH [5,6,7,8,9] [(5,.v (.int .u32 (qam l))),(6,.v (.slice A_ out.length c_)),(8,.p 0 0),(9,.v (.int .i64 ((i:Nat):Int))),(17,.v (.slice A ((u.take 32767).length) c)),(18,.v (.int .i64 (((u.take 32767).length:Nat):Int))),(19,.v (.int .i64 ((k:Nat):Int))),(43,.v (.bool false)),(48,.v (.bool (decide (((i:Nat):Int) < ((out.length:Nat):Int)))))] 10 (qaa (qaa (qac (qaa (qaa (qac (qaa qaf))))))) (fun _ h=>h ▸ ap.cells) rfl cX fun fZ cY=>?_
   have cZ:(decide (((i:Nat):Int) < ((out.length:Nat):Int))) = true:=aO
   have c5:=cY.cast (env':=[(5,.v (.int .u32 (qam l))),(6,.v (.slice A_ out.length c_)),(8,.p 0 0),(9,.v (.int .i64 ((i:Nat):Int))),(17,.v (.slice A ((u.take 32767).length) c)),(18,.v (.int .i64 (((u.take 32767).length:Nat):Int))),(19,.v (.int .i64 ((k:Nat):Int))),(43,.v (.bool false)),(48,.v (.bool true))]) (by rw [cZ])
   refine qaH [10,11,15,16] [(5,.v (.int .u32 (qam l))),(6,.v (.slice A_ out.length c_)),(8,.p 0 0),(9,.v (.int .i64 ((i:Nat):Int))),(17,.v (.slice A ((u.take 32767).length) c)),(18,.v (.int .i64 (((u.take 32767).length:Nat):Int))),(19,.v (.int .i64 ((k:Nat):Int))),(43,.v (.bool false)),(48,.v (.bool true)),(49,.v (.slice A_ out.length c_)),(50,.v (.int .i64 ((i:Nat):Int))),(55,.v (.int .u32 al))] 6 (qaa (qaa (qac (qaa (qaa (qac (qaa qaf))))))) (fun _ h=>h ▸ ap.cells) rfl c5 fun f5 c6=>?_
   obtain ⟨cH,bM⟩:=qbW (ap.own 0 _ rfl) (show 0 < out.length by omega)
   obtain ⟨⟨aR,f7⟩,aL⟩:∃ x,out[i]? = some x:=⟨_,List.getElem?_eq_getElem (by omega)⟩
   obtain ⟨f8,f9,da,fm,ga,gb⟩:=TagsE.get2 (hT.move ((((ac.trans ae).trans aa).trans ab).trans af).step immM ((((ac.trans ae).trans aa).trans ab).trans af).to') aL
   have cI:=qeJ (ap.own 0 _ rfl) bM (qcx (hT.move ((((ac.trans ae).trans aa).trans ab).trans af).step immM ((((ac.trans ae).trans aa).trans ab).trans af).to').two da)
   refine qaO c6 (i:=12) (t:=35) (A:=A_) (m:=out.length) (q:=((i:Nat):Int)) (d:=51) kz (e:=64) (size:=2) (bytes:=32) kz (b:=cH) (o:=0) (j:=i) bM (rfl) (by omega) kz kz (qaa (qaa (qac (qaa (qaa (qac (qaa qaf))))))) rfl fun gc db=>?_
   refine qaH [13] [(5,.v (.int .u32 (qam l))),(6,.v (.slice A_ out.length c_)),(8,.p 0 0),(9,.v (.int .i64 ((i:Nat):Int))),(17,.v (.slice A ((u.take 32767).length) c)),(18,.v (.int .i64 (((u.take 32767).length:Nat):Int))),(19,.v (.int .i64 ((k:Nat):Int))),(43,.v (.bool false)),(48,.v (.bool true)),(52,.v (.pointer (some ⟨cH,0 + i * 2,none⟩))),(55,.v (.int .u32 al))] 4 (qaa (qaa (qac (qaa (qaa (qac (qaa qaf))))))) (fun _ h=>h ▸ ap.cells) rfl db fun gd dc=>?_
   refine qaV dc (i:=14) (t:=62) (b:=cH) (o:=0 + i * 2) (d:=53) kz (cs:=[.int .u32 aR]) (v:=.int .u32 aR) kz (fun w' h'=>h' ▸ (At.drop cI 0 1)) kz kz (qaa (qaa (qac (qaa (qaa (qac (qaa qaf))))))) rfl fun ge de=>?_
   refine qaH [17,18,19] [(5,.v (.int .u32 (qam l))),(6,.v (.slice A_ out.length c_)),(8,.p 0 0),(9,.v (.int .i64 ((i:Nat):Int))),(17,.v (.slice A ((u.take 32767).length) c)),(18,.v (.int .i64 (((u.take 32767).length:Nat):Int))),(19,.v (.int .i64 ((k:Nat):Int))),(58,.v (.bool (aR == al)))] 0 (qaa (qaa (qac (qaa (qaa (qac (qaa qaf))))))) (fun _ h=>h ▸ ap.cells) rfl de fun gg aW=>?_
   refine qaL kz ?_ _
   refine qab ?_
   refine qaA aW (b:=aR == al) kz (fun aX=>?_) (fun aX=>?_)
   ·
    have fo:aR = al:=by simpa using aX
    refine wp_exit ?_
    refine qav ?_
    refine qaM ?_
    refine qab ?_
    refine qar [0,1] kz ?_
    refine qaj [0,1] [] [(5,.v (.int .u32 (qam l))),(6,.v (.slice A_ out.length c_)),(17,.v (.slice A ((u.take 32767).length) c)),(18,.v (.int .i64 (((u.take 32767).length:Nat):Int))),(19,.v (.int .i64 (IntKind.i64.wrap (((k:Nat):Int) + 1))))] ap aW fun gh df=>?_
    refine qae (qab ?_)
    obtain ⟨bN,dg,aY⟩:=ap.cutB df 0 [] [(5,.v (.int .u32 (qam l))),(6,.v (.slice A_ out.length c_)),(17,.v (.slice A ((u.take 32767).length) c)),(18,.v (.int .i64 (((u.take 32767).length:Nat):Int))),(19,.v (.int .i64 (IntKind.i64.wrap (((k:Nat):Int) + 1))))]
    have dh:IntKind.i64.wrap (((k:Nat):Int) + 1) = ((k + 1:Nat):Int):=qaR (by omega)
    rw [dh] at bN
    exact ⟨(u.take 32767).length - (k + 1),by omega,k + 1,A_,c_,out,css,rfl,by omega,(hT.move (((((ac.trans ae).trans aa).trans ab).trans af).trans aY).step immM (((((ac.trans ae).trans aa).trans ab).trans af).trans aY).to'),by rw [qbq aQ,← hout]; exact (qgo (qdp hi hlt (fun _=>by rw [qcy aL]; omega)) (by omega) (by rw [qcy aL]; omega)).symm,by omega,bN.pk,dg,((((((aS.trans ac).trans ae).trans aa).trans ab).trans af).trans aY)⟩
   have fq:aR ≠ al:=by simpa using aX
   refine wp_skip ?_
   refine qab ?_
   refine qad [0,1,2,3,4] kz ?_
   refine qaj [0,1] [2,3,4] [(5,.v (.int .u32 (qam l))),(8,.p 0 0),(9,.v (.int .i64 ((i:Nat):Int))),(17,.v (.slice A ((u.take 32767).length) c)),(18,.v (.int .i64 (((u.take 32767).length:Nat):Int))),(19,.v (.int .i64 ((k:Nat):Int))),(59,.v (.slice A_ out.length c_)),(60,.v (.agg #[.int .u32 0,.slice none 0 0]))] ap aW fun gi di=>?_
   refine qbK ap di (k:=0) (e:=64) (size:=2) (len:=1) (cs:=[.int .u32 0,.slice none 0 0]) (d1:=61) (d:=62) kz (t:=35) (bytes:=32) kz (fun _=>by kernel_rfl) rfl kz (by omega) fun ag ai gj gk am aZ ⟨_,dj⟩=>?_
   refine qaj [4] [] [(5,.v (.int .u32 (qam l))),(6,.v (.slice ag (out.length + 1) ai)),(8,.p 0 0),(9,.v (.int .i64 ((i:Nat):Int))),(17,.v (.slice A ((u.take 32767).length) c)),(18,.v (.int .i64 (((u.take 32767).length:Nat):Int))),(19,.v (.int .i64 ((k:Nat):Int)))] aZ dj fun gl dl=>?_
   refine qae (qab ?_)
   refine wp_seq ?_
   refine qaq [(5,.v (.int .u32 (qam l))),(6,.v (.slice ag (out.length + 1) ai)),(8,.p 0 0),(9,.v (.int .i64 ((i:Nat):Int))),(10,.v (.int .i64 (IntKind.i64.wrap (((out.length + 1:Nat):Int) - 1)))),(17,.v (.slice A ((u.take 32767).length) c)),(18,.v (.int .i64 (((u.take 32767).length:Nat):Int))),(19,.v (.int .i64 ((k:Nat):Int)))] aZ dl fun gm bO=>?_
   refine wp_block ?_
   have hcl0:=(hT.move (((((ac.trans ae).trans aa).trans ab).trans af).trans am).step immM (((((ac.trans ae).trans aa).trans ab).trans af).trans am).to').len
   have dp:(⟨ag,ai,64,2,out.length + 1,css.flatten ++ [.int .u32 0,.slice none 0 0]⟩:Rw) = ⟨ag,ai,64,2,out.length + 1,(qbg css [.int .u32 0,.slice none 0 0] out.length).flatten⟩:=by rw [qeL hcl0]
   obtain ⟨bP,av⟩:=aZ.rowEq 0 [⟨ag,ai,64,2,out.length + 1,(qbg css [.int .u32 0,.slice none 0 0] out.length).flatten⟩] dp
   have dq:IntKind.i64.wrap (((out.length + 1:Nat):Int) - 1) = ((out.length:Nat):Int):=by rw [wrap_i64 (by omega) (by omega)]; omega
   rw [dq] at bO
   refine wp_loop_ghost (fun n_ a_ w_=>∃ (j:Nat),n_ = j ∧ (i ≤ j) ∧ (j ≤ out.length) ∧ LInv bP 85 [⟨eR,0,[.int .u32 al,.slice aI ax.length aJ],true⟩] [⟨ag,ai,64,2,out.length + 1,(qbg css [.int .u32 0,.slice none 0 0] j).flatten⟩] [(5,.v (.int .u32 (qam l))),(6,.v (.slice ag (out.length + 1) ai)),(8,.p 0 0),(9,.v (.int .i64 ((i:Nat):Int))),(10,.v (.int .i64 ((j:Nat):Int))),(17,.v (.slice A ((u.take 32767).length) c)),(18,.v (.int .i64 (((u.take 32767).length:Nat):Int))),(19,.v (.int .i64 ((k:Nat):Int)))] a_ w_) (out.length) ⟨out.length,rfl,hi,Nat.le_refl _,bO.pk,bP,Fr.refl _ _ _⟩ ?_
   rintro gn gp gq ⟨j,fr,hij,hjl,dr,ay,ar⟩
   refine wp_seq ?_
   refine qaq [(5,.v (.int .u32 (qam l))),(6,.v (.slice ag (out.length + 1) ai)),(8,.p 0 0),(9,.v (.int .i64 ((i:Nat):Int))),(10,.v (.int .i64 ((j:Nat):Int))),(17,.v (.slice A ((u.take 32767).length) c)),(18,.v (.int .i64 (((u.take 32767).length:Nat):Int))),(19,.v (.int .i64 ((k:Nat):Int))),(68,.v (.bool (decide (((j:Nat):Int) > ((i:Nat):Int)))))] ay dr fun gt ba=>?_
   refine qaA ba (b:=decide (((j:Nat):Int) > ((i:Nat):Int))) kz (fun bf=>?_) (fun bf=>?_)
   ·
    have ft:=of_decide_eq_true bf
    refine wp_skip ?_
    refine qab ?_
    refine wp_seq ?_
    refine wp_block ?_
    refine qar [0,1,2,3,4,5,6,7,8] kz ?_
    refine qaj [0,1,2,3,4] [5,6,7,8] [(5,.v (.int .u32 (qam l))),(6,.v (.slice ag (out.length + 1) ai)),(8,.p 0 0),(9,.v (.int .i64 ((i:Nat):Int))),(10,.v (.int .i64 ((j:Nat):Int))),(17,.v (.slice A ((u.take 32767).length) c)),(18,.v (.int .i64 (((u.take 32767).length:Nat):Int))),(19,.v (.int .i64 ((k:Nat):Int))),(71,.v (.slice ag (out.length + 1) ai)),(72,.v (.int .i64 ((j:Nat):Int))),(73,.v (.slice ag (out.length + 1) ai)),(75,.v (.int .i64 (IntKind.i64.wrap (((j:Nat):Int) - 1))))] ay ba fun gv dt=>?_
    obtain ⟨du,bQ⟩:=qbW (ay.own 0 _ rfl) (show 0 < out.length + 1 by omega)
    obtain ⟨⟨bz,bA⟩,dv⟩:∃ x,out[j - 1]? = some x:=⟨_,List.getElem?_eq_getElem (by omega)⟩
    obtain ⟨bB,bC,bR,fu,gw,gx⟩:=TagsE.get2 (hT.move (((((((ac.trans ae).trans aa).trans ab).trans af).trans am).trans av).trans ar).step immM (((((((ac.trans ae).trans aa).trans ab).trans af).trans am).trans av).trans ar).to') dv
    have cJ:=qeJ (ay.own 0 _ rfl) bQ (qcx (qcZ (hT.move (((((((ac.trans ae).trans aa).trans ab).trans af).trans am).trans av).trans ar).step immM (((((((ac.trans ae).trans aa).trans ab).trans af).trans am).trans av).trans ar).to').two rfl j) (qec (show j - 1 < j by omega) bR))
    refine qal (qaW dt (t:=35) (A:=ag) (m:=(out.length + 1)) (q:=(IntKind.i64.wrap (((j:Nat):Int) - 1))) (d:=76) kz (e:=64) (size:=2) (bytes:=32) kz (b:=du) (o:=0) (j:=(j - 1)) bQ (by rw [wrap_i64 (by omega) (by omega)]; omega) (by omega) fun gy dw=>?_)
    refine qal (qa2 dw (t:=64) (b:=du) (o:=0 + (j - 1) * 2) (d:=77) kz (cs:=[.int .u32 bz,.slice bB bA.length bC]) (v:=.agg #[.int .u32 bz,.slice bB bA.length bC]) kz cJ fun gz dx=>?_)
    obtain ⟨dy,bS⟩:=qbW (ay.own 0 _ rfl) (show 0 < out.length + 1 by omega)
    refine qal (qaW dx (t:=35) (A:=ag) (m:=(out.length + 1)) (q:=((j:Nat):Int)) (d:=78) kz (e:=64) (size:=2) (bytes:=32) kz (b:=dy) (o:=0) (j:=j) bS (rfl) (by omega) fun gA dA=>?_)
    refine qal (qca ay dA (k:=0) (g:=dy) (o:=j * 2) (c:=ai) (m:=(out.length + 1)) (size:=2) (e:=64) (A:=ag) (xs:=((qbg css [.int .u32 0,.slice none 0 0] j).flatten)) (vs:=[.int .u32 bz,.slice bB bA.length bC]) kz rfl bS (by simp only [List.length_cons,List.length_nil]; omega) fun gB bg bT dB=>?_)
    refine qae ?_
    refine qau ?_
    refine qab ?_
    refine qar [0,1,2] kz ?_
    refine qaj [0,1,2] [] [(5,.v (.int .u32 (qam l))),(6,.v (.slice ag (out.length + 1) ai)),(8,.p 0 0),(9,.v (.int .i64 ((i:Nat):Int))),(10,.v (.int .i64 (IntKind.i64.wrap (((j:Nat):Int) - 1)))),(17,.v (.slice A ((u.take 32767).length) c)),(18,.v (.int .i64 (((u.take 32767).length:Nat):Int))),(19,.v (.int .i64 ((k:Nat):Int)))] bT dB fun gC bU=>?_
    refine qae (qab ?_)
    have dC:(⟨ag,ai,64,2,out.length + 1,qa4 ((qbg css [.int .u32 0,.slice none 0 0] j).flatten) (j * 2) [.int .u32 bz,.slice bB bA.length bC]⟩:Rw) = ⟨ag,ai,64,2,out.length + 1,(qbg css [.int .u32 0,.slice none 0 0] (j - 1)).flatten⟩:=by rw [qed (hT.move ((((((((ac.trans ae).trans aa).trans ab).trans af).trans am).trans av).trans ar).trans bg).step immM ((((((((ac.trans ae).trans aa).trans ab).trans af).trans am).trans av).trans ar).trans bg).to').two rfl (by omega) (by omega) bR]
    obtain ⟨dD,dE⟩:=bT.rowEq 0 [⟨ag,ai,64,2,out.length + 1,(qbg css [.int .u32 0,.slice none 0 0] (j - 1)).flatten⟩] dC
    have dF:IntKind.i64.wrap (((j:Nat):Int) - 1) = ((j - 1:Nat):Int):=by rw [wrap_i64 (by omega) (by omega)]; omega
    rw [dF] at bU
    exact ⟨(j - 1),by omega,(j - 1),rfl,by omega,by omega,bU.pk,dD,((ar.trans bg).trans dE)⟩
   have fv:=of_decide_eq_false bf
   refine wp_exit ?_
   refine qav ?_
   refine qav ?_
   refine qaM ?_
   refine qab ?_
   refine qar [0,1,2,3,4] kz ?_
   refine qaj [0,1,2] [3,4] [(5,.v (.int .u32 (qam l))),(6,.v (.slice ag (out.length + 1) ai)),(17,.v (.slice A ((u.take 32767).length) c)),(18,.v (.int .i64 (((u.take 32767).length:Nat):Int))),(19,.v (.int .i64 ((k:Nat):Int))),(79,.v (.slice ag (out.length + 1) ai)),(80,.v (.int .i64 ((i:Nat):Int))),(81,.v (.agg #[.int .u32 al,.slice aI ax.length aJ]))] ay ba fun gD dG=>?_
   have hji:j = i:=by omega
   have dH:(⟨ag,ai,64,2,out.length + 1,(qbg css [.int .u32 0,.slice none 0 0] j).flatten⟩:Rw) = ⟨ag,ai,64,2,out.length + 1,(qbg css [.int .u32 0,.slice none 0 0] i).flatten⟩:=by rw [hji]
   obtain ⟨bV,aC⟩:=ay.rowEq 0 [⟨ag,ai,64,2,out.length + 1,(qbg css [.int .u32 0,.slice none 0 0] i).flatten⟩] dH
   obtain ⟨dI,bW⟩:=qbW (bV.own 0 _ rfl) (show 0 < out.length + 1 by omega)
   refine qal (qaW dG (t:=35) (A:=ag) (m:=(out.length + 1)) (q:=((i:Nat):Int)) (d:=82) kz (e:=64) (size:=2) (bytes:=32) kz (b:=dI) (o:=0) (j:=i) bW (rfl) (by omega) fun gE dJ=>?_)
   refine qal (qca bV dJ (k:=0) (g:=dI) (o:=i * 2) (c:=ai) (m:=(out.length + 1)) (size:=2) (e:=64) (A:=ag) (xs:=((qbg css [.int .u32 0,.slice none 0 0] i).flatten)) (vs:=[.int .u32 al,.slice aI ax.length aJ]) kz rfl bW (by simp only [List.length_cons,List.length_nil]; omega) fun gF aD bX dK=>?_)
   refine qae ?_
   refine qau ?_
   refine qab ?_
   refine qar [0,1] kz ?_
   refine qaj [0,1] [] [(5,.v (.int .u32 (qam l))),(6,.v (.slice ag (out.length + 1) ai)),(17,.v (.slice A ((u.take 32767).length) c)),(18,.v (.int .i64 (((u.take 32767).length:Nat):Int))),(19,.v (.int .i64 (IntKind.i64.wrap (((k:Nat):Int) + 1))))] bX dK fun gG dL=>?_
   refine qae (qab ?_)
   obtain ⟨bh,dM,aE⟩:=bX.cutB dL 0 [] [(5,.v (.int .u32 (qam l))),(6,.v (.slice ag (out.length + 1) ai)),(17,.v (.slice A ((u.take 32767).length) c)),(18,.v (.int .i64 (((u.take 32767).length:Nat):Int))),(19,.v (.int .i64 (IntKind.i64.wrap (((k:Nat):Int) + 1))))]
   have hcl:=(hT.move ((((((((((ac.trans ae).trans aa).trans ab).trans af).trans am).trans av).trans ar).trans aC).trans aD).trans aE).step immM ((((((((((ac.trans ae).trans aa).trans ab).trans af).trans am).trans av).trans ar).trans aC).trans aD).trans aE).to').len
   have dN:(⟨ag,ai,64,2,out.length + 1,qa4 ((qbg css [.int .u32 0,.slice none 0 0] i).flatten) (i * 2) [.int .u32 al,.slice aI ax.length aJ]⟩:Rw) = ⟨ag,ai,64,2,(out.take i ++ (al,ax) :: out.drop i).length,(css.take i ++ [.int .u32 al,.slice aI ax.length aJ] :: css.drop i).flatten⟩:=by rw [qee (hT.move ((((((((((ac.trans ae).trans aa).trans ab).trans af).trans am).trans av).trans ar).trans aC).trans aD).trans aE).step immM ((((((((((ac.trans ae).trans aa).trans ab).trans af).trans am).trans av).trans ar).trans aC).trans aD).trans aE).to').two rfl (by omega) rfl,qbL (al,ax) hi]
   obtain ⟨bi,bj⟩:=dM.rowEq 0 [⟨ag,ai,64,2,(out.take i ++ (al,ax) :: out.drop i).length,(css.take i ++ [.int .u32 al,.slice aI ax.length aJ] :: css.drop i).flatten⟩] dN
   have dO:IntKind.i64.wrap (((k:Nat):Int) + 1) = ((k + 1:Nat):Int):=qaR (by omega)
   rw [dO] at bh
   have dP:out.length + 1 = (out.take i ++ (al,ax) :: out.drop i).length:=qbL (al,ax) hi
   rw [dP] at bh
   exact ⟨(u.take 32767).length - (k + 1),by omega,k + 1,ag,ai,(out.take i ++ (al,ax) :: out.drop i),(css.take i ++ [.int .u32 al,.slice aI ax.length aJ] :: css.drop i),rfl,by omega,(hT.move (((((((((((ac.trans ae).trans aa).trans ab).trans af).trans am).trans av).trans ar).trans aC).trans aD).trans aE).trans bj).step immM (((((((((((ac.trans ae).trans aa).trans ab).trans af).trans am).trans av).trans ar).trans aC).trans aD).trans aE).trans bj).to').ins ⟨⟨aI,aJ,rfl,(cN.move bi.step nilM bi.imm)⟩,fg,fh⟩ hi,by rw [qbq aQ,← hout]; exact (qfH (qdp hi hlt (fun _=>by first | (rw [qcy bx]; omega) | (rw [qcy aL]; omega))) ‹_› (fun _=>by first | (rw [qcy bx]; omega) | (rw [qcy aL]; omega))).symm,by rw [← qbL (al,ax) hi]; omega,bh.pk,bi,((((((((((((aS.trans ac).trans ae).trans aa).trans ab).trans af).trans am).trans av).trans ar).trans aC).trans aD).trans aE).trans bj)⟩
  have fw:=of_decide_eq_false aO
  have dQ:=cO.cast (env':=[(5,.v (.int .u32 (qam l))),(6,.v (.slice A_ out.length c_)),(8,.p 0 0),(9,.v (.int .i64 ((i:Nat):Int))),(17,.v (.slice A ((u.take 32767).length) c)),(18,.v (.int .i64 (((u.take 32767).length:Nat):Int))),(19,.v (.int .i64 ((k:Nat):Int))),(27,.v (.bool false))]) (by rw [aO])
  refine qaH [5,6,7,8,9,10,11,12,13] [(5,.v (.int .u32 (qam l))),(6,.v (.slice A_ out.length c_)),(8,.p 0 0),(9,.v (.int .i64 ((i:Nat):Int))),(17,.v (.slice A ((u.take 32767).length) c)),(18,.v (.int .i64 (((u.take 32767).length:Nat):Int))),(19,.v (.int .i64 ((k:Nat):Int))),(36,.v (.bool false))] 0 (qaa (qaa (qaa (qac (qaa (qac (qaa (qaa (qac (qaa qaf)))))))))) (fun _ h=>h ▸ aB.cells) rfl dQ fun gH bY=>?_
  refine qaL kz ?_ _
  refine qab ?_
  refine qaQ bY (b:=false) kz rfl ?_
  refine wp_exit ?_
  refine qav ?_
  refine qav ?_
  refine qaM ?_
  refine qab ?_
  refine wp_seq ?_
  refine qby kz aB fun gI ak az=>?_
  refine qaH [0,1,2,3,4] [(5,.v (.int .u32 (qam l))),(6,.v (.slice A_ out.length c_)),(8,.p 0 0),(9,.v (.int .i64 ((i:Nat):Int))),(17,.v (.slice A ((u.take 32767).length) c)),(18,.v (.int .i64 (((u.take 32767).length:Nat):Int))),(19,.v (.int .i64 ((k:Nat):Int))),(43,.v (.bool (decide (al < (qam l)))))] 15 (qaa (qaa (qac (qaa (qaa (qac (qaa qaf))))))) (fun _ h=>h ▸ az.cells) rfl bY fun gJ bZ=>?_
  refine (Bool.eq_false_or_eq_true (decide (al < (qam l)))).elim (fun aM=>?_) (fun aM=>?_)
  ·
   have fx:=of_decide_eq_true aM
   have dR:=bZ.cast (env':=[(5,.v (.int .u32 (qam l))),(6,.v (.slice A_ out.length c_)),(8,.p 0 0),(9,.v (.int .i64 ((i:Nat):Int))),(17,.v (.slice A ((u.take 32767).length) c)),(18,.v (.int .i64 (((u.take 32767).length:Nat):Int))),(19,.v (.int .i64 ((k:Nat):Int))),(43,.v (.bool true))]) (by rw [aM])
   refine qaH [5,6,7,8,9,10,11,12,13,14,15,16,17,18,19] [(5,.v (.int .u32 (qam l))),(6,.v (.slice A_ out.length c_)),(8,.p 0 0),(9,.v (.int .i64 ((i:Nat):Int))),(17,.v (.slice A ((u.take 32767).length) c)),(18,.v (.int .i64 (((u.take 32767).length:Nat):Int))),(19,.v (.int .i64 ((k:Nat):Int))),(58,.v (.bool true))] 0 (qaa (qaa (qac (qaa (qaa (qac (qaa qaf))))))) (fun _ h=>h ▸ az.cells) rfl dR fun gK b8=>?_
   refine qaL kz ?_ _
   refine qab ?_
   refine qbb b8 (b:=true) kz rfl ?_
   refine wp_exit ?_
   refine qav ?_
   refine qaM ?_
   refine qab ?_
   refine qar [0,1] kz ?_
   refine qaj [0,1] [] [(5,.v (.int .u32 (qam l))),(6,.v (.slice A_ out.length c_)),(17,.v (.slice A ((u.take 32767).length) c)),(18,.v (.int .i64 (((u.take 32767).length:Nat):Int))),(19,.v (.int .i64 (IntKind.i64.wrap (((k:Nat):Int) + 1))))] az b8 fun gL dS=>?_
   refine qae (qab ?_)
   obtain ⟨cd,dT,bk⟩:=az.cutB dS 0 [] [(5,.v (.int .u32 (qam l))),(6,.v (.slice A_ out.length c_)),(17,.v (.slice A ((u.take 32767).length) c)),(18,.v (.int .i64 (((u.take 32767).length:Nat):Int))),(19,.v (.int .i64 (IntKind.i64.wrap (((k:Nat):Int) + 1))))]
   have dU:IntKind.i64.wrap (((k:Nat):Int) + 1) = ((k + 1:Nat):Int):=qaR (by omega)
   rw [dU] at cd
   exact ⟨(u.take 32767).length - (k + 1),by omega,k + 1,A_,c_,out,css,rfl,by omega,(hT.move (((((ac.trans ae).trans aa).trans ab).trans ak).trans bk).step immM (((((ac.trans ae).trans aa).trans ab).trans ak).trans bk).to'),by rw [qbq aQ,← hout]; exact (qfG ‹_›).symm,by omega,cd.pk,dT,((((((aS.trans ac).trans ae).trans aa).trans ab).trans ak).trans bk)⟩
  have fy:=of_decide_eq_false aM
  have dV:=bZ.cast (env':=[(5,.v (.int .u32 (qam l))),(6,.v (.slice A_ out.length c_)),(8,.p 0 0),(9,.v (.int .i64 ((i:Nat):Int))),(17,.v (.slice A ((u.take 32767).length) c)),(18,.v (.int .i64 (((u.take 32767).length:Nat):Int))),(19,.v (.int .i64 ((k:Nat):Int))),(43,.v (.bool false))]) (by rw [aM])
  refine qaH [5,6,7,8,9] [(5,.v (.int .u32 (qam l))),(6,.v (.slice A_ out.length c_)),(8,.p 0 0),(9,.v (.int .i64 ((i:Nat):Int))),(17,.v (.slice A ((u.take 32767).length) c)),(18,.v (.int .i64 (((u.take 32767).length:Nat):Int))),(19,.v (.int .i64 ((k:Nat):Int))),(43,.v (.bool false)),(48,.v (.bool (decide (((i:Nat):Int) < ((out.length:Nat):Int)))))] 10 (qaa (qaa (qac (qaa (qaa (qac (qaa qaf))))))) (fun _ h=>h ▸ az.cells) rfl dV fun gM dW=>?_
  have dX:(decide (((i:Nat):Int) < ((out.length:Nat):Int))) = false:=aO
  have dY:=dW.cast (env':=[(5,.v (.int .u32 (qam l))),(6,.v (.slice A_ out.length c_)),(8,.p 0 0),(9,.v (.int .i64 ((i:Nat):Int))),(17,.v (.slice A ((u.take 32767).length) c)),(18,.v (.int .i64 (((u.take 32767).length:Nat):Int))),(19,.v (.int .i64 ((k:Nat):Int))),(43,.v (.bool false)),(48,.v (.bool false))]) (by rw [dX])
  refine qaH [10,11,12,13,14,15,16,17,18,19] [(5,.v (.int .u32 (qam l))),(6,.v (.slice A_ out.length c_)),(8,.p 0 0),(9,.v (.int .i64 ((i:Nat):Int))),(17,.v (.slice A ((u.take 32767).length) c)),(18,.v (.int .i64 (((u.take 32767).length:Nat):Int))),(19,.v (.int .i64 ((k:Nat):Int))),(58,.v (.bool false))] 0 (qaa (qaa (qac (qaa (qaa (qac (qaa qaf))))))) (fun _ h=>h ▸ az.cells) rfl dY fun gN ce=>?_
  refine qaL kz ?_ _
  refine qab ?_
  refine qaQ ce (b:=false) kz rfl ?_
  refine wp_skip ?_
  refine qab ?_
  refine qad [0,1,2,3,4] kz ?_
  refine qaj [0,1] [2,3,4] [(5,.v (.int .u32 (qam l))),(8,.p 0 0),(9,.v (.int .i64 ((i:Nat):Int))),(17,.v (.slice A ((u.take 32767).length) c)),(18,.v (.int .i64 (((u.take 32767).length:Nat):Int))),(19,.v (.int .i64 ((k:Nat):Int))),(59,.v (.slice A_ out.length c_)),(60,.v (.agg #[.int .u32 0,.slice none 0 0]))] az ce fun gO dZ=>?_
  refine qbK az dZ (k:=0) (e:=64) (size:=2) (len:=1) (cs:=[.int .u32 0,.slice none 0 0]) (d1:=61) (d:=62) kz (t:=35) (bytes:=32) kz (fun _=>by kernel_rfl) rfl kz (by omega) fun ah aj gP gQ ao bn ⟨_,d5⟩=>?_
  refine qaj [4] [] [(5,.v (.int .u32 (qam l))),(6,.v (.slice ah (out.length + 1) aj)),(8,.p 0 0),(9,.v (.int .i64 ((i:Nat):Int))),(17,.v (.slice A ((u.take 32767).length) c)),(18,.v (.int .i64 (((u.take 32767).length:Nat):Int))),(19,.v (.int .i64 ((k:Nat):Int)))] bn d5 fun gR d6=>?_
  refine qae (qab ?_)
  refine wp_seq ?_
  refine qaq [(5,.v (.int .u32 (qam l))),(6,.v (.slice ah (out.length + 1) aj)),(8,.p 0 0),(9,.v (.int .i64 ((i:Nat):Int))),(10,.v (.int .i64 (IntKind.i64.wrap (((out.length + 1:Nat):Int) - 1)))),(17,.v (.slice A ((u.take 32767).length) c)),(18,.v (.int .i64 (((u.take 32767).length:Nat):Int))),(19,.v (.int .i64 ((k:Nat):Int)))] bn d6 fun gS cg=>?_
  refine wp_block ?_
  have hcl0:=(hT.move (((((ac.trans ae).trans aa).trans ab).trans ak).trans ao).step immM (((((ac.trans ae).trans aa).trans ab).trans ak).trans ao).to').len
  have d7:(⟨ah,aj,64,2,out.length + 1,css.flatten ++ [.int .u32 0,.slice none 0 0]⟩:Rw) = ⟨ah,aj,64,2,out.length + 1,(qbg css [.int .u32 0,.slice none 0 0] out.length).flatten⟩:=by rw [qeL hcl0]
  obtain ⟨cm,aw⟩:=bn.rowEq 0 [⟨ah,aj,64,2,out.length + 1,(qbg css [.int .u32 0,.slice none 0 0] out.length).flatten⟩] d7
  have d8:IntKind.i64.wrap (((out.length + 1:Nat):Int) - 1) = ((out.length:Nat):Int):=by rw [wrap_i64 (by omega) (by omega)]; omega
  rw [d8] at cg
  refine wp_loop_ghost (fun n_ a_ w_=>∃ (j:Nat),n_ = j ∧ (i ≤ j) ∧ (j ≤ out.length) ∧ LInv cm 85 [⟨eR,0,[.int .u32 al,.slice aI ax.length aJ],true⟩] [⟨ah,aj,64,2,out.length + 1,(qbg css [.int .u32 0,.slice none 0 0] j).flatten⟩] [(5,.v (.int .u32 (qam l))),(6,.v (.slice ah (out.length + 1) aj)),(8,.p 0 0),(9,.v (.int .i64 ((i:Nat):Int))),(10,.v (.int .i64 ((j:Nat):Int))),(17,.v (.slice A ((u.take 32767).length) c)),(18,.v (.int .i64 (((u.take 32767).length:Nat):Int))),(19,.v (.int .i64 ((k:Nat):Int)))] a_ w_) (out.length) ⟨out.length,rfl,hi,Nat.le_refl _,cg.pk,cm,Fr.refl _ _ _⟩ ?_
  rintro gT gU gV ⟨j,fA,hij,hjl,d9,aA,au⟩
  refine wp_seq ?_
  refine qaq [(5,.v (.int .u32 (qam l))),(6,.v (.slice ah (out.length + 1) aj)),(8,.p 0 0),(9,.v (.int .i64 ((i:Nat):Int))),(10,.v (.int .i64 ((j:Nat):Int))),(17,.v (.slice A ((u.take 32767).length) c)),(18,.v (.int .i64 (((u.take 32767).length:Nat):Int))),(19,.v (.int .i64 ((k:Nat):Int))),(68,.v (.bool (decide (((j:Nat):Int) > ((i:Nat):Int)))))] aA d9 fun gW bo=>?_
  refine qaA bo (b:=decide (((j:Nat):Int) > ((i:Nat):Int))) kz (fun bp=>?_) (fun bp=>?_)
  ·
   have fB:=of_decide_eq_true bp
   refine wp_skip ?_
   refine qab ?_
   refine wp_seq ?_
   refine wp_block ?_
   refine qar [0,1,2,3,4,5,6,7,8] kz ?_
   refine qaj [0,1,2,3,4] [5,6,7,8] [(5,.v (.int .u32 (qam l))),(6,.v (.slice ah (out.length + 1) aj)),(8,.p 0 0),(9,.v (.int .i64 ((i:Nat):Int))),(10,.v (.int .i64 ((j:Nat):Int))),(17,.v (.slice A ((u.take 32767).length) c)),(18,.v (.int .i64 (((u.take 32767).length:Nat):Int))),(19,.v (.int .i64 ((k:Nat):Int))),(71,.v (.slice ah (out.length + 1) aj)),(72,.v (.int .i64 ((j:Nat):Int))),(73,.v (.slice ah (out.length + 1) aj)),(75,.v (.int .i64 (IntKind.i64.wrap (((j:Nat):Int) - 1))))] aA bo fun gX ea=>?_
   obtain ⟨eb,cq⟩:=qbW (aA.own 0 _ rfl) (show 0 < out.length + 1 by omega)
   obtain ⟨⟨bD,bE⟩,ec⟩:∃ x,out[j - 1]? = some x:=⟨_,List.getElem?_eq_getElem (by omega)⟩
   obtain ⟨bF,bG,cr,fC,gY,gZ⟩:=TagsE.get2 (hT.move (((((((ac.trans ae).trans aa).trans ab).trans ak).trans ao).trans aw).trans au).step immM (((((((ac.trans ae).trans aa).trans ab).trans ak).trans ao).trans aw).trans au).to') ec
   have cK:=qeJ (aA.own 0 _ rfl) cq (qcx (qcZ (hT.move (((((((ac.trans ae).trans aa).trans ab).trans ak).trans ao).trans aw).trans au).step immM (((((((ac.trans ae).trans aa).trans ab).trans ak).trans ao).trans aw).trans au).to').two rfl j) (qec (show j - 1 < j by omega) cr))
   refine qal (qaW ea (t:=35) (A:=ah) (m:=(out.length + 1)) (q:=(IntKind.i64.wrap (((j:Nat):Int) - 1))) (d:=76) kz (e:=64) (size:=2) (bytes:=32) kz (b:=eb) (o:=0) (j:=(j - 1)) cq (by rw [wrap_i64 (by omega) (by omega)]; omega) (by omega) fun g6 ee=>?_)
   refine qal (qa2 ee (t:=64) (b:=eb) (o:=0 + (j - 1) * 2) (d:=77) kz (cs:=[.int .u32 bD,.slice bF bE.length bG]) (v:=.agg #[.int .u32 bD,.slice bF bE.length bG]) kz cK fun g7 ef=>?_)
   obtain ⟨eg,cu⟩:=qbW (aA.own 0 _ rfl) (show 0 < out.length + 1 by omega)
   refine qal (qaW ef (t:=35) (A:=ah) (m:=(out.length + 1)) (q:=((j:Nat):Int)) (d:=78) kz (e:=64) (size:=2) (bytes:=32) kz (b:=eg) (o:=0) (j:=j) cu (rfl) (by omega) fun g8 eh=>?_)
   refine qal (qca aA eh (k:=0) (g:=eg) (o:=j * 2) (c:=aj) (m:=(out.length + 1)) (size:=2) (e:=64) (A:=ah) (xs:=((qbg css [.int .u32 0,.slice none 0 0] j).flatten)) (vs:=[.int .u32 bD,.slice bF bE.length bG]) kz rfl cu (by simp only [List.length_cons,List.length_nil]; omega) fun g9 bq cw ei=>?_)
   refine qae ?_
   refine qau ?_
   refine qab ?_
   refine qar [0,1,2] kz ?_
   refine qaj [0,1,2] [] [(5,.v (.int .u32 (qam l))),(6,.v (.slice ah (out.length + 1) aj)),(8,.p 0 0),(9,.v (.int .i64 ((i:Nat):Int))),(10,.v (.int .i64 (IntKind.i64.wrap (((j:Nat):Int) - 1)))),(17,.v (.slice A ((u.take 32767).length) c)),(18,.v (.int .i64 (((u.take 32767).length:Nat):Int))),(19,.v (.int .i64 ((k:Nat):Int)))] cw ei fun hC cz=>?_
   refine qae (qab ?_)
   have ej:(⟨ah,aj,64,2,out.length + 1,qa4 ((qbg css [.int .u32 0,.slice none 0 0] j).flatten) (j * 2) [.int .u32 bD,.slice bF bE.length bG]⟩:Rw) = ⟨ah,aj,64,2,out.length + 1,(qbg css [.int .u32 0,.slice none 0 0] (j - 1)).flatten⟩:=by rw [qed (hT.move ((((((((ac.trans ae).trans aa).trans ab).trans ak).trans ao).trans aw).trans au).trans bq).step immM ((((((((ac.trans ae).trans aa).trans ab).trans ak).trans ao).trans aw).trans au).trans bq).to').two rfl (by omega) (by omega) cr]
   obtain ⟨ek,em⟩:=cw.rowEq 0 [⟨ah,aj,64,2,out.length + 1,(qbg css [.int .u32 0,.slice none 0 0] (j - 1)).flatten⟩] ej
   have eo:IntKind.i64.wrap (((j:Nat):Int) - 1) = ((j - 1:Nat):Int):=by rw [wrap_i64 (by omega) (by omega)]; omega
   rw [eo] at cz
   exact ⟨(j - 1),by omega,(j - 1),rfl,by omega,by omega,cz.pk,ek,((au.trans bq).trans em)⟩
  have fD:=of_decide_eq_false bp
  refine wp_exit ?_
  refine qav ?_
  refine qav ?_
  refine qaM ?_
  refine qab ?_
  refine qar [0,1,2,3,4] kz ?_
  refine qaj [0,1,2] [3,4] [(5,.v (.int .u32 (qam l))),(6,.v (.slice ah (out.length + 1) aj)),(17,.v (.slice A ((u.take 32767).length) c)),(18,.v (.int .i64 (((u.take 32767).length:Nat):Int))),(19,.v (.int .i64 ((k:Nat):Int))),(79,.v (.slice ah (out.length + 1) aj)),(80,.v (.int .i64 ((i:Nat):Int))),(81,.v (.agg #[.int .u32 al,.slice aI ax.length aJ]))] aA bo fun hJ ep=>?_
  have hji:j = i:=by omega
  have eu:(⟨ah,aj,64,2,out.length + 1,(qbg css [.int .u32 0,.slice none 0 0] j).flatten⟩:Rw) = ⟨ah,aj,64,2,out.length + 1,(qbg css [.int .u32 0,.slice none 0 0] i).flatten⟩:=by rw [hji]
  obtain ⟨cA,aF⟩:=aA.rowEq 0 [⟨ah,aj,64,2,out.length + 1,(qbg css [.int .u32 0,.slice none 0 0] i).flatten⟩] eu
  obtain ⟨ew,cB⟩:=qbW (cA.own 0 _ rfl) (show 0 < out.length + 1 by omega)
  refine qal (qaW ep (t:=35) (A:=ah) (m:=(out.length + 1)) (q:=((i:Nat):Int)) (d:=82) kz (e:=64) (size:=2) (bytes:=32) kz (b:=ew) (o:=0) (j:=i) cB (rfl) (by omega) fun hK ey=>?_)
  refine qal (qca cA ey (k:=0) (g:=ew) (o:=i * 2) (c:=aj) (m:=(out.length + 1)) (size:=2) (e:=64) (A:=ah) (xs:=((qbg css [.int .u32 0,.slice none 0 0] i).flatten)) (vs:=[.int .u32 al,.slice aI ax.length aJ]) kz rfl cB (by simp only [List.length_cons,List.length_nil]; omega) fun hY aG cC ez=>?_)
  refine qae ?_
  refine qau ?_
  refine qab ?_
  refine qar [0,1] kz ?_
  refine qaj [0,1] [] [(5,.v (.int .u32 (qam l))),(6,.v (.slice ah (out.length + 1) aj)),(17,.v (.slice A ((u.take 32767).length) c)),(18,.v (.int .i64 (((u.take 32767).length:Nat):Int))),(19,.v (.int .i64 (IntKind.i64.wrap (((k:Nat):Int) + 1))))] cC ez fun hZ eB=>?_
  refine qae (qab ?_)
  obtain ⟨bt,eC,aH⟩:=cC.cutB eB 0 [] [(5,.v (.int .u32 (qam l))),(6,.v (.slice ah (out.length + 1) aj)),(17,.v (.slice A ((u.take 32767).length) c)),(18,.v (.int .i64 (((u.take 32767).length:Nat):Int))),(19,.v (.int .i64 (IntKind.i64.wrap (((k:Nat):Int) + 1))))]
  have hcl:=(hT.move ((((((((((ac.trans ae).trans aa).trans ab).trans ak).trans ao).trans aw).trans au).trans aF).trans aG).trans aH).step immM ((((((((((ac.trans ae).trans aa).trans ab).trans ak).trans ao).trans aw).trans au).trans aF).trans aG).trans aH).to').len
  have eD:(⟨ah,aj,64,2,out.length + 1,qa4 ((qbg css [.int .u32 0,.slice none 0 0] i).flatten) (i * 2) [.int .u32 al,.slice aI ax.length aJ]⟩:Rw) = ⟨ah,aj,64,2,(out.take i ++ (al,ax) :: out.drop i).length,(css.take i ++ [.int .u32 al,.slice aI ax.length aJ] :: css.drop i).flatten⟩:=by rw [qee (hT.move ((((((((((ac.trans ae).trans aa).trans ab).trans ak).trans ao).trans aw).trans au).trans aF).trans aG).trans aH).step immM ((((((((((ac.trans ae).trans aa).trans ab).trans ak).trans ao).trans aw).trans au).trans aF).trans aG).trans aH).to').two rfl (by omega) rfl,qbL (al,ax) hi]
  obtain ⟨bu,bw⟩:=eC.rowEq 0 [⟨ah,aj,64,2,(out.take i ++ (al,ax) :: out.drop i).length,(css.take i ++ [.int .u32 al,.slice aI ax.length aJ] :: css.drop i).flatten⟩] eD
  have eE:IntKind.i64.wrap (((k:Nat):Int) + 1) = ((k + 1:Nat):Int):=qaR (by omega)
  rw [eE] at bt
  have eF:out.length + 1 = (out.take i ++ (al,ax) :: out.drop i).length:=qbL (al,ax) hi
  rw [eF] at bt
  exact ⟨(u.take 32767).length - (k + 1),by omega,k + 1,ah,aj,(out.take i ++ (al,ax) :: out.drop i),(css.take i ++ [.int .u32 al,.slice aI ax.length aJ] :: css.drop i),rfl,by omega,(hT.move (((((((((((ac.trans ae).trans aa).trans ab).trans ak).trans ao).trans aw).trans au).trans aF).trans aG).trans aH).trans bw).step immM (((((((((((ac.trans ae).trans aa).trans ab).trans ak).trans ao).trans aw).trans au).trans aF).trans aG).trans aH).trans bw).to').ins ⟨⟨aI,aJ,rfl,(cN.move bu.step nilM bu.imm)⟩,fg,fh⟩ hi,by rw [qbq aQ,← hout]; exact (qfH (qdp hi hlt (fun h_=>absurd h_ (by omega))) ‹_› (fun h_=>absurd h_ (by omega))).symm,by rw [← qbL (al,ax) hi]; omega,bt.pk,bu,((((((((((((aS.trans ac).trans ae).trans aa).trans ab).trans ak).trans ao).trans aw).trans au).trans aF).trans aG).trans aH).trans bw)⟩
 have fE:=of_decide_eq_false cE
 refine wp_exit ?_
 refine qav ?_
 refine qav ?_
 refine qaM ?_
 refine qab ?_
 refine qaq [(4,.v (.slice A_ out.length c_))] aP cD fun ia eG=>?_
 refine wp_ret ?_
 refine qaG eG aP.cells (v:=.slice A_ out.length c_) kz ?_
 exact qeu aP (k:=0) rfl rfl rfl hT (by omega) (by rw [hout,List.take_of_length_le (by omega)]; rfl)
def qf9 (d:Nat):Prop:=∀ (cf:List Value) (f:Fld) (ct:List Value) (t:Tree) (w:World) (F:Nat → Nat → Prop),FldR w F cf f → f.depth ≤ d → TreeR w F ct t →
  Calls Tryd.prog 50 #[.agg cf.toArray,.agg ct.toArray] w (qcd w (.bool (f.usual t)))
theorem qeB {d:Nat} (hu:qf9 d) (cf:List Value) (f:Fld) (ct:List Value) (t:Tree) (w:World) (F:Nat → Nat → Prop) (hf:FldR w F cf f) (hd:f.depth ≤ d + 1) (ht:TreeR w F ct t) :
  Calls Tryd.prog 50 #[.agg cf.toArray,.agg ct.toArray] w (qcd w (.bool (f.usual t))):=by
 obtain ⟨k1,y2,y3,y4,y5,y6,y7,l8,A9,aA,dF,rfl,rfl,dG,ep⟩:=hf.open_
 have eu:=dG.small
 obtain ⟨af,ab,aC,aK,aB,ah,ai,bU,bV,bw,bx,fi,rfl,rfl,ew,fj,gO,fk⟩:=ht.open_
 have ey:=ew.small
 have ez:=fj.small
 refine enter (n:=91) Tryd.func50 rfl Tryd.ntmps50 kz fun a hE=>?_
 have hW:=WOk.start w Nil
 refine qad [0,1,2] kz ?_
 refine qal (qa5 hW hE (d:=2) (cs:=[.int .i64 k1,.int .i64 y2,.int .i64 y3,.int .i64 y4,.int .i64 y5,.int .i64 y6,.int .i64 y7,.slice A9 l8.length aA]) kz fun dH gP gQ fl fm fo dI dJ=>?_)
 refine qal (qa5 dI dJ (d:=3) (cs:=[.int .i64 af,.slice ah ab.length ai,.bool aC,.slice bU aK.length bV,.slice bw aB.length bx]) kz fun dK gR gS fq fr ft aa dL=>?_)
 refine qaj [2] [] [(2,.p 0 0),(3,.p 1 0)] aa dL fun gT dM=>?_
 refine qae (qab ?_)
 refine wp_seq ?_
 refine qaq [(2,.p 0 0),(3,.p 1 0),(10,.v (.int .i64 k1))] aa dM fun gU dN=>?_
 refine wp_block ?_
 refine qaq [(2,.p 0 0),(3,.p 1 0),(10,.v (.int .i64 k1)),(11,.v (.bool (k1 == 0)))] aa dN fun gV bO=>?_
 refine qaA bO (b:=k1 == 0) kz (fun bP=>?_) (fun bP=>?_)
 ·
  have fu:k1 = 0:=by simpa using bP
  refine qaq [(4,.v (.bool ((IntKind.i64.wrap (BitVec.ofInt 64 af &&& BitVec.ofInt 64 1).toNat) == y6)))] aa bO fun gW dO=>?_
  refine wp_ret ?_
  refine qaI ?_
  refine qax ?_
  refine qaG dO aa.cells (v:=.bool ((IntKind.i64.wrap (BitVec.ofInt 64 af &&& BitVec.ofInt 64 1).toNat) == y6)) kz ?_
  refine ⟨congrArg (fun b_=>Ending.returned (Value.bool b_)) ?_,aa.step⟩
  first
   | (rw [qbP ‹_›]; simp only [and1]; done)
   | (rw [qa9 ‹_› ‹_›]; exact qa8 hz (by omega); done)
   | (rw [qa9 ‹_› ‹_›]; exact qa3 (k:=k) (by omega) (by omega) ‹_›; done)
   | (rw [qbr ‹_› ‹_› (by omega) ‹_›]; done)
   | (rw [qbB ‹_› ‹_› (by omega) ‹_›]; done)
   | (rw [qbC ‹_› ‹_› ‹_› ‹_› ‹_›]; done)
   | (rw [qbv ‹_› ‹_› ‹_› ‹_› ‹_› ‹_›,huu,qbe (by omega),Bool.true_and]; done)
   | (rw [qbd ‹_› ‹_› ‹_› ‹_› ‹_› ‹_›]; done)
 have fv:k1 ≠ 0:=by simpa using bP
 refine qaq [(2,.p 0 0),(3,.p 1 0),(10,.v (.int .i64 k1)),(19,.v (.bool (k1 == 7)))] aa bO fun gX bQ=>?_
 refine qaA bQ (b:=k1 == 7) kz (fun bR=>?_) (fun bR=>?_)
 ·
  have fw:k1 = 7:=by simpa using bR
  refine wp_seq ?_
  refine qaq [(22,.v (.slice ah ab.length ai)),(23,.v (.int .i64 ((ab.length:Nat):Int))),(24,.v (.int .i64 0))] aa bQ fun gY dP=>?_
  refine wp_block ?_
  refine wp_loop_ghost (fun n_ a_ w_=>∃ (k:Nat),n_ = ab.length - k ∧ k ≤ ab.length ∧ (∀ q,q < k → q < 16 → (((ab.getD q 0).toNat:Nat):Int) = 0) ∧ LInv aa 91 [⟨dH,0,[.int .i64 k1,.int .i64 y2,.int .i64 y3,.int .i64 y4,.int .i64 y5,.int .i64 y6,.int .i64 y7,.slice A9 l8.length aA],true⟩,⟨dK,0,[.int .i64 af,.slice ah ab.length ai,.bool aC,.slice bU aK.length bV,.slice bw aB.length bx],true⟩] [] [(22,.v (.slice ah ab.length ai)),(23,.v (.int .i64 ((ab.length:Nat):Int))),(24,.v (.int .i64 ((k:Nat):Int)))] a_ w_) (ab.length) ⟨0,by omega,by omega,fun q h_=>absurd h_ (Nat.not_lt_zero q),dP.pk,aa,Fr.refl _ _ _⟩ ?_
  rintro gZ g6 g7 ⟨k,fx,fy,hz,dQ,ae,bW⟩
  refine qaq [(22,.v (.slice ah ab.length ai)),(23,.v (.int .i64 ((ab.length:Nat):Int))),(24,.v (.int .i64 ((k:Nat):Int))),(25,.v (.bool (decide (((k:Nat):Int) < ((ab.length:Nat):Int)))))] ae dQ fun g8 bS=>?_
  refine wp_seq ?_
  refine qaA bS (b:=decide (((k:Nat):Int) < ((ab.length:Nat):Int))) kz (fun bT=>?_) (fun bT=>?_)
  ·
   have fA:=of_decide_eq_true bT
   refine wp_skip ?_
   refine qab ?_
   refine wp_seq ?_
   refine wp_block ?_
   refine qad [0,1,2,3,4] kz ?_
   refine qaj [0] [1,2,3,4] [(22,.v (.slice ah ab.length ai)),(23,.v (.int .i64 ((ab.length:Nat):Int))),(24,.v (.int .i64 ((k:Nat):Int))),(26,.v (.int .i64 ((k:Nat):Int)))] ae bS fun g9 dR=>?_
   obtain ⟨fB,fC,dS,fD,bX⟩:=Slots.get ew (i:=k) (by omega)
   refine qal (qaW dR (t:=22) (A:=ah) (m:=ab.length) (q:=((k:Nat):Int)) (d:=27) kz (e:=5) (size:=1) (bytes:=1) kz dS rfl (by omega) fun hC dT=>?_)
   refine qal (qa2 dT (t:=5) (b:=fB) (o:=fC + k * 1) (d:=28) kz (cs:=[.int .u8 ((ab.getD k 0).toNat:Int)]) (v:=.int .u8 ((ab.getD k 0).toNat:Int)) kz (AtF.move bX ae.step nilM qbw).at_ fun hJ dU=>?_)
   refine qaj [3,4] [] [(5,.v (.int .i64 ((k:Nat):Int))),(6,.v (.int .u8 ((ab.getD k 0).toNat:Int))),(22,.v (.slice ah ab.length ai)),(23,.v (.int .i64 ((ab.length:Nat):Int))),(24,.v (.int .i64 ((k:Nat):Int)))] ae dU fun hK dV=>?_
   refine qae (qab ?_)
   refine qad [0,1,2,3,4,5] kz ?_
   refine qaj [0,1,2] [3,4,5] [(6,.v (.int .u8 ((ab.getD k 0).toNat:Int))),(22,.v (.slice ah ab.length ai)),(23,.v (.int .i64 ((ab.length:Nat):Int))),(24,.v (.int .i64 ((k:Nat):Int))),(31,.v (.bool (decide (((k:Nat):Int) < 16))))] ae dV fun hY bY=>?_
   refine (Bool.eq_false_or_eq_true (decide (((k:Nat):Int) < 16))).elim (fun aL=>?_) (fun aL=>?_)
   ·
    have fE:=of_decide_eq_true aL
    have dW:=bY.cast (env':=[(6,.v (.int .u8 ((ab.getD k 0).toNat:Int))),(22,.v (.slice ah ab.length ai)),(23,.v (.int .i64 ((ab.length:Nat):Int))),(24,.v (.int .i64 ((k:Nat):Int))),(31,.v (.bool true))]) (by rw [aL])
    refine qaj [3,4,5] [] [(22,.v (.slice ah ab.length ai)),(23,.v (.int .i64 ((ab.length:Nat):Int))),(24,.v (.int .i64 ((k:Nat):Int))),(34,.v (.bool (((ab.getD k 0).toNat:Int) != 0)))] ae dW fun hZ aM=>?_
    refine qae (qab ?_)
    refine qaA aM (b:=((ab.getD k 0).toNat:Int) != 0) kz (fun aO=>?_) (fun aO=>?_)
    ·
     have eB:((ab.getD k 0).toNat:Int) ≠ 0:=by simpa using aO
     refine qaq [(4,.v (.bool false))] ae aM fun fF bZ=>?_
     refine wp_ret ?_
     refine qaI ?_
     refine qax ?_
     refine qax ?_
     refine qaI ?_
     refine qax ?_
     refine qaI ?_
     refine qax ?_
     refine qaG bZ ae.cells (v:=.bool false) kz ?_
     refine ⟨congrArg (fun b_=>Ending.returned (Value.bool b_)) ?_,ae.step⟩
     first
      | (rw [qbP ‹_›]; simp only [and1]; done)
      | (rw [qa9 ‹_› ‹_›]; exact qa8 hz (by omega); done)
      | (rw [qa9 ‹_› ‹_›]; exact qa3 (k:=k) (by omega) (by omega) ‹_›; done)
      | (rw [qbr ‹_› ‹_› (by omega) ‹_›]; done)
      | (rw [qbB ‹_› ‹_› (by omega) ‹_›]; done)
      | (rw [qbC ‹_› ‹_› ‹_› ‹_› ‹_›]; done)
      | (rw [qbv ‹_› ‹_› ‹_› ‹_› ‹_› ‹_›,huu,qbe (by omega),Bool.true_and]; done)
      | (rw [qbd ‹_› ‹_› ‹_› ‹_› ‹_› ‹_›]; done)
    have eC:((ab.getD k 0).toNat:Int) = 0:=by simpa using aO
    refine wp_skip ?_
    refine qau ?_
    refine qab ?_
    refine qar [0,1] kz ?_
    refine qaj [0,1] [] [(22,.v (.slice ah ab.length ai)),(23,.v (.int .i64 ((ab.length:Nat):Int))),(24,.v (.int .i64 (IntKind.i64.wrap (((k:Nat):Int) + 1))))] ae aM fun fG bz=>?_
    refine qae (qab ?_)
    have b8:IntKind.i64.wrap (((k:Nat):Int) + 1) = ((k + 1:Nat):Int):=qaR (by omega)
    rw [b8] at bz
    exact ⟨ab.length - (k + 1),by omega,k + 1,rfl,by omega,fun q hq cd=>by rcases Nat.lt_succ_iff_lt_or_eq.1 hq with h_ | h_; exact hz q h_ cd; rw [h_] at cd ⊢; first | assumption | omega,bz.pk,ae,bW⟩
   have eD:=of_decide_eq_false aL
   have ce:=bY.cast (env':=[(6,.v (.int .u8 ((ab.getD k 0).toNat:Int))),(22,.v (.slice ah ab.length ai)),(23,.v (.int .i64 ((ab.length:Nat):Int))),(24,.v (.int .i64 ((k:Nat):Int))),(31,.v (.bool false))]) (by rw [aL])
   refine qaj [3,4,5] [] [(22,.v (.slice ah ab.length ai)),(23,.v (.int .i64 ((ab.length:Nat):Int))),(24,.v (.int .i64 ((k:Nat):Int))),(34,.v (.bool false))] ae ce fun fH bA=>?_
   refine qae (qab ?_)
   refine qaQ bA (b:=false) kz rfl ?_
   refine wp_skip ?_
   refine qau ?_
   refine qab ?_
   refine qar [0,1] kz ?_
   refine qaj [0,1] [] [(22,.v (.slice ah ab.length ai)),(23,.v (.int .i64 ((ab.length:Nat):Int))),(24,.v (.int .i64 (IntKind.i64.wrap (((k:Nat):Int) + 1))))] ae bA fun fI bB=>?_
   refine qae (qab ?_)
   have cg:IntKind.i64.wrap (((k:Nat):Int) + 1) = ((k + 1:Nat):Int):=qaR (by omega)
   rw [cg] at bB
   exact ⟨ab.length - (k + 1),by omega,k + 1,rfl,by omega,fun q hq cd=>by rcases Nat.lt_succ_iff_lt_or_eq.1 hq with h_ | h_; exact hz q h_ cd; rw [h_] at cd ⊢; first | assumption | omega,bB.pk,ae,bW⟩
  have eE:=of_decide_eq_false bT
  refine wp_exit ?_
  refine qav ?_
  refine qav ?_
  refine qaM ?_
  refine qab ?_
  refine qaq [(4,.v (.bool true))] ae bS fun fJ cm=>?_
  refine wp_ret ?_
  refine qaI ?_
  refine qax ?_
  refine qaG cm ae.cells (v:=.bool true) kz ?_
  refine ⟨congrArg (fun b_=>Ending.returned (Value.bool b_)) ?_,ae.step⟩
  first
   | (rw [qbP ‹_›]; simp only [and1]; done)
   | (rw [qa9 ‹_› ‹_›]; exact qa8 hz (by omega); done)
   | (rw [qa9 ‹_› ‹_›]; exact qa3 (k:=k) (by omega) (by omega) ‹_›; done)
   | (rw [qbr ‹_› ‹_› (by omega) ‹_›]; done)
   | (rw [qbB ‹_› ‹_› (by omega) ‹_›]; done)
   | (rw [qbC ‹_› ‹_› ‹_› ‹_› ‹_›]; done)
   | (rw [qbv ‹_› ‹_› ‹_› ‹_› ‹_› ‹_›,huu,qbe (by omega),Bool.true_and]; done)
   | (rw [qbd ‹_› ‹_› ‹_› ‹_› ‹_› ‹_›]; done)
 have eF:k1 ≠ 7:=by simpa using bR
 refine wp_seq ?_
 refine qaq [(2,.p 0 0),(3,.p 1 0),(10,.v (.int .i64 k1)),(36,.v (.bool (k1 == 8)))] aa bQ fun fK aD=>?_
 refine qaA aD (b:=k1 == 8) kz (fun aE=>?_) (fun aE=>?_)
 ·
  have eG:k1 = 8:=by simpa using aE
  refine wp_skip ?_
  refine qab ?_
  refine qbb aD (b:=k1 == 8) kz (aE) ?_
  refine wp_seq ?_
  refine qaq [(3,.p 1 0),(41,.v (.bool (decide (y4 ≥ 0))))] aa aD fun fL aP=>?_
  refine qaA aP (b:=decide (y4 ≥ 0)) kz (fun aQ=>?_) (fun aQ=>?_)
  ·
   have eH:=of_decide_eq_true aQ
   refine qaq [(4,.v (.bool aC))] aa aP fun fM cq=>?_
   refine wp_ret ?_
   refine qax ?_
   refine qaI ?_
   refine qax ?_
   refine qaG cq aa.cells (v:=.bool aC) kz ?_
   refine ⟨congrArg (fun b_=>Ending.returned (Value.bool b_)) ?_,aa.step⟩
   first
    | (rw [qbP ‹_›]; simp only [and1]; done)
    | (rw [qa9 ‹_› ‹_›]; exact qa8 hz (by omega); done)
    | (rw [qa9 ‹_› ‹_›]; exact qa3 (k:=k) (by omega) (by omega) ‹_›; done)
    | (rw [qbr ‹_› ‹_› (by omega) ‹_›]; done)
    | (rw [qbB ‹_› ‹_› (by omega) ‹_›]; done)
    | (rw [qbC ‹_› ‹_› ‹_› ‹_› ‹_›]; done)
    | (rw [qbv ‹_› ‹_› ‹_› ‹_› ‹_› ‹_›,huu,qbe (by omega),Bool.true_and]; done)
    | (rw [qbd ‹_› ‹_› ‹_› ‹_› ‹_› ‹_›]; done)
  have eI:=of_decide_eq_false aQ
  refine wp_skip ?_
  refine qab ?_
  refine qaq [(4,.v (.bool (((ab.length:Nat):Int) == 0)))] aa aP fun fN cr=>?_
  refine wp_ret ?_
  refine qaI ?_
  refine qax ?_
  refine qaG cr aa.cells (v:=.bool (((ab.length:Nat):Int) == 0)) kz ?_
  refine ⟨congrArg (fun b_=>Ending.returned (Value.bool b_)) ?_,aa.step⟩
  first
   | (rw [qbP ‹_›]; simp only [and1]; done)
   | (rw [qa9 ‹_› ‹_›]; exact qa8 hz (by omega); done)
   | (rw [qa9 ‹_› ‹_›]; exact qa3 (k:=k) (by omega) (by omega) ‹_›; done)
   | (rw [qbr ‹_› ‹_› (by omega) ‹_›]; done)
   | (rw [qbB ‹_› ‹_› (by omega) ‹_›]; done)
   | (rw [qbC ‹_› ‹_› ‹_› ‹_› ‹_›]; done)
   | (rw [qbv ‹_› ‹_› ‹_› ‹_› ‹_› ‹_›,huu,qbe (by omega),Bool.true_and]; done)
   | (rw [qbd ‹_› ‹_› ‹_› ‹_› ‹_› ‹_›]; done)
 have eJ:k1 ≠ 8:=by simpa using aE
 refine qar [0,1] kz ?_
 refine qaj [0,1] [] [(2,.p 0 0),(3,.p 1 0),(10,.v (.int .i64 k1)),(36,.v (.bool (k1 == 9)))] aa aD fun fO aR=>?_
 refine qae (qab ?_)
 refine qaA aR (b:=k1 == 9) kz (fun aS=>?_) (fun aS=>?_)
 ·
  have eK:k1 = 9:=by simpa using aS
  refine wp_seq ?_
  refine qaq [(3,.p 1 0),(41,.v (.bool (decide (y4 ≥ 0))))] aa aR fun fP aT=>?_
  refine qaA aT (b:=decide (y4 ≥ 0)) kz (fun aU=>?_) (fun aU=>?_)
  ·
   have eL:=of_decide_eq_true aU
   refine qaq [(4,.v (.bool aC))] aa aT fun fQ cu=>?_
   refine wp_ret ?_
   refine qax ?_
   refine qaI ?_
   refine qax ?_
   refine qaG cu aa.cells (v:=.bool aC) kz ?_
   refine ⟨congrArg (fun b_=>Ending.returned (Value.bool b_)) ?_,aa.step⟩
   first
    | (rw [qbP ‹_›]; simp only [and1]; done)
    | (rw [qa9 ‹_› ‹_›]; exact qa8 hz (by omega); done)
    | (rw [qa9 ‹_› ‹_›]; exact qa3 (k:=k) (by omega) (by omega) ‹_›; done)
    | (rw [qbr ‹_› ‹_› (by omega) ‹_›]; done)
    | (rw [qbB ‹_› ‹_› (by omega) ‹_›]; done)
    | (rw [qbC ‹_› ‹_› ‹_› ‹_› ‹_›]; done)
    | (rw [qbv ‹_› ‹_› ‹_› ‹_› ‹_› ‹_›,huu,qbe (by omega),Bool.true_and]; done)
    | (rw [qbd ‹_› ‹_› ‹_› ‹_› ‹_› ‹_›]; done)
  have eM:=of_decide_eq_false aU
  refine wp_skip ?_
  refine qab ?_
  refine qaq [(4,.v (.bool (((ab.length:Nat):Int) == 0)))] aa aT fun fR cw=>?_
  refine wp_ret ?_
  refine qaI ?_
  refine qax ?_
  refine qaG cw aa.cells (v:=.bool (((ab.length:Nat):Int) == 0)) kz ?_
  refine ⟨congrArg (fun b_=>Ending.returned (Value.bool b_)) ?_,aa.step⟩
  first
   | (rw [qbP ‹_›]; simp only [and1]; done)
   | (rw [qa9 ‹_› ‹_›]; exact qa8 hz (by omega); done)
   | (rw [qa9 ‹_› ‹_›]; exact qa3 (k:=k) (by omega) (by omega) ‹_›; done)
   | (rw [qbr ‹_› ‹_› (by omega) ‹_›]; done)
   | (rw [qbB ‹_› ‹_› (by omega) ‹_›]; done)
   | (rw [qbC ‹_› ‹_› ‹_› ‹_› ‹_›]; done)
   | (rw [qbv ‹_› ‹_› ‹_› ‹_› ‹_› ‹_›,huu,qbe (by omega),Bool.true_and]; done)
   | (rw [qbd ‹_› ‹_› ‹_› ‹_› ‹_› ‹_›]; done)
 have eN:k1 ≠ 9:=by simpa using aS
 refine qaq [(2,.p 0 0),(3,.p 1 0),(10,.v (.int .i64 k1)),(48,.v (.bool (k1 == 11)))] aa aR fun fS aV=>?_
 refine qaA aV (b:=k1 == 11) kz (fun aW=>?_) (fun aW=>?_)
 ·
  have eO:k1 = 11:=by simpa using aW
  refine qaq [(4,.v (.bool (((aK.length:Nat):Int) == 0)))] aa aV fun fT cz=>?_
  refine wp_ret ?_
  refine qaI ?_
  refine qax ?_
  refine qaG cz aa.cells (v:=.bool (((aK.length:Nat):Int) == 0)) kz ?_
  refine ⟨congrArg (fun b_=>Ending.returned (Value.bool b_)) ?_,aa.step⟩
  first
   | (rw [qbP ‹_›]; simp only [and1]; done)
   | (rw [qa9 ‹_› ‹_›]; exact qa8 hz (by omega); done)
   | (rw [qa9 ‹_› ‹_›]; exact qa3 (k:=k) (by omega) (by omega) ‹_›; done)
   | (rw [qbr ‹_› ‹_› (by omega) ‹_›]; done)
   | (rw [qbB ‹_› ‹_› (by omega) ‹_›]; done)
   | (rw [qbC ‹_› ‹_› ‹_› ‹_› ‹_›]; done)
   | (rw [qbv ‹_› ‹_› ‹_› ‹_› ‹_› ‹_›,huu,qbe (by omega),Bool.true_and]; done)
   | (rw [qbd ‹_› ‹_› ‹_› ‹_› ‹_› ‹_›]; done)
 have eP:k1 ≠ 11:=by simpa using aW
 refine qaq [(2,.p 0 0),(3,.p 1 0),(54,.v (.bool (k1 == 10)))] aa aV fun fU aX=>?_
 refine qaA aX (b:=k1 == 10) kz (fun aY=>?_) (fun aY=>?_)
 ·
  have eQ:k1 = 10:=by simpa using aY
  refine wp_seq ?_
  refine qaq [(2,.p 0 0),(3,.p 1 0),(57,.v (.slice A9 l8.length aA)),(58,.v (.int .i64 ((l8.length:Nat):Int))),(59,.v (.int .i64 0))] aa aX fun fV cA=>?_
  refine wp_block ?_
  refine wp_loop_ghost (fun n_ a_ w_=>∃ (k:Nat),n_ = l8.length - k ∧ k ≤ l8.length ∧ (usuals l8 (Tree.mk af ab aC aK aB) 0 = usuals (l8.drop k) (Tree.mk af ab aC aK aB) k) ∧ LInv aa 91 [⟨dH,0,[.int .i64 k1,.int .i64 y2,.int .i64 y3,.int .i64 y4,.int .i64 y5,.int .i64 y6,.int .i64 y7,.slice A9 l8.length aA],true⟩,⟨dK,0,[.int .i64 af,.slice ah ab.length ai,.bool aC,.slice bU aK.length bV,.slice bw aB.length bx],true⟩] [] [(2,.p 0 0),(3,.p 1 0),(57,.v (.slice A9 l8.length aA)),(58,.v (.int .i64 ((l8.length:Nat):Int))),(59,.v (.int .i64 ((k:Nat):Int)))] a_ w_) (l8.length) ⟨0,by omega,by omega,rfl,cA.pk,aa,Fr.refl _ _ _⟩ ?_
  rintro fW fX fY ⟨k,eR,eS,huu,cB,ac,cC⟩
  refine qaq [(2,.p 0 0),(3,.p 1 0),(57,.v (.slice A9 l8.length aA)),(58,.v (.int .i64 ((l8.length:Nat):Int))),(59,.v (.int .i64 ((k:Nat):Int))),(60,.v (.bool (decide (((k:Nat):Int) < ((l8.length:Nat):Int)))))] ac cB fun fZ aZ=>?_
  refine wp_seq ?_
  refine qaA aZ (b:=decide (((k:Nat):Int) < ((l8.length:Nat):Int))) kz (fun ba=>?_) (fun ba=>?_)
  ·
   have eU:=of_decide_eq_true ba
   refine wp_skip ?_
   refine qab ?_
   refine wp_seq ?_
   refine wp_block ?_
   refine qad [0,1,2,3,4,5] kz ?_
   refine qaj [0] [1,2,3,4,5] [(2,.p 0 0),(3,.p 1 0),(57,.v (.slice A9 l8.length aA)),(58,.v (.int .i64 ((l8.length:Nat):Int))),(59,.v (.int .i64 ((k:Nat):Int))),(61,.v (.int .i64 ((k:Nat):Int)))] ac aZ fun f5 cD=>?_
   obtain ⟨dX,dY,cE,eV,bf⟩:=Slots.get dG (i:=k) (by omega)
   obtain ⟨dZ,aF⟩:∃ x,l8[k]? = some x:=⟨_,List.getElem?_eq_getElem (by omega)⟩
   have bg:=ep k dZ aF
   obtain ⟨aj,ak,al,am,ao,ap,ar,au,aI,aJ,eW,rfl,bh,d5,f7⟩:=bg.open_
   rw [bh] at bg
   have d6:=d5.small
   rw [bh] at bf
   refine qal (qaW cD (t:=30) (A:=A9) (m:=l8.length) (q:=((k:Nat):Int)) (d:=62) kz (e:=60) (size:=8) (bytes:=80) kz cE rfl (by omega) fun f8 cG=>?_)
   refine qal (qa2 cG (t:=60) (b:=dX) (o:=dY + k * 8) (d:=63) kz (cs:=[.int .i64 aj,.int .i64 ak,.int .i64 al,.int .i64 am,.int .i64 ao,.int .i64 ap,.int .i64 ar,.slice aI au.length aJ]) (v:=.agg #[.int .i64 aj,.int .i64 ak,.int .i64 al,.int .i64 am,.int .i64 ao,.int .i64 ap,.int .i64 ar,.slice aI au.length aJ]) kz (AtF.move bf ac.step nilM qbw).at_ fun f9 cH=>?_)
   refine qal (qat ac cH (d:=8) (cs:=[.int .i64 0,.int .i64 0,.int .i64 0,.int .i64 0,.int .i64 0,.int .i64 0,.int .i64 0,.slice none 0 0]) kz fun ga gb gc eX eY cI bC cJ=>?_)
   refine qaj [4] [5] [(2,.p 0 0),(3,.p 1 0),(7,.v (.int .i64 ((k:Nat):Int))),(8,.p 2 0),(57,.v (.slice A9 l8.length aA)),(58,.v (.int .i64 ((l8.length:Nat):Int))),(59,.v (.int .i64 ((k:Nat):Int))),(63,.v (.agg #[.int .i64 aj,.int .i64 ak,.int .i64 al,.int .i64 am,.int .i64 ao,.int .i64 ap,.int .i64 ar,.slice aI au.length aJ]))] bC cJ fun gd cK=>?_
   refine qal (qan bC cK (oi:=2) (cs:=[.int .i64 aj,.int .i64 ak,.int .i64 al,.int .i64 am,.int .i64 ao,.int .i64 ap,.int .i64 ar,.slice aI au.length aJ]) kz fun ge cL cM cN=>?_)
   refine qae (qab ?_)
   refine qaT 6 kz cM fun gg cO av cP=>?_
   refine qaH [0,1,2] [(2,.p 0 0),(3,.p 1 0),(57,.v (.slice A9 l8.length aA)),(58,.v (.int .i64 ((l8.length:Nat):Int))),(59,.v (.int .i64 ((k:Nat):Int))),(64,.v (.agg #[.int .i64 aj,.int .i64 ak,.int .i64 al,.int .i64 am,.int .i64 ao,.int .i64 ap,.int .i64 ar,.slice aI au.length aJ])),(65,.v (.agg #[.int .i64 af,.slice ah ab.length ai,.bool aC,.slice bU aK.length bV,.slice bw aB.length bx])),(66,.v (.int .i64 ((k:Nat):Int)))] 3 (qaa (qac (qaa (qaa (qac (qaa (qac (qaa qaf)))))))) (fun _ h=>h.cells) cP cN fun gh cQ=>?_
   refine qaE (i:=3) kz (qak cQ (f:=48) (vs:=[.agg #[.int .i64 af,.slice ah ab.length ai,.bool aC,.slice bU aK.length bV,.slice bw aB.length bx],.int .i64 ((k:Nat):Int)]) (d:=67) kz Tryd.call48 (sAt _ _ k _ _ (ht.move av.step nilM av.imm)) ?_)
   rintro e_ gi ⟨eZ,rfl,cR,aw⟩
   have bi:=cR.move aw nilM (fun b o h_ hb_=>av.laid (G:=F) aw b o (.inl h_) (Nat.lt_of_lt_of_le hb_ aw.size))
   obtain ⟨d7,d8,d9,ea,eb,ec,ee,ef,eg,eh,ei,e9,fa,bj,ej,ek,gj,gk⟩:=bi.open_
   rw [bj] at bi
   have em:=ej.small
   have eo:=ek.small
   rw [bj]
   refine ⟨_,rfl,fun gl cS=>?_⟩
   have ax:=av.next_nil aw
   have bk:=av.frN aw
   have cT:=TT.ofW bk ax
   refine ⟨fun _=>cT,?_⟩
   refine qaE (i:=4) kz (qak cS (f:=50) (vs:=[.agg #[.int .i64 aj,.int .i64 ak,.int .i64 al,.int .i64 am,.int .i64 ao,.int .i64 ap,.int .i64 ar,.slice aI au.length aJ],.agg #[.int .i64 d7,.slice ec d8.length ee,.bool d9,.slice ef ea.length eg,.slice eh eb.length ei]]) (d:=68) kz Tryd.call50 ( hu _ _ _ _ _ _ (bg.move ax.step nilM ax.imm) (by have h_:=qcz aF; rw [qde] at hd; omega) bi) ?_)
   rintro e_ gm ⟨rfl,bD⟩
   refine ⟨_,rfl,fun gn cU=>?_⟩
   have ag:=ax.next_nil bD
   have bE:=ax.frN bD
   have bF:=TT.ofW (bk.trans bE) ag
   refine ⟨fun _=>bF,?_⟩
   refine qaH [5] [(2,.p 0 0),(3,.p 1 0),(57,.v (.slice A9 l8.length aA)),(58,.v (.int .i64 ((l8.length:Nat):Int))),(59,.v (.int .i64 ((k:Nat):Int))),(69,.v (.bool (!(Fld.usual (Fld.mk aj ak al am ao ap ar au) (Tree.at_ (Tree.mk af ab aC aK aB) k)))))] 0 (qaa (qac (qaa (qaa (qac (qaa (qac (qaa qaf)))))))) (fun _ h=>h.cells) bF cU fun gp bn=>?_
   refine qaL kz ?_ _
   refine qab ?_
   refine qaA bn (b:=!(Fld.usual (Fld.mk aj ak al am ao ap ar au) (Tree.at_ (Tree.mk af ab aC aK aB) k))) kz (fun bo=>?_) (fun bo=>?_)
   ·
    refine qaq [(4,.v (.bool false))] ag bn fun gq cV=>?_
    refine wp_ret ?_
    refine qaI ?_
    refine qax ?_
    refine qax ?_
    refine qaI ?_
    refine qax ?_
    refine qaI ?_
    refine qax ?_
    refine qaG cV ag.cells (v:=.bool false) kz ?_
    refine ⟨congrArg (fun b_=>Ending.returned (Value.bool b_)) ?_,ag.step⟩
    first
     | (rw [qbP ‹_›]; simp only [and1]; done)
     | (rw [qa9 ‹_› ‹_›]; exact qa8 hz (by omega); done)
     | (rw [qa9 ‹_› ‹_›]; exact qa3 (k:=k) (by omega) (by omega) ‹_›; done)
     | (rw [qbr ‹_› ‹_› (by omega) ‹_›]; done)
     | (rw [qbB ‹_› ‹_› (by omega) ‹_›]; done)
     | (rw [qbC ‹_› ‹_› ‹_› ‹_› ‹_›]; done)
     | (rw [qbv ‹_› ‹_› ‹_› ‹_› ‹_› ‹_›,huu,qbe (by omega),Bool.true_and]; done)
     | (rw [qbd ‹_› ‹_› ‹_› ‹_› ‹_› ‹_›]; done)
     | (rw [qbv ‹_› ‹_› ‹_› ‹_› ‹_› ‹_›,huu,qew aF (by simpa using bo),Bool.false_and]; done)
   refine wp_skip ?_
   refine qau ?_
   refine qab ?_
   refine qar [0,1] kz ?_
   refine qaj [0,1] [] [(2,.p 0 0),(3,.p 1 0),(57,.v (.slice A9 l8.length aA)),(58,.v (.int .i64 ((l8.length:Nat):Int))),(59,.v (.int .i64 (IntKind.i64.wrap (((k:Nat):Int) + 1))))] ag bn fun gt cW=>?_
   refine qae (qab ?_)
   obtain ⟨bG,cX,cY⟩:=ag.cutB cW 2 [⟨dH,0,[.int .i64 k1,.int .i64 y2,.int .i64 y3,.int .i64 y4,.int .i64 y5,.int .i64 y6,.int .i64 y7,.slice A9 l8.length aA],true⟩,⟨dK,0,[.int .i64 af,.slice ah ab.length ai,.bool aC,.slice bU aK.length bV,.slice bw aB.length bx],true⟩] [(2,.p 0 0),(3,.p 1 0),(57,.v (.slice A9 l8.length aA)),(58,.v (.int .i64 ((l8.length:Nat):Int))),(59,.v (.int .i64 (IntKind.i64.wrap (((k:Nat):Int) + 1))))]
   have cZ:IntKind.i64.wrap (((k:Nat):Int) + 1) = ((k + 1:Nat):Int):=qaR (by omega)
   rw [cZ] at bG
   exact ⟨l8.length - (k + 1),by omega,k + 1,rfl,by omega,by rw [huu]; exact qev aF (by simpa using bo),bG.pk,cX,((((((cC.trans cI).trans cL).trans cO).trans bk).trans bE).trans cY)⟩
  have fb:=of_decide_eq_false ba
  refine wp_exit ?_
  refine qav ?_
  refine qav ?_
  refine qaM ?_
  refine qab ?_
  refine qad [0,1,2,3,4,5,6,7] kz ?_
  refine qaj [0,1,2,3] [4,5,6,7] [(72,.v (.slice A9 l8.length aA)),(74,.v (.slice bw aB.length bx))] ac aZ fun gv c5=>?_
  refine qal (qak c5 (f:=53) (vs:=[.slice A9 l8.length aA,.slice bw aB.length bx]) (d:=75) kz Tryd.call53 (qeS _ _ l8 _ _ aB _ _ ⟨dF,(dG.move ac.step nilM ac.imm),(fun i_ x_ h_=>((ep i_ x_ h_).move ac.step nilM ac.imm))⟩ (fk.move ac.step nilM ac.imm)) ?_)
  rintro e_ gw ⟨gx,gy,rfl,c6,bp⟩
  have fe:=c6.move (Step.refl _ Nil) nilM (ac.laid (G:=F) bp)
  refine ⟨_,rfl,fun gz da=>?_⟩
  have bq:=ac.next_nil bp
  have ff:=ac.frN bp
  refine qaj [5,6,7] [] [(4,.v (.bool ((((qah l8 aB).length:Nat):Int) == 0)))] bq da fun gA db=>?_
  refine qae (qab ?_)
  refine wp_ret ?_
  refine qaI ?_
  refine qax ?_
  refine qaG db bq.cells (v:=.bool ((((qah l8 aB).length:Nat):Int) == 0)) kz ?_
  refine ⟨congrArg (fun b_=>Ending.returned (Value.bool b_)) ?_,bq.step⟩
  first
   | (rw [qbP ‹_›]; simp only [and1]; done)
   | (rw [qa9 ‹_› ‹_›]; exact qa8 hz (by omega); done)
   | (rw [qa9 ‹_› ‹_›]; exact qa3 (k:=k) (by omega) (by omega) ‹_›; done)
   | (rw [qbr ‹_› ‹_› (by omega) ‹_›]; done)
   | (rw [qbB ‹_› ‹_› (by omega) ‹_›]; done)
   | (rw [qbC ‹_› ‹_› ‹_› ‹_› ‹_›]; done)
   | (rw [qbv ‹_› ‹_› ‹_› ‹_› ‹_› ‹_›,huu,qbe (by omega),Bool.true_and]; done)
   | (rw [qbd ‹_› ‹_› ‹_› ‹_› ‹_› ‹_›]; done)
 have fg:k1 ≠ 10:=by simpa using aY
 refine wp_skip ?_
 refine qau ?_
 refine qab ?_
 refine qaT 13 kz aa fun gB fh bH dc=>?_
 refine qaH [0,1,2,3,6,7,8,9] [(79,.v (.int .i64 af)),(81,.v (.int .i64 k1)),(85,.v (.int .i64 y6)),(87,.v (.int .i64 k1))] 6 (qaa qaf) (fun _ h=>h.cells) dc aX fun gC de=>?_
 refine qaE (i:=4) kz (qak de (f:=72) (vs:=[.int .i64 k1]) (d:=82) kz Tryd.call72 (qf5 k1 _) ?_)
 rintro e_ gD ⟨rfl,bI⟩
 refine ⟨_,rfl,fun gE df=>?_⟩
 have bJ:=bH.next_nil bI
 have ay:=bH.frN bI
 have dg:=TT.ofW ay bJ
 refine ⟨fun _=>dg,?_⟩
 refine qaE (i:=5) kz (qak df (f:=28) (vs:=[.int .i64 af,.int .i64 ((qa6 k1:Nat):Int)]) (d:=83) kz Tryd.call28 (qc8 af (qa6 k1) (by first | decide | exact qbu _ | omega) _) ?_)
 rintro e_ gF ⟨dh,di,rfl,dj,dl⟩
 refine ⟨_,rfl,fun gG dp=>?_⟩
 obtain ⟨bt,aG⟩:=bJ.frFresh dl (brow dh di 5 (be (qa6 k1) af)) (Nat.le_refl _) dj
 have dq:=TT.ofW (ay.trans aG) bt
 refine ⟨fun _=>dq,?_⟩
 refine qaE (i:=10) kz (qak dp (f:=72) (vs:=[.int .i64 k1]) (d:=88) kz Tryd.call72 (qf5 k1 _) ?_)
 rintro e_ gH ⟨rfl,bK⟩
 refine ⟨_,rfl,fun gI dr=>?_⟩
 have bL:=bt.next_nil bK
 have bu:=bt.frN bK
 have dt:=TT.ofW ((ay.trans aG).trans bu) bL
 refine ⟨fun _=>dt,?_⟩
 refine qaE (i:=11) kz (qak dr (f:=28) (vs:=[.int .i64 y6,.int .i64 ((qa6 k1:Nat):Int)]) (d:=89) kz Tryd.call28 (qc8 y6 (qa6 k1) (by first | decide | exact qbu _ | omega) _) ?_)
 rintro e_ gJ ⟨du,dv,rfl,dw,dx⟩
 refine ⟨_,rfl,fun gK dy=>?_⟩
 obtain ⟨az,bM⟩:=bL.frFresh dx (brow du dv 5 (be (qa6 k1) y6)) (Nat.le_refl _) dw
 have dA:=TT.ofW (((ay.trans aG).trans bu).trans bM) az
 refine ⟨fun _=>dA,?_⟩
 refine qaE (i:=12) kz (qak dy (f:=31) (vs:=[.slice dh ((be (qa6 k1) af).length) di,.slice du ((be (qa6 k1) y6).length) dv]) (d:=90) kz Tryd.call31 (qhh _ _ _ _ (be (qa6 k1) af) (be (qa6 k1) y6) _ _ (qcY (az.own 0 _ rfl) (by first | omega | (rw [qbX]; decide) | (simp only [be_length]; exact Nat.le_trans (qbu _) (by decide)) | (have:=hroom; omega) | (have:=hmade; omega) | (simp only [List.length_append,List.length_nil]; omega)) (F:=fun _ _=>True) (fun _ _ _=>trivial)) (qcY (az.own 1 _ rfl) (by first | omega | (rw [qbX]; decide) | (simp only [be_length]; exact Nat.le_trans (qbu _) (by decide)) | (have:=hroom; omega) | (have:=hmade; omega) | (simp only [List.length_append,List.length_nil]; omega)) (F:=fun _ _=>True) (fun _ _ _=>trivial))) ?_)
 rintro e_ gL ⟨rfl,bN⟩
 refine ⟨_,rfl,fun gM dB=>?_⟩
 have aH:=az.next_nil bN
 have dC:=az.frN bN
 have dD:=TT.ofW ((((ay.trans aG).trans bu).trans bM).trans dC) aH
 refine ⟨fun _=>dD,?_⟩
 refine qaE (i:=13) kz (qbp [4] aH.cells dB (env':=[(4,.v (.bool (decide (be (qa6 k1) af = be (qa6 k1) y6))))]) kz fun gN dE=>?_)
 refine ⟨fun h=>absurd rfl h,?_⟩
 refine qaL kz ?_ _
 refine qab ?_
 refine wp_ret ?_
 refine qaG dE aH.cells (v:=.bool (decide (be (qa6 k1) af = be (qa6 k1) y6))) kz ?_
 refine ⟨congrArg (fun b_=>Ending.returned (Value.bool b_)) ?_,aH.step⟩
 first
  | (rw [qbP ‹_›]; simp only [and1]; done)
  | (rw [qa9 ‹_› ‹_›]; exact qa8 hz (by omega); done)
  | (rw [qa9 ‹_› ‹_›]; exact qa3 (k:=k) (by omega) (by omega) ‹_›; done)
  | (rw [qbr ‹_› ‹_› (by omega) ‹_›]; done)
  | (rw [qbB ‹_› ‹_› (by omega) ‹_›]; done)
  | (rw [qbC ‹_› ‹_› ‹_› ‹_› ‹_›]; done)
  | (rw [qbv ‹_› ‹_› ‹_› ‹_› ‹_› ‹_›,huu,qbe (by omega),Bool.true_and]; done)
  | (rw [qbd ‹_› ‹_› ‹_› ‹_› ‹_› ‹_›]; done)
theorem qgU:∀ d,qf9 d
 | 0=>fun cf f ct t w F hf hd ht=>by
  obtain ⟨k,x1,x2,x3,x4,x5,x6,l,A,c,xs,rfl,_⟩:=hf.open_
  rw [qde] at hd; omega
 | d + 1=>qeB (qgU d)
end Go.Proofs.YtajibgahdkllkaaDoorR.ME