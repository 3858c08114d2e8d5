/- The texts of a claim, put together: the engine, the contracts, the law. Own work. -/
import Derived.Test.YtdlaobdadlmcdaaGreatDoorWt0P4
namespace Go.Proofs.YtdlaobdadlmcdaaGreatDoor.ME
open Go
open Go.RowKit
set_option linter.unusedVariables false
set_option linter.unusedSimpArgs false
set_option maxRecDepth 20000
theorem n8w (x:Int):IntKind.i8.wrap x = (x + 128) % 256 - 128:=by simp [IntKind.wrap,IntKind.signed,IntKind.bits]; omega
theorem n16w (x:Int):IntKind.i16.wrap x = (x + 32768) % 65536 - 32768:=by simp [IntKind.wrap,IntKind.signed,IntKind.bits]; omega
theorem n32w (x:Int):IntKind.i32.wrap x = (x + 2147483648) % 4294967296 - 2147483648:=by simp [IntKind.wrap,IntKind.signed,IntKind.bits]; omega
theorem n64w (x:Int):IntKind.i64.wrap x = (x + 9223372036854775808) % 18446744073709551616 - 9223372036854775808:=by simp [IntKind.wrap,IntKind.signed,IntKind.bits]; omega
theorem qiI (x:Int):IntKind.i64.wrap (IntKind.i8.wrap x) = IntKind.i8.wrap x:=by rw [n64w,n8w]; omega
theorem qfd (x:Int):IntKind.i64.wrap (IntKind.i16.wrap x) = IntKind.i16.wrap x:=by rw [n64w,n16w]; omega
theorem qfe (x:Int):IntKind.i64.wrap (IntKind.i32.wrap x) = IntKind.i32.wrap x:=by rw [n64w,n32w]; omega
theorem qfa (x:Int):IntKind.i64.wrap (IntKind.u16.wrap x) = IntKind.u16.wrap x:=by rw [n64w,qbO]; omega
def qbx (k n:Int):Int:=if k = 0 then n % 2 else if k = 1 then IntKind.i8.wrap n else if k = 2 then IntKind.i16.wrap n else if k = 3 then IntKind.i32.wrap n else if k = 5 then IntKind.u16.wrap n else n
structure UsQ (U:List Fld → Tree → Prop) (k x1 x2 x3 x4 x5 x6:Int) (sub:List Fld) (n:Int) (s:Bs) (b:Bool) (l:List Tree) (u:List (Int × Bs)):Prop where
 text:k = 8 → b = decide (x3 ≥ 0) ∧ s = []
 uuid:k = 7 → s = List.replicate 16 0
 octs:k = 9 ∨ k = 11 → s = [] ∧ l = []
 part:k = 10 → (x3 ≥ 0 → b = true) ∧ (x3 < 0 → U sub (.mk n s b l u))
 num:k ≠ 7 → k ≠ 8 → k ≠ 9 → k ≠ 10 → k ≠ 11 → n = qbx k x5
def UsF (U:List Fld → Tree → Prop):Fld → Tree → Prop
 | .mk k x1 x2 x3 x4 x5 x6 sub,.mk n s b l u=>UsQ U k x1 x2 x3 x4 x5 x6 sub n s b l u
def UsP (U:List Fld → Tree → Prop) (l:List Fld) (g:Tree):Prop:=g.U = [] ∧ ∀ (i:Nat) (f:Fld),l[i]? = some f → UsF U f (g.at_ i)
def qjO:Nat → List Fld → Tree → Prop
 | 0=>UsP fun _ _=>False
 | d + 1=>UsP (qjO d)
structure ToQ (T:List Fld → Tree → Tree → Prop) (v:Int) (f:Fld) (k x3:Int) (sub:List Fld) (t:Tree) (tn:Int) (ts:Bs) (n:Int) (s:Bs) (b:Bool) (g:Tree):Prop where
 null:k = 8 ∨ k = 10 ∨ (x3 ≥ 0 ∧ v ≥ x3) → b = f.nul v t
 text:f.nul v t = false → k = 8 ∨ k = 9 → s = qaH ts
 uuid:f.nul v t = false → k = 7 → s = qbz ts
 part:f.nul v t = false → k = 10 → T sub t g
 num:f.nul v t = false → k ≠ 7 → k ≠ 8 → k ≠ 9 → k ≠ 10 → k ≠ 11 → n = qbx k tn
def ToF0 (T:List Fld → Tree → Tree → Prop) (v:Int):Fld → Tree → Tree → Prop
 | .mk k x1 x2 x3 x4 x5 x6 sub,.mk tn ts tb tl tu,.mk n s b l u=>ToQ T v (.mk k x1 x2 x3 x4 x5 x6 sub) k x3 sub (.mk tn ts tb tl tu) tn ts n s b (.mk n s b l u)
def ToF (T:List Fld → Tree → Tree → Prop) (v:Int) (f:Fld) (t g:Tree):Prop :=
 ToF0 T v f t g ∧ (f.kind = 11 → f.nul v t = false → g.L.length = (qaq t.L).length ∧ ∀ (i:Nat) (x y:Tree),(qaq t.L)[i]? = some x → g.L[i]? = some y → ToF0 T v f.elem x y)
def Fld.pres (f:Fld) (v:Int) (flex:Bool) (x:Tree):Bool:=(decide (f.tag < 0) && f.has v) || (decide (f.tag ≥ 0) && (flex && !f.usual x))
def ToP (T:List Fld → Tree → Tree → Prop) (U:List Fld → Tree → Prop) (l:List Fld) (v:Int) (flex:Bool) (t g:Tree):Prop :=
 g.L.length = l.length ∧ (∀ (i:Nat) (f:Fld) (y:Tree),l[i]? = some f → g.L[i]? = some y → (f.pres v flex (t.at_ i) = true → ToF T v f (t.at_ i) y) ∧ (f.pres v flex (t.at_ i) = false → UsF U f y)) ∧
  g.U = (if flex = true then qcx (qag l t.U) else [])
def qhL (v:Int) (flex:Bool):Nat → List Fld → Tree → Tree → Prop
 | 0=>fun l t g=>ToP (fun _ _ _=>False) (fun _ _=>False) l v flex t g
 | d + 1=>fun l t g=>ToP (qhL v flex d) (qjO d) l v flex t g
theorem qkL {U:List Fld → Tree → Prop} {f:Fld} {y:Tree} (h:UsF U f y):UsP U [f] (.mk 0 [] false [y] []):=by
 refine ⟨rfl,fun i g hg=>?_⟩
 cases i with
 | zero =>
  simp only [List.getElem?_cons_zero,Option.some.injEq] at hg
  subst hg
  exact h
 | succ i=>simp at hg
theorem qjP {w:World} {e:Nat} {A:Option Addr} {c:Nat} {F:Nat → Nat → Prop} (h:w.ownsRow 0 e 1 (.slice A 16 c) 16 (List.replicate 16 (.int .u8 0))) (hF:∀ g,A.map (·.block) = some g → ∀ o,F g o):Octs w F A c (List.replicate 16 0) :=
 qcA (s:=List.replicate 16 0) h (by decide) hF
section
variable {U:List Fld → Tree → Prop} {k x1 x2 x3 x4 x5 x6 n:Int} {sub:List Fld} {s:Bs} {b:Bool} {l:List Tree} {u:List (Int × Bs)}
abbrev UsH (U:List Fld → Tree → Prop) (k x1 x2 x3 x4 x5 x6:Int) (sub:List Fld) (n:Int) (s:Bs) (b:Bool) (l:List Tree) (u:List (Int × Bs)):Prop:=UsF U (.mk k x1 x2 x3 x4 x5 x6 sub) (.mk n s b l u)
theorem us_q (h:UsH U k x1 x2 x3 x4 x5 x6 sub n s b l u):UsQ U k x1 x2 x3 x4 x5 x6 sub n s b l u:=h
theorem qgD (h:UsH U k x1 x2 x3 x4 x5 x6 sub n s b l u) (hk:k = 8) (hc:(b != decide (x3 ≥ 0)) = true):False:=by
 have:=((us_q h).text hk).1
 rw [this] at hc; simp at hc
theorem qgE (h:UsH U k x1 x2 x3 x4 x5 x6 sub n s b l u) (hk:k = 8) (hc:((s.length:Nat):Int) > 0):False:=by
 have:=((us_q h).text hk).2
 rw [this] at hc; simp at hc
theorem us_7 (h:UsH U k x1 x2 x3 x4 x5 x6 sub n s b l u) (hk:k = 7) (hc:(!decide (s = (List.replicate 16 0:Bs))) = true):False:=by
 have:=(us_q h).uuid hk
 rw [this] at hc; simp at hc
theorem qgF (h:UsH U k x1 x2 x3 x4 x5 x6 sub n s b l u) (hk:k = 9) (hc:((s.length:Nat):Int) > 0):False:=by
 have:=((us_q h).octs (.inl hk)).1
 rw [this] at hc; simp at hc
theorem qgG (h:UsH U k x1 x2 x3 x4 x5 x6 sub n s b l u) (hk:k = 9) (hc:((l.length:Nat):Int) > 0):False:=by
 have:=((us_q h).octs (.inl hk)).2
 rw [this] at hc; simp at hc
theorem qeR (h:UsH U k x1 x2 x3 x4 x5 x6 sub n s b l u) (hk:k = 11) (hc:((s.length:Nat):Int) > 0):False:=by
 have:=((us_q h).octs (.inr hk)).1
 rw [this] at hc; simp at hc
theorem qeS (h:UsH U k x1 x2 x3 x4 x5 x6 sub n s b l u) (hk:k = 11) (hc:((l.length:Nat):Int) > 0):False:=by
 have:=((us_q h).octs (.inr hk)).2
 rw [this] at hc; simp at hc
theorem qgH (h:UsH U k x1 x2 x3 x4 x5 x6 sub n s b l u) (hk:k = 10) (h3:x3 ≥ 0) (hc:(!b) = true):False:=by
 have:=((us_q h).part hk).1 h3
 rw [this] at hc; simp at hc
theorem qkM (h:UsH U k x1 x2 x3 x4 x5 x6 sub n s b l u) (hk:k = 10) (h3:x3 < 0):U sub (.mk n s b l u):=((us_q h).part hk).2 h3
theorem us_n (h:UsH U k x1 x2 x3 x4 x5 x6 sub n s b l u) (h7:k ≠ 7) (h8:k ≠ 8) (h9:k ≠ 9) (h10:k ≠ 10) (h11:k ≠ 11) (hc:n ≠ qbx k x5):False:=hc ((us_q h).num h7 h8 h9 h10 h11)
theorem us_u {g:Tree} (h:g.U = []) {u:List (Int × Bs)} (e:g.U = u) (hc:((u.length:Nat):Int) > 0):False:=by
 rw [← e,h] at hc; simp at hc
end
section
variable {T:List Fld → Tree → Tree → Prop} {v k x1 x2 x3 x4 x5 x6 tn n:Int} {sub:List Fld} {ts s:Bs} {tb b:Bool} {tl l:List Tree} {tu u:List (Int × Bs)}
abbrev ToH (T:List Fld → Tree → Tree → Prop) (v k x1 x2 x3 x4 x5 x6:Int) (sub:List Fld) (tn:Int) (ts:Bs) (tb:Bool) (tl:List Tree) (tu:List (Int × Bs)) (n:Int) (s:Bs) (b:Bool) (l:List Tree) (u:List (Int × Bs)):Prop:=ToF0 T v (.mk k x1 x2 x3 x4 x5 x6 sub) (.mk tn ts tb tl tu) (.mk n s b l u)
abbrev NulH (v k x1 x2 x3 x4 x5 x6:Int) (sub:List Fld) (tn:Int) (ts:Bs) (tb:Bool) (tl:List Tree) (tu:List (Int × Bs)):Bool:=Fld.nul (.mk k x1 x2 x3 x4 x5 x6 sub) v (.mk tn ts tb tl tu)
theorem to_q (h:ToH T v k x1 x2 x3 x4 x5 x6 sub tn ts tb tl tu n s b l u):ToQ T v (.mk k x1 x2 x3 x4 x5 x6 sub) k x3 sub (.mk tn ts tb tl tu) tn ts n s b (.mk n s b l u):=h
theorem qjQ (h:ToH T v k x1 x2 x3 x4 x5 x6 sub tn ts tb tl tu n s b l u) (hk:k = 8) (hc:(b != NulH v k x1 x2 x3 x4 x5 x6 sub tn ts tb tl tu) = true):False:=by
 rw [(to_q h).null (.inl hk)] at hc; simp at hc
theorem qhj (h:ToH T v k x1 x2 x3 x4 x5 x6 sub tn ts tb tl tu n s b l u) (hk:k = 10) (hc:(b != NulH v k x1 x2 x3 x4 x5 x6 sub tn ts tb tl tu) = true):False:=by
 rw [(to_q h).null (.inr (.inl hk))] at hc; simp at hc
theorem qgI (h:ToH T v k x1 x2 x3 x4 x5 x6 sub tn ts tb tl tu n s b l u) (h1:x3 ≥ 0) (h2:v ≥ x3) (hc:(b != NulH v k x1 x2 x3 x4 x5 x6 sub tn ts tb tl tu) = true):False:=by
 rw [(to_q h).null (.inr (.inr ⟨h1,h2⟩))] at hc; simp at hc
theorem qjR (h:ToH T v k x1 x2 x3 x4 x5 x6 sub tn ts tb tl tu n s b l u) (hn:NulH v k x1 x2 x3 x4 x5 x6 sub tn ts tb tl tu = false) (hk:k = 10):T sub (.mk tn ts tb tl tu) (.mk n s b l u):=(to_q h).part hn hk
theorem qeu (h:ToH T v k x1 x2 x3 x4 x5 x6 sub tn ts tb tl tu n s b l u) (hn:NulH v k x1 x2 x3 x4 x5 x6 sub tn ts tb tl tu = false) (hk:k = 8):decide (s = qaH ts) = true:=decide_eq_true ((to_q h).text hn (.inl hk))
theorem qev (h:ToH T v k x1 x2 x3 x4 x5 x6 sub tn ts tb tl tu n s b l u) (hn:NulH v k x1 x2 x3 x4 x5 x6 sub tn ts tb tl tu = false) (hk:k = 9):decide (s = qaH ts) = true:=decide_eq_true ((to_q h).text hn (.inr hk))
theorem to_u (h:ToH T v k x1 x2 x3 x4 x5 x6 sub tn ts tb tl tu n s b l u) (hn:NulH v k x1 x2 x3 x4 x5 x6 sub tn ts tb tl tu = false) (hk:k = 7):decide (s = qbz ts) = true:=decide_eq_true ((to_q h).uuid hn hk)
theorem to_m (h:ToH T v k x1 x2 x3 x4 x5 x6 sub tn ts tb tl tu n s b l u) (hn:NulH v k x1 x2 x3 x4 x5 x6 sub tn ts tb tl tu = false) (h8:k ≠ 8) (h9:k ≠ 9) (h7:k ≠ 7) (h10:k ≠ 10) (h11:k ≠ 11):(n == qbx k tn) = true:=by
 rw [(to_q h).num hn h7 h8 h9 h10 h11]; simp
theorem qh6 {a c:Nat} (h:a = c) (hc:((a:Nat):Int) ≠ ((c:Nat):Int)):False:=hc (by rw [h])
end
theorem qcX {P:Program} {ops:Array Oper} {Q:Exit → Act → World → Prop} {a:Act} {w:World} {T:World → Prop} {c i j fuel:Nat} {listed:Array Bool} (hr:Region.ready .any ops listed = [i,j]) (h:wpOp P ops Q i (fun a' w'=>(i ≠ c → T w') ∧ qb3 P ops Q T c fuel (listed.setIfInBounds i true) a' w') a w)
  (h':wpOp P ops Q j (fun a' w'=>(j ≠ c → T w') ∧ qb3 P ops Q T c fuel (listed.setIfInBounds j true) a' w') a w):qb3 P ops Q T c (fuel + 1) listed a w:=by
 refine ⟨fun h0=>(by rw [hr] at h0; cases h0),fun q hq=>?_⟩
 rw [hr] at hq
 simp only [List.mem_cons,List.not_mem_nil,or_false] at hq
 rcases hq with rfl | rfl
 ·exact h
 exact h'
theorem qlP {k x1 x2 x3 x4 x5 x6 v:Int} {sub:List Fld} {flex:Bool} {x:Tree} (h:x4 < 0) (h2:Fld.has (.mk k x1 x2 x3 x4 x5 x6 sub) v = true):Fld.pres (.mk k x1 x2 x3 x4 x5 x6 sub) v flex x = true:=by
 simp [Fld.pres,Fld.tag,h,h2]
theorem qlQ {k x1 x2 x3 x4 x5 x6 v:Int} {sub:List Fld} {flex:Bool} {x:Tree} (h:x4 ≥ 0) (h2:flex = true) (h3:(!Fld.usual (.mk k x1 x2 x3 x4 x5 x6 sub) x) = true):Fld.pres (.mk k x1 x2 x3 x4 x5 x6 sub) v flex x = true:=by
 subst h2
 simp only [Bool.not_eq_true'] at h3
 simp [Fld.pres,Fld.tag,h,h3]
theorem qh7 {k x1 x2 x3 x4 x5 x6 v:Int} {sub:List Fld} {flex:Bool} {x:Tree} (h:x4 < 0) (h2:Fld.has (.mk k x1 x2 x3 x4 x5 x6 sub) v = false):Fld.pres (.mk k x1 x2 x3 x4 x5 x6 sub) v flex x = false:=by
 have:¬ x4 ≥ 0:=by omega
 simp [Fld.pres,Fld.tag,h2,this]
theorem qh8 {k x1 x2 x3 x4 x5 x6 v:Int} {sub:List Fld} {flex:Bool} {x:Tree} (h:¬ x4 < 0) (h2:flex = false):Fld.pres (.mk k x1 x2 x3 x4 x5 x6 sub) v flex x = false:=by
 subst h2
 simp [Fld.pres,Fld.tag,h]
theorem qh9 {k x1 x2 x3 x4 x5 x6 v:Int} {sub:List Fld} {flex:Bool} {x:Tree} (h:¬ x4 < 0) (h3:(!Fld.usual (.mk k x1 x2 x3 x4 x5 x6 sub) x) = false):Fld.pres (.mk k x1 x2 x3 x4 x5 x6 sub) v flex x = false:=by
 simp only [Bool.not_eq_false'] at h3
 simp [Fld.pres,Fld.tag,h,h3]
theorem qkN {k x1 x2 x3 x4 x5 x6 v:Int} {sub:List Fld} {flex:Bool} {x:Tree} (h:¬ x4 < 0) (h2:flex = true):Fld.pres (.mk k x1 x2 x3 x4 x5 x6 sub) v flex x = !Fld.usual (.mk k x1 x2 x3 x4 x5 x6 sub) x:=by
 subst h2
 have:x4 ≥ 0:=by omega
 simp [Fld.pres,Fld.tag,h,this]
theorem qkO {k x1 x2 x3 x4 x5 x6 v:Int} {sub:List Fld} {flex:Bool} {x:Tree} (h:x4 < 0):Fld.pres (.mk k x1 x2 x3 x4 x5 x6 sub) v flex x = Fld.has (.mk k x1 x2 x3 x4 x5 x6 sub) v:=by
 have:¬ x4 ≥ 0:=by omega
 simp [Fld.pres,Fld.tag,h,this]
section
variable {w:World} {F:Nat → Nat → Prop}
theorem qkP {e size b c:Nat} {xs:List Value} {n:Nat} (h:w.ownsRow 0 e size (.slice (some ⟨b,0,none⟩) n c) n xs):AtF w (fun _ _=>True) b 0 xs:=fun j v hj=>⟨trivial,by
 have:=h.cells (g:=b) rfl j v hj
 rw [qbV] at this
 exact this⟩
theorem qia {e b c:Nat} {cf:List Value} {f:Fld} (h:w.ownsRow 0 e 8 (.slice (some ⟨b,0,none⟩) 1 c) 1 cf) (hf:FldR w F cf f) (hc:1 ≤ c):FldsR w (fun _ _=>True) (some ⟨b,0,none⟩) c [f]:=by
 refine ⟨fun _=>cf,⟨hc,(by show 1 ≤ 1099511627776; decide),fun h=>(by cases h),fun ad hA _=>?_⟩,fun i x hx=>?_⟩
 ·obtain rfl:=Option.some.inj hA
  refine ⟨b,0,rfl,fun i hi=>⟨hf.eight,?_⟩⟩
  have:i = 0:=by simp at hi; omega
  subst this
  simpa using qkP h
 cases i with
 | zero =>
  simp only [List.getElem?_cons_zero,Option.some.injEq] at hx
  subst hx
  exact hf.move (Step.refl _ Nil) nilM fun _ _ _ _=>trivial
 | succ i=>simp at hx
theorem qib {e b c:Nat} {cy:List Value} {y:Tree} (h:w.ownsRow 0 e 5 (.slice (some ⟨b,0,none⟩) 1 c) 1 cy) (hy:TreeR w F cy y) (hc:1 ≤ c):TreeR w (fun _ _=>True) [.int .i64 0,.slice none 0 0,.bool false,.slice (some ⟨b,0,none⟩) 1 c,.slice none 0 0] (.mk 0 [] false [y] []):=by
 refine TreeR.mk (l:=[y]) (s:=[]) (u:=[]) (fun _=>cy) (Octs.nil _ _) ⟨hc,(by show 1 ≤ 1099511627776; decide),fun h=>(by cases h),fun ad hA _=>?_⟩ (fun i x hx=>?_) (TagsR.nil _ _)
 ·obtain rfl:=Option.some.inj hA
  refine ⟨b,0,rfl,fun i hi=>⟨hy.five,?_⟩⟩
  have:i = 0:=by simp at hi; omega
  subst this
  simpa using qkP h
 cases i with
 | zero =>
  simp only [List.getElem?_cons_zero,Option.some.injEq] at hx
  subst hx
  exact hy.move (Step.refl _ Nil) nilM fun _ _ _ _=>trivial
 | succ i=>simp at hx
end
section
variable {gu tu:List (Int × Bs)} {l:List Fld} {flex:Bool} {i:Nat} {k k':Int} {s s':Bs}
theorem qeT (h:gu = if flex = true then qcx (qag l tu) else []) (hf:(!flex) = false) (hc:((gu.length:Nat):Int) ≠ (((qag l tu).length:Nat):Int)):False:=by
 cases flex
 ·cases hf
 rw [if_pos rfl] at h
 rw [h,qcL] at hc
 exact hc rfl
theorem qdR (h:gu = if flex = true then qcx (qag l tu) else []) (hf:(!flex) = true) (hc:((gu.length:Nat):Int) ≠ 0):False:=by
 cases flex
 ·rw [if_neg (by decide)] at h
  rw [h] at hc
  exact hc rfl
 cases hf
theorem qjS (h:gu = if flex = true then qcx (qag l tu) else []) (hf:(!flex) = false) (hu:(qag l tu)[i]? = some (k,s)) (hg:gu[i]? = some (k',s')):k' = k ∧ s' = qaH s:=by
 cases flex
 ·cases hf
 rw [if_pos rfl] at h
 rw [h,qiw hu] at hg
 have:=Option.some.inj hg
 exact ⟨(Prod.mk.injEq .. ▸ this).1.symm,(Prod.mk.injEq .. ▸ this).2.symm⟩
theorem qeU (h:gu = if flex = true then qcx (qag l tu) else []) (hf:(!flex) = false) (hu:(qag l tu)[i]? = some (k,s)) (hg:gu[i]? = some (k',s')) (hc:k' ≠ k):False:=hc (qjS h hf hu hg).1
theorem qeV (h:gu = if flex = true then qcx (qag l tu) else []) (hf:(!flex) = false) (hu:(qag l tu)[i]? = some (k,s)) (hg:gu[i]? = some (k',s')) (hc:(!decide (s' = qaH s)) = true):False:=by
 rw [(qjS h hf hu hg).2] at hc; simp at hc
theorem qcG (h:gu = if flex = true then qcx (qag l tu) else []) (hf:(!flex) = false):gu.length = (qag l tu).length:=by
 cases flex
 ·cases hf
 rw [if_pos rfl] at h
 rw [h,qcL]
end
def qa3 (D:DV):Tree:=.mk 0 [] false [.mk 0 (sb (D.f 0).s) false [] [],.mk 0 [] (D.f 1).A.isNone ((List.range (D.f 1).l).map fun i=>.mk (IntKind.i64.wrap ((D.f 1).f i).n) [] false [] []) []] D.u
def qaK (D:DV):Tree:=.mk 0 [] false [.mk 0 (sb (D.f 0).s) false [] [],.mk 0 [] (D.f 1).A.isNone ((List.range (D.f 1).l).map fun i=>.mk (IntKind.i64.wrap ((D.f 1).f i).n) [] false [] []) []] D.u
def qaT (D:DV):Tree:=.mk 0 [] false [.mk 0 (sb (D.f 0).s) false [] [],.mk ((D.f 1).n) [] false [] [],.mk (IntKind.i64.wrap (D.f 2).n) [] false [] [],qko (D.f 3).b,.mk 0 [] (D.f 4).A.isNone ((List.range (D.f 4).l).map fun i=>qaK ((D.f 4).f i)) []] D.u
def qbe (D:DV):Tree:=.mk 0 [] false [.mk 0 (sb (D.f 0).s) false [] [],.mk ((D.f 1).n) [] false [] [],.mk (IntKind.i64.wrap (D.f 2).n) [] false [] [],.mk 0 [] (D.f 3).A.isNone ((List.range (D.f 3).l).map fun i=>qa3 ((D.f 3).f i)) [],.mk 0 [] (D.f 4).A.isNone ((List.range (D.f 4).l).map fun i=>qaT ((D.f 4).f i)) []] D.u
abbrev z12 (x0:DV) (x1):=([.int .i64 (IntKind.i64.wrap (((x0.f 1).f x1).n)),.slice none 0 0,.bool false,.slice none 0 0,.slice none 0 0]:List Value)
abbrev z9 (x0) (x1:DV) (x2) (x3) (x4) (x5):=([.int .i64 0,.slice (some ⟨x0,0,none⟩) ((sb ((x1.f 0).s)).length) x2,.bool false,.slice none 0 0,.slice none 0 0,.int .i64 0,.slice none 0 0,.bool (((x1.f 1).A).isNone),.slice x3 (x4 + 1) x5,.slice none 0 0]:List Value)
abbrev z10 (x0) (x1) (x2:DV) (x3) (x4) (x5) (x6) (x7) (x8) (x9) (x10):=([⟨x0,x1,[.string ((x2.f 0).s),.slice ((x2.f 1).A) ((x2.f 1).l) ((x2.f 1).c),.map x2.m],false⟩,⟨x3,0,z0,true⟩,⟨x4,0,[.int .i64 0,.slice (some ⟨x5,0,none⟩) ((sb ((x2.f 0).s)).length) x6,.bool false,.slice none 0 0,.slice none 0 0,.int .i64 0,.slice none 0 0,.bool (((x2.f 1).A).isNone),.slice x7 (x8 + 1) x9,.slice none 0 0],true⟩,⟨x10,0,[.int .i64 0,.slice none 0 0,.bool false,.slice (some ⟨x4,0,none⟩) 2 2,.slice none 0 0],true⟩]:Tb)
abbrev z27 (x0:DV):=([.string ((x0.f 0).s),.slice ((x0.f 1).A) ((x0.f 1).l) ((x0.f 1).c),.map x0.m]:List Value)
abbrev z26 (x0) (x1:DV) (x2) (x3) (x4) (x5):=([.int .i64 0,.slice (some ⟨x0,0,none⟩) ((sb ((x1.f 0).s)).length) x2,.bool false,.slice none 0 0,.slice none 0 0,.int .i64 0,.slice none 0 0,.bool (((x1.f 1).A).isNone),.slice x3 x4 x5,.slice none 0 0]:List Value)
abbrev z43 (x0):=([.int .i64 0,.slice none 0 0,.bool false,.slice (some ⟨x0,0,none⟩) 2 2,.slice none 0 0]:List Value)
abbrev z44 (x0:DV) (x1) (x2):=([(0,.p 0 0),(2,.p 1 0),(3,.p 3 0),(29,.v (.int .i64 (((x0.f 1).l:Nat):Int))),(30,.v (.int .i64 ((x1:Nat):Int))),(56,.v (.slice (some ⟨x2,0,none⟩) 2 2)),(58,.v (.slice (some ⟨x2,0,none⟩) 2 2)),(65,.v (.slice ((x0.f 1).A) ((x0.f 1).l) ((x0.f 1).c))),(66,.v (.int .i64 ((x1:Nat):Int)))]:Env)
abbrev z41 (x0:DV) (x1) (x2):=([(0,.p 0 0),(2,.p 1 0),(3,.p 3 0),(29,.v (.int .i64 (((x0.f 1).l:Nat):Int))),(30,.v (.int .i64 ((x1:Nat):Int))),(56,.v (.slice (some ⟨x2,0,none⟩) 2 2)),(58,.v (.slice (some ⟨x2,0,none⟩) 2 2)),(65,.v (.slice ((x0.f 1).A) ((x0.f 1).l) ((x0.f 1).c))),(66,.v (.int .i64 ((x1:Nat):Int))),(59,.p 2 5)]:Env)
abbrev z47 (x0:DV) (x1) (x2) (x3) (x4):=([(0,.p 0 0),(2,.p 1 0),(3,.p 3 0),(29,.v (.int .i64 (((x0.f 1).l:Nat):Int))),(30,.v (.int .i64 ((x1:Nat):Int))),(36,.v (.slice (some ⟨x2,0,none⟩) 2 2)),(39,.v (.slice x3 x1 x4)),(43,.v (.slice ((x0.f 1).A) ((x0.f 1).l) ((x0.f 1).c))),(44,.v (.int .i64 ((x1:Nat):Int))),(49,.v (.int .i64 ((x1:Nat):Int)))]:Env)
abbrev z55 (x0:DV) (x1) (x2):=([(0,.p 0 0),(2,.p 1 0),(3,.p 3 0),(29,.v (.int .i64 (((x0.f 1).l:Nat):Int))),(30,.v (.int .i64 ((x1:Nat):Int))),(36,.v (.slice (some ⟨x2,0,none⟩) 2 2)),(43,.v (.slice ((x0.f 1).A) ((x0.f 1).l) ((x0.f 1).c))),(44,.v (.int .i64 ((x1:Nat):Int))),(37,.p 2 5)]:Env)
abbrev z51 (x0) (x1) (x2:DV) (x3):=([.int .i64 0,.slice none 0 0,.bool false,.slice (some ⟨x0,0,none⟩) 2 2,.slice x1 x2.u.length x3]:List Value)
abbrev z63 (x0) (x1) (x2:DV) (x3):=([(0,.p 0 0),(2,.p 1 0),(3,.p 3 0),(8,.v (.slice (some ⟨x0,0,none⟩) 2 2)),(14,.v (.agg #[.int .i64 0,.slice (some ⟨x1,0,none⟩) ((sb ((x2.f 0).s)).length) x3,.bool false,.slice none 0 0,.slice none 0 0])),(15,.p 2 0)]:Env)
abbrev z56 (x0:DV) (x1) (x2) (x3) (x4):=([(0,.p 0 0),(2,.p 1 0),(3,.p 3 0),(29,.v (.int .i64 (((x0.f 1).l:Nat):Int))),(30,.v (.int .i64 ((x1:Nat):Int))),(56,.v (.slice (some ⟨x2,0,none⟩) 2 2)),(61,.v (.slice x3 x1 x4)),(65,.v (.slice ((x0.f 1).A) ((x0.f 1).l) ((x0.f 1).c))),(66,.v (.int .i64 ((x1:Nat):Int)))]:Env)
abbrev z58 (x0:DV) (x1) (x2):=([(0,.p 0 0),(2,.p 1 0),(3,.p 3 0),(29,.v (.int .i64 (((x0.f 1).l:Nat):Int))),(30,.v (.int .i64 ((x1:Nat):Int))),(36,.v (.slice (some ⟨x2,0,none⟩) 2 2)),(43,.v (.slice ((x0.f 1).A) ((x0.f 1).l) ((x0.f 1).c))),(44,.v (.int .i64 ((x1:Nat):Int)))]:Env)
abbrev z66 (x0) (x1) (x2:DV) (x3):=([(0,.p 0 0),(2,.p 1 0),(3,.p 3 0),(8,.v (.slice (some ⟨x0,0,none⟩) 2 2)),(14,.v (.agg #[.int .i64 0,.slice (some ⟨x1,0,none⟩) ((sb ((x2.f 0).s)).length) x3,.bool false,.slice none 0 0,.slice none 0 0]))]:Env)
abbrev z68 (x0) (x1:DV) (x2):=([.int .i64 0,.slice (some ⟨x0,0,none⟩) ((sb ((x1.f 0).s)).length) x2,.bool false,.slice none 0 0,.slice none 0 0,.int .i64 0,.slice none 0 0,.bool false,.slice none 0 0,.slice none 0 0]:List Value)
abbrev z64 (x0) (x1:DV) (x2):=([.int .i64 0,.slice (some ⟨x0,0,none⟩) ((sb ((x1.f 0).s)).length) x2,.bool false,.slice none 0 0,.slice none 0 0,.int .i64 0,.slice none 0 0,.bool (((x1.f 1).A).isNone),.slice none 0 0,.slice none 0 0]:List Value)
abbrev z72 :=([.int .i64 0,.slice none 0 0,.bool false,.slice none 0 0,.slice none 0 0,.int .i64 0,.slice none 0 0,.bool false,.slice none 0 0,.slice none 0 0]:List Value)
abbrev z78 (x0) (x1:DV):=([(0,.p 0 0),(2,.p 1 0),(3,.p 3 0),(4,.v (.int .i64 ((x0:Nat):Int))),(29,.v (.int .i64 (((x1.f 1).l:Nat):Int))),(30,.v (.int .i64 ((x0:Nat):Int)))]:Env)
abbrev z73 (x0) (x1:DV):=([(0,.p 0 0),(2,.p 1 0),(3,.p 3 0),(4,.v (.int .i64 ((x0:Nat):Int))),(29,.v (.int .i64 (((x1.f 1).l:Nat):Int))),(30,.v (.int .i64 ((x0:Nat):Int))),(34,.v (.bool false))]:Env)
abbrev z74 (x0) (x1:DV):=([(0,.p 0 0),(2,.p 1 0),(3,.p 3 0),(4,.v (.int .i64 ((x0:Nat):Int))),(29,.v (.int .i64 (((x1.f 1).l:Nat):Int))),(30,.v (.int .i64 ((x0:Nat):Int))),(34,.v (.bool true))]:Env)
abbrev z80 (x0):=([(0,.p 0 0),(2,.p 1 0),(6,.v (.agg #[.int .i64 0,.slice none 0 0,.bool false,.slice (some ⟨x0,0,none⟩) 2 2,.slice none 0 0]))]:Env)
abbrev z95 (x0) (x1:DV):=([(0,.p 0 0),(2,.p 1 0),(3,.p 3 0),(17,.v (.slice (some ⟨x0,0,none⟩) 2 2)),(22,.v (.bool (((x1.f 1).A).isNone)))]:Env)
abbrev z89 (x0) (x1:DV):=([(0,.p 0 0),(2,.p 1 0),(3,.p 3 0),(17,.v (.slice (some ⟨x0,0,none⟩) 2 2)),(22,.v (.bool (((x1.f 1).A).isNone))),(23,.p 2 5)]:Env)
abbrev z101 (x0) (x1:DV):=([(0,.p 0 0),(2,.p 1 0),(3,.p 3 0),(8,.v (.slice (some ⟨x0,0,none⟩) 2 2)),(12,.v (.string ((x1.f 0).s)))]:Env)
abbrev z100 (x0:DV):=([(0,.p 0 0),(2,.p 1 0),(3,.p 3 0),(29,.v (.int .i64 (((x0.f 1).l:Nat):Int))),(30,.v (.int .i64 0))]:Env)
abbrev z102 (x0) (x1) (x2:DV) (x3):=([(2,.p 1 0),(84,.v (.agg #[.int .i64 0,.slice none 0 0,.bool false,.slice (some ⟨x0,0,none⟩) 2 2,.slice x1 x2.u.length x3]))]:Env)
abbrev z105 (x0:DV):=([(0,.p 0 0),(2,.p 1 0),(3,.p 3 0),(22,.v (.bool (((x0.f 1).A).isNone))),(24,.p 2 7)]:Env)
set_option maxHeartbeats 4000000 in
theorem qbF (v:Int) (D:DV) (b o:Nat) (w:World) (F:Nat → Nat → Prop) (hat:AtF w F b o [.string ((D.f 0).s),.slice ((D.f 1).A) ((D.f 1).l) ((D.f 1).c),.map D.m]) (hok:qaW w F D):Calls Tryz.prog 57 #[.pointer (some ⟨b,o,none⟩)] w (qdK w F (qa3 D)):=by
 refine enter (n:=85) Tryz.func57 rfl Tryz.ntmps57 kz fun a hE=>?_
 have hW:WOk w Nil w [⟨b,o,(z27 D),false⟩] []:=(WOk.start w Nil).start1 hat rfl rfl
 unfold qaW at hok
 obtain ⟨g1,⟨g2,g2l,g2e⟩,g3,g3l,g3x,_⟩:=hok
 have hE0:=(EnvOk.ptr0 (cs:=(z27 D)) (r:=false) hE).pk (env':=[(0,.p 0 0)])
 refine qaf [0] kz ?_
 refine qal (qaQ hW hE0 (d:=2) (cs:=z0) kz fun b4 a5 w6 hb7 hz8 hF9 dJ dK=>?_)
 refine qae (qab ?_)
 refine qaf [0,1,2,3] kz ?_
 refine qal (qeb (t:=34) (e:=37) (size:=5) (bytes:=88) (d:=5) (j:=2) (.agg #[.int .i64 0,.slice none 0 0,.bool false,.slice none 0 0,.slice none 0 0]) z72 dJ dK fun aa fV fW eH eI eJ bK dL=>?_)
 refine qai [1] [2,3] (z80 aa) bK dL fun fX dM=>?_
 refine qal (qaQ bK dM (d:=3) (cs:=z0) kz fun aA fY fZ eK eL eM dN dO=>?_)
 refine qal (qao dN dO (oi:=3) (cs:=(z43 aa)) kz fun f5 eN dP dQ=>?_)
 refine qae (qab ?_)
 refine qaE 9 kz dP fun f7 eO dR dS=>?_
 refine qaB [0,1,2,3,4,5] (z101 aa D) 4 (qaa qad) (fun _ h=>h.cells) dS dQ fun f8 dT=>?_
 refine qam (i:=6) kz (qec (d:=13) (src:=9) (dst:=22) (e:=5) (s:=((D.f 0).s)) dR dT (by omega) fun au av f9 ga dU bL dV dW=>?_)
 have dX:=dV F
 have bB:=TT.ofW dU bL
 refine ⟨fun _=>bB,?_⟩
 refine qaB [7] (z66 aa au D av) 2 (qaa qad) (fun _ h=>h.cells) bB dW fun gb dY=>?_
 refine qaD dY (i:=8) (t:=34) (A:=(some ⟨aa,0,none⟩)) (m:=2) (q:=0) (d:=15) kz (e:=37) (size:=5) (bytes:=88) (j:=0) kz (b:=aa) (o:=0) rfl rfl (by decide) kz kz (qaa qad) bB fun gc dZ=>?_
 have d5:=dZ.recast 15 (.v (.pointer (some ⟨aa,0 + 0 * 5,none⟩))) (.p 2 0) rfl rfl (zN (n:=3) rfl)
 have d6:=d5.pk (env':=(z63 aa au D av))
 refine qam (i:=9) kz (qao bL d6 (oi:=2) (cs:=(z68 au D av)) kz fun gd bM d7 d8=>?_)
 refine ⟨fun h=>absurd rfl h,?_⟩
 refine qaz kz ?_ _
 refine qab (qaE 9 kz d7 fun ge bN d9 bC=>?_)
 refine qaB [0,1,2,3,4,5,6] (z95 aa D) 3 (qaa qad) (fun _ h=>h.cells) bC d8 fun gg ea=>?_
 refine qam (i:=7) kz (qax ea (t:=34) (A:=(some ⟨aa,0,none⟩)) (m:=2) (q:=1) (d:=23) kz (e:=37) (size:=5) (bytes:=88) (j:=1) kz (b:=aa) (o:=0) rfl rfl (by decide) fun gh eb=>?_)
 have ec:=eb.recast 23 (.v (.pointer (some ⟨aa,0 + 1 * 5,none⟩))) (.p 2 5) rfl rfl (zN (n:=3) rfl)
 have ee:=ec.pk (env':=(z89 aa D))
 refine ⟨fun _=>bC,?_⟩
 refine qaB [8] (z105 D) 1 (qaa qad) (fun _ h=>h.cells) bC ee fun gi ef=>?_
 refine qam (i:=9) kz (qao d9 ef (oi:=2) (cs:=(z64 au D av)) kz fun gj bO bD eg=>?_)
 refine ⟨fun h=>absurd rfl h,?_⟩
 refine qaz kz ?_ _
 refine qab (wp_seq (qas (z100 D) bD eg fun gk eh=>?_))
 refine wp_block ?_
 have bP:=bD.addNil 37 5
 have bQ:=bD.frNil 37 5
 refine wp_loop_ghost (fun n_ a_ w_=>∃ (k1_:Nat) (A1_:Option Addr) (c1_:Nat) (xs1_:List Value) (css1_:List (List Value)),n_ = (D.f 1).l - k1_ ∧ k1_ ≤ (D.f 1).l ∧ (Trees w_ (Imm F w w_ [⟨b,o,[.string ((D.f 0).s),.slice ((D.f 1).A) ((D.f 1).l) ((D.f 1).c),.map D.m],false⟩,⟨b4,0,[.int .i64 0,.slice none 0 0,.bool false,.slice none 0 0,.slice none 0 0],true⟩,⟨aa,0,[.int .i64 0,.slice (some ⟨au,0,none⟩) ((sb ((D.f 0).s)).length) av,.bool false,.slice none 0 0,.slice none 0 0,.int .i64 0,.slice none 0 0,.bool (((D.f 1).A).isNone),.slice A1_ k1_ c1_,.slice none 0 0],true⟩,⟨aA,0,[.int .i64 0,.slice none 0 0,.bool false,.slice (some ⟨aa,0,none⟩) 2 2,.slice none 0 0],true⟩] [⟨A1_,c1_,37,5,k1_,xs1_⟩]) xs1_ (((List.range (D.f 1).l).map (fun i=>Tree.mk (IntKind.i64.wrap ((D.f 1).f i).n) [] false [] [])).take k1_) css1_) ∧ LInv bP 85 [⟨b,o,[.string ((D.f 0).s),.slice ((D.f 1).A) ((D.f 1).l) ((D.f 1).c),.map D.m],false⟩,⟨b4,0,[.int .i64 0,.slice none 0 0,.bool false,.slice none 0 0,.slice none 0 0],true⟩,⟨aa,0,[.int .i64 0,.slice (some ⟨au,0,none⟩) ((sb ((D.f 0).s)).length) av,.bool false,.slice none 0 0,.slice none 0 0,.int .i64 0,.slice none 0 0,.bool (((D.f 1).A).isNone),.slice A1_ k1_ c1_,.slice none 0 0],true⟩,⟨aA,0,[.int .i64 0,.slice none 0 0,.bool false,.slice (some ⟨aa,0,none⟩) 2 2,.slice none 0 0],true⟩] [⟨A1_,c1_,37,5,k1_,xs1_⟩] [(0,.p 0 0),(2,.p 1 0),(3,.p 3 0),(29,.v (.int .i64 (((D.f 1).l:Nat):Int))),(30,.v (.int .i64 ((k1_:Nat):Int)))] a_ w_) ((D.f 1).l) ⟨0,none,0,[],[],by omega,by omega,Trees.nil _ _,eh.pk,bP,Fr.refl _ _ _⟩ ?_
 rintro gl gm eP ⟨k1_,A1_,c1_,xs1_,css1_,eQ,eR,hT1_,ei,ah,aY⟩
 refine qas [(0,.p 0 0),(2,.p 1 0),(3,.p 3 0),(29,.v (.int .i64 (((D.f 1).l:Nat):Int))),(30,.v (.int .i64 ((k1_:Nat):Int))),(31,.v (.bool (decide (((k1_:Nat):Int) < (((D.f 1).l:Nat):Int)))))] ah ei fun gn bE=>?_
 refine wp_seq (qaw bE (b:=decide (((k1_:Nat):Int) < (((D.f 1).l:Nat):Int))) kz (fun bF=>?_) (fun bF=>?_))
 ·
  have eS:=zD bF
  refine wp_skip (qab (wp_seq (wp_block (qas (z78 k1_ D) ah bE fun gp ej=>?_))))
  refine qaE 4 kz ah fun gq aG ek eU=>?_
  refine qam (i:=0) kz (qaQ ek ej (d:=33) (cs:=[.bool false]) kz fun gt eV eW ew ey ab aJ aZ=>?_)
  have bR:=TT.ofW ab aJ
  refine ⟨fun _=>bR,?_⟩
  refine qcX (i:=1) (j:=2) kz ?_ ?_
  ·
   refine (qao aJ aZ (oi:=4) (cs:=[.bool true]) kz fun eX ai ba bS=>?_)
   have bT:=TT.ofW (ab.trans ai) ba
   refine ⟨fun _=>bT,?_⟩
   refine qam (i:=2) kz (qao ba bS (oi:=4) (cs:=[.bool false]) kz fun eY aw aB bU=>?_)
   have bV:=TT.ofW ((ab.trans ai).trans aw) aB
   refine ⟨fun _=>bV,?_⟩
   refine qam (i:=3) kz (qbf [0,2,3,4,29,30,34] aB.cells bU (env':=(z73 k1_ D)) kz fun eZ bd=>?_)
   have bW:=TT.ofW ((ab.trans ai).trans aw) aB
   refine ⟨fun _=>bW,?_⟩
   refine qaz kz ?_ _
   refine qab (qan bd (b:=false) kz rfl ?_)
   refine qcu 20 kz aB fun e9 aK bf aj=>?_
   refine qaB [0,1,2,3,7,8,9,10,11] (z44 D k1_ aa) 12 (qac (qaa (qaa (qac (qaa qad))))) (fun _ h=>h.cells) aj bd fun fa bX=>?_
   refine qaD bX (i:=4) (t:=34) (A:=(some ⟨aa,0,none⟩)) (m:=2) (q:=1) (d:=59) kz (e:=37) (size:=5) (bytes:=88) (j:=1) kz (b:=aa) (o:=0) rfl rfl (by decide) kz kz (qac (qaa (qaa (qac (qaa qad))))) aj fun fb bY=>?_
   have bZ:=bY.recast 59 (.v (.pointer (some ⟨aa,0 + 1 * 5,none⟩))) (.p 2 5) rfl rfl (zN (n:=3) rfl)
   have b8:=bZ.pk (env':=(z41 D k1_ aa))
   refine qaB [5,6] (z56 D k1_ aa A1_ c1_) 9 (qac (qaa (qaa (qac (qaa qad))))) (fun _ h=>h.cells) aj b8 fun fe cd=>?_
   obtain ⟨em,eo,ce,ez,bG⟩:=Slots.get g2 (i:=k1_) (by omega)
   refine qaD cd (i:=12) (t:=87) (A:=(D.f 1).A) (m:=((D.f 1).l)) (q:=((k1_:Nat):Int)) (d:=67) kz (e:=21) (size:=1) (bytes:=4) kz ce rfl (by omega) kz kz (qac (qaa (qaa (qac (qaa qad))))) aj fun ff cm=>?_
   refine qa0 cm (i:=13) (t:=21) (b:=em) (o:=eo + k1_ * 1) (d:=68) kz (cs:=[.int .i32 (((D.f 1).f k1_).n)]) (v:=.int .i32 (((D.f 1).f k1_).n)) kz (fun w' h'=>(AtF.move bG (TT.step0 bf h') nilM qa9).at_) kz kz (qac (qaa (qaa (qac (qaa qad))))) aj fun fg cq=>?_
   refine qaB [14,15] [(0,.p 0 0),(2,.p 1 0),(3,.p 3 0),(29,.v (.int .i64 (((D.f 1).l:Nat):Int))),(30,.v (.int .i64 ((k1_:Nat):Int))),(56,.v (.slice (some ⟨aa,0,none⟩) 2 2)),(61,.v (.slice A1_ k1_ c1_)),(70,.v (.agg #[.int .i64 (IntKind.i64.wrap (((D.f 1).f k1_).n)),.slice none 0 0,.bool false,.slice none 0 0,.slice none 0 0]))] 5 (qac (qaa (qaa (qac (qaa qad))))) (fun _ h=>h.cells) aj cq fun fh cr=>?_
   refine qam (i:=16) kz (qbu bf cr (e:=37) (size:=5) (len:=1) (cs:=(z12 D k1_)) (d:=71) kz kz fun cu fi fj eB eC ak aC cw=>?_)
   have cz:=TT.ofW ak aC
   refine ⟨fun _=>cz,?_⟩
   refine qam (i:=17) kz (qaR aC cw (k:=0) (d:=72) (t:=34) (e:=37) (size:=5) (bytes:=88) (A:=A1_) (As:=(some ⟨cu,0,none⟩)) (m0:=k1_) (c:=c1_) (m:=1) (cs:=1) (xs:=xs1_) (news:=(z12 D k1_)) kz kz rfl (qby (aC.own 1 _ rfl) (qbw kz)) (qbE (aC.own 1 _ rfl)) (by omega) fun aH aI fk fm ax aL cA=>?_)
   have cB:=TT.ofW (ak.trans ax) aL
   refine ⟨fun _=>cB,?_⟩
   refine qam (i:=18) kz (qax cA (t:=34) (A:=(some ⟨aa,0,none⟩)) (m:=2) (q:=1) (d:=73) kz (e:=37) (size:=5) (bytes:=88) (j:=1) kz (b:=aa) (o:=0) rfl rfl (by decide) fun fo cC=>?_)
   have cD:=cC.recast 73 (.v (.pointer (some ⟨aa,0 + 1 * 5,none⟩))) (.p 2 5) rfl rfl (zN (n:=3) rfl)
   have cE:=cD.pk (env':=[(0,.p 0 0),(2,.p 1 0),(3,.p 3 0),(29,.v (.int .i64 (((D.f 1).l:Nat):Int))),(30,.v (.int .i64 ((k1_:Nat):Int))),(56,.v (.slice (some ⟨aa,0,none⟩) 2 2)),(61,.v (.slice A1_ k1_ c1_)),(70,.v (.agg #[.int .i64 (IntKind.i64.wrap (((D.f 1).f k1_).n)),.slice none 0 0,.bool false,.slice none 0 0,.slice none 0 0])),(71,.v (.slice (some ⟨cu,0,none⟩) 1 1)),(72,.v (.slice aH (k1_ + 1) aI)),(73,.p 2 5)])
   have bg:=TT.ofW (ak.trans ax) aL
   refine ⟨fun _=>bg,?_⟩
   refine qaB [19] [(0,.p 0 0),(2,.p 1 0),(3,.p 3 0),(29,.v (.int .i64 (((D.f 1).l:Nat):Int))),(30,.v (.int .i64 ((k1_:Nat):Int))),(72,.v (.slice aH (k1_ + 1) aI)),(74,.p 2 8)] 1 (qac (qaa (qaa (qac (qaa qad))))) (fun _ h=>h.cells) bg cE fun fq cG=>?_
   refine qam (i:=20) kz (qao aL cG (oi:=2) (cs:=(z9 au D av aH k1_ aI)) kz fun fr aM bh cH=>?_)
   refine ⟨fun h=>absurd rfl h,?_⟩
   refine qaz kz ?_ _
   refine qar (qab (qap [0,1] kz ?_))
   refine qai [0,1] [] [(0,.p 0 0),(2,.p 1 0),(3,.p 3 0),(29,.v (.int .i64 (((D.f 1).l:Nat):Int))),(30,.v (.int .i64 (IntKind.i64.wrap (((k1_:Nat):Int) + 1))))] bh cH fun ft cI=>?_
   refine qae (qab ?_)
   obtain ⟨bi,cJ,aN⟩:=bh.cutB cI 4 (z10 b o D b4 aa au av aH k1_ aI aA) [(0,.p 0 0),(2,.p 1 0),(3,.p 3 0),(29,.v (.int .i64 (((D.f 1).l:Nat):Int))),(30,.v (.int .i64 (IntKind.i64.wrap (((k1_:Nat):Int) + 1))))]
   obtain ⟨cK,aO⟩:=cJ.cutR 1 [⟨aH,aI,37,5,k1_ + 1,xs1_ ++ (z12 D k1_)⟩]
   have cL:IntKind.i64.wrap (((k1_:Nat):Int) + 1) = ((k1_ + 1:Nat):Int):=qaO (by omega)
   rw [cL] at bi
   exact ⟨(D.f 1).l - (k1_ + 1),by omega,k1_ + 1,aH,aI,xs1_ ++ [Value.int .i64 (IntKind.i64.wrap (((D.f 1).f k1_).n)),.slice none 0 0,.bool false,.slice none 0 0,.slice none 0 0],(css1_ ++ [[Value.int .i64 (IntKind.i64.wrap (((D.f 1).f k1_).n)),.slice none 0 0,.bool false,.slice none 0 0,.slice none 0 0]]),rfl,by omega,by rw [qbQ (by omega)]; exact (hT1_.move (((((((((aG.trans ab).trans ai).trans aw).trans aK).trans ak).trans ax).trans aM).trans aN).trans aO).step immM (((((((((aG.trans ab).trans ai).trans aw).trans aK).trans ak).trans ax).trans aM).trans aN).trans aO).to').snoc (x:=(fun i=>Tree.mk (IntKind.i64.wrap ((D.f 1).f i).n) [] false [] []) k1_) (TreeR.mk (n:=IntKind.i64.wrap (((D.f 1).f k1_).n)) (b:=false) (s:=[]) (l:=[]) (u:=[]) (fun _=>[]) (Octs.nil _ _) (Slots.nil _ _ _ _) (fun i_ x_ h_=>by simp at h_) (TagsR.nil _ _)),bi.pk,cK,((((((((((aY.trans aG).trans ab).trans ai).trans aw).trans aK).trans ak).trans ax).trans aM).trans aN).trans aO)⟩
  refine (qao aJ aZ (oi:=4) (cs:=[.bool false]) kz fun fu al bj cM=>?_)
  have cN:=TT.ofW (ab.trans al) bj
  refine ⟨fun _=>cN,?_⟩
  refine qam (i:=1) kz (qao bj cM (oi:=4) (cs:=[.bool true]) kz fun fv ay aD cO=>?_)
  have cP:=TT.ofW ((ab.trans al).trans ay) aD
  refine ⟨fun _=>cP,?_⟩
  refine qam (i:=3) kz (qbf [0,2,3,4,29,30,34] aD.cells cO (env':=(z74 k1_ D)) kz fun fw bk=>?_)
  have cQ:=TT.ofW ((ab.trans al).trans ay) aD
  refine ⟨fun _=>cQ,?_⟩
  refine qaz kz ?_ _
  refine qab (qa7 bk (b:=true) kz rfl ?_)
  refine qaE 19 kz aD fun fx aP bn am=>?_
  refine qaB [0,1,5,6,7,8,9] (z58 D k1_ aa) 13 (qaa (qac (qaa (qaa (qac (qaa qad)))))) (fun _ h=>h.cells) am bk fun fy cR=>?_
  refine qaD cR (i:=2) (t:=34) (A:=(some ⟨aa,0,none⟩)) (m:=2) (q:=1) (d:=37) kz (e:=37) (size:=5) (bytes:=88) (j:=1) kz (b:=aa) (o:=0) rfl rfl (by decide) kz kz (qaa (qac (qaa (qaa (qac (qaa qad)))))) am fun fz cS=>?_
  have cT:=cS.recast 37 (.v (.pointer (some ⟨aa,0 + 1 * 5,none⟩))) (.p 2 5) rfl rfl (zN (n:=3) rfl)
  have cU:=cT.pk (env':=(z55 D k1_ aa))
  refine qaB [3,4,14] (z47 D k1_ aa A1_ c1_) 9 (qaa (qac (qaa (qaa (qac (qaa qad)))))) (fun _ h=>h.cells) am cU fun fA cV=>?_
  obtain ⟨ep,eu,cW,eD,bH⟩:=Slots.get g2 (i:=k1_) (by omega)
  refine qaD cV (i:=10) (t:=87) (A:=(D.f 1).A) (m:=((D.f 1).l)) (q:=((k1_:Nat):Int)) (d:=45) kz (e:=21) (size:=1) (bytes:=4) kz cW rfl (by omega) kz kz (qaa (qac (qaa (qaa (qac (qaa qad)))))) am fun fB cX=>?_
  refine qa0 cX (i:=11) (t:=21) (b:=ep) (o:=eu + k1_ * 1) (d:=46) kz (cs:=[.int .i32 (((D.f 1).f k1_).n)]) (v:=.int .i32 (((D.f 1).f k1_).n)) kz (fun w' h'=>(AtF.move bH (TT.step0 bn h') nilM qa9).at_) kz kz (qaa (qac (qaa (qaa (qac (qaa qad)))))) am fun fC cY=>?_
  refine qaB [12,13] [(0,.p 0 0),(2,.p 1 0),(3,.p 3 0),(29,.v (.int .i64 (((D.f 1).l:Nat):Int))),(30,.v (.int .i64 ((k1_:Nat):Int))),(36,.v (.slice (some ⟨aa,0,none⟩) 2 2)),(39,.v (.slice A1_ k1_ c1_)),(48,.v (.agg #[.int .i64 (IntKind.i64.wrap (((D.f 1).f k1_).n)),.slice none 0 0,.bool false,.slice none 0 0,.slice none 0 0])),(49,.v (.int .i64 ((k1_:Nat):Int)))] 5 (qaa (qac (qaa (qaa (qac (qaa qad)))))) (fun _ h=>h.cells) am cY fun fD cZ=>?_
  refine qam (i:=15) kz (qbu bn cZ (e:=37) (size:=5) (len:=1) (cs:=z0) (d:=50) kz kz fun bI fE fF eE eF ao aE c5=>?_)
  have c6:=TT.ofW ao aE
  refine ⟨fun _=>c6,?_⟩
  refine qam (i:=16) kz (qaR aE c5 (k:=0) (d:=51) (t:=34) (e:=37) (size:=5) (bytes:=88) (A:=A1_) (As:=(some ⟨bI,0,none⟩)) (m0:=k1_) (c:=c1_) (m:=1) (cs:=1) (xs:=xs1_) (news:=z0) kz kz rfl (qby (aE.own 1 _ rfl) (qbw kz)) (qbE (aE.own 1 _ rfl)) (by omega) fun ac ag fG fH az aQ da=>?_)
  have db:=TT.ofW (ao.trans az) aQ
  refine ⟨fun _=>db,?_⟩
  refine qam (i:=17) kz (qax da (t:=34) (A:=(some ⟨aa,0,none⟩)) (m:=2) (q:=1) (d:=52) kz (e:=37) (size:=5) (bytes:=88) (j:=1) kz (b:=aa) (o:=0) rfl rfl (by decide) fun fI dc=>?_)
  have de:=dc.recast 52 (.v (.pointer (some ⟨aa,0 + 1 * 5,none⟩))) (.p 2 5) rfl rfl (zN (n:=3) rfl)
  have df:=de.pk (env':=[(0,.p 0 0),(2,.p 1 0),(3,.p 3 0),(29,.v (.int .i64 (((D.f 1).l:Nat):Int))),(30,.v (.int .i64 ((k1_:Nat):Int))),(36,.v (.slice (some ⟨aa,0,none⟩) 2 2)),(39,.v (.slice A1_ k1_ c1_)),(48,.v (.agg #[.int .i64 (IntKind.i64.wrap (((D.f 1).f k1_).n)),.slice none 0 0,.bool false,.slice none 0 0,.slice none 0 0])),(49,.v (.int .i64 ((k1_:Nat):Int))),(50,.v (.slice (some ⟨bI,0,none⟩) 1 1)),(51,.v (.slice ac (k1_ + 1) ag)),(52,.p 2 5)])
  have bo:=TT.ofW (ao.trans az) aQ
  refine ⟨fun _=>bo,?_⟩
  refine qaB [18] [(0,.p 0 0),(2,.p 1 0),(3,.p 3 0),(29,.v (.int .i64 (((D.f 1).l:Nat):Int))),(30,.v (.int .i64 ((k1_:Nat):Int))),(48,.v (.agg #[.int .i64 (IntKind.i64.wrap (((D.f 1).f k1_).n)),.slice none 0 0,.bool false,.slice none 0 0,.slice none 0 0])),(49,.v (.int .i64 ((k1_:Nat):Int))),(51,.v (.slice ac (k1_ + 1) ag)),(53,.p 2 8)] 1 (qaa (qac (qaa (qaa (qac (qaa qad)))))) (fun _ h=>h.cells) bo df fun fJ dg=>?_
  refine qam (i:=19) kz (qao aQ dg (oi:=2) (cs:=(z9 au D av ac k1_ ag)) kz fun ev aR bp dh=>?_)
  refine ⟨fun h=>absurd rfl h,?_⟩
  refine qaz kz ?_ _
  refine qab (qap [0,1] kz ?_)
  have di:World.ownsRow ev 0 37 5 (.slice ac (k1_ + 1) ag) (k1_ + 1) (xs1_ ++ z0):=bp.own 0 _ rfl
  obtain ⟨dj,bq⟩:=qbX di (by omega)
  refine qal (qax dh (t:=34) (A:=ac) (m:=(k1_ + 1)) (q:=((k1_:Nat):Int)) (d:=54) kz (e:=37) (size:=5) (bytes:=88) kz (b:=dj) (o:=0) (j:=k1_) bq (rfl) (by omega) fun fK dl=>?_)
  refine qal (qbL bp dl (k:=0) (g:=dj) (o:=k1_ * 5) (c:=ag) (m:=(k1_ + 1)) (size:=5) (e:=37) (A:=ac) (xs:=(xs1_ ++ [.int .i64 0,.slice none 0 0,.bool false,.slice none 0 0,.slice none 0 0])) (vs:=[.int .i64 (IntKind.i64.wrap (((D.f 1).f k1_).n)),.slice none 0 0,.bool false,.slice none 0 0,.slice none 0 0]) kz rfl bq (by simp only [List.length_cons,List.length_nil]; omega) fun fL aS dp dq=>?_)
  have dr:(⟨ac,ag,37,5,k1_ + 1,qbt (xs1_ ++ [.int .i64 0,.slice none 0 0,.bool false,.slice none 0 0,.slice none 0 0]) (k1_ * 5) [.int .i64 (IntKind.i64.wrap (((D.f 1).f k1_).n)),.slice none 0 0,.bool false,.slice none 0 0,.slice none 0 0]⟩:Rw) = ⟨ac,ag,37,5,k1_ + 1,xs1_ ++ [.int .i64 (IntKind.i64.wrap (((D.f 1).f k1_).n)),.slice none 0 0,.bool false,.slice none 0 0,.slice none 0 0]⟩:=by rw [qcn (by rw [hT1_.xslen,List.length_take,qbG]; omega)]
  obtain ⟨bt,aT⟩:=dp.rowEq 0 [⟨ac,ag,37,5,k1_ + 1,xs1_ ++ (z12 D k1_)⟩,⟨some ⟨bI,0,none⟩,1,37,5,1,z0⟩] dr
  refine qae (qar (qab (qap [0,1] kz ?_)))
  refine qai [0,1] [] [(0,.p 0 0),(2,.p 1 0),(3,.p 3 0),(29,.v (.int .i64 (((D.f 1).l:Nat):Int))),(30,.v (.int .i64 (IntKind.i64.wrap (((k1_:Nat):Int) + 1))))] bt dq fun fM dt=>?_
  refine qae (qab ?_)
  obtain ⟨bu,du,aU⟩:=bt.cutB dt 4 (z10 b o D b4 aa au av ac k1_ ag aA) [(0,.p 0 0),(2,.p 1 0),(3,.p 3 0),(29,.v (.int .i64 (((D.f 1).l:Nat):Int))),(30,.v (.int .i64 (IntKind.i64.wrap (((k1_:Nat):Int) + 1))))]
  obtain ⟨dv,aV⟩:=du.cutR 1 [⟨ac,ag,37,5,k1_ + 1,xs1_ ++ (z12 D k1_)⟩]
  have dw:IntKind.i64.wrap (((k1_:Nat):Int) + 1) = ((k1_ + 1:Nat):Int):=qaO (by omega)
  rw [dw] at bu
  exact ⟨(D.f 1).l - (k1_ + 1),by omega,k1_ + 1,ac,ag,xs1_ ++ [Value.int .i64 (IntKind.i64.wrap (((D.f 1).f k1_).n)),.slice none 0 0,.bool false,.slice none 0 0,.slice none 0 0],(css1_ ++ [[Value.int .i64 (IntKind.i64.wrap (((D.f 1).f k1_).n)),.slice none 0 0,.bool false,.slice none 0 0,.slice none 0 0]]),rfl,by omega,by rw [qbQ (by omega)]; exact (hT1_.move (((((((((((aG.trans ab).trans al).trans ay).trans aP).trans ao).trans az).trans aR).trans aS).trans aT).trans aU).trans aV).step immM (((((((((((aG.trans ab).trans al).trans ay).trans aP).trans ao).trans az).trans aR).trans aS).trans aT).trans aU).trans aV).to').snoc (x:=(fun i=>Tree.mk (IntKind.i64.wrap ((D.f 1).f i).n) [] false [] []) k1_) (TreeR.mk (n:=IntKind.i64.wrap (((D.f 1).f k1_).n)) (b:=false) (s:=[]) (l:=[]) (u:=[]) (fun _=>[]) (Octs.nil _ _) (Slots.nil _ _ _ _) (fun i_ x_ h_=>by simp at h_) (TagsR.nil _ _)),bu.pk,dv,((((((((((((aY.trans aG).trans ab).trans al).trans ay).trans aP).trans ao).trans az).trans aR).trans aS).trans aT).trans aU).trans aV)⟩
 have eG:=zF bF
 refine wp_exit (qau (qau (qaI (qab (qaf [0,1,2,3,4] kz ?_)))))
 refine qai [0,1,2] [3,4] [(2,.p 1 0),(3,.p 3 0),(78,.p 0 2)] ah bE fun fN dx=>?_
 refine qal (qeD dx (v:=.func (.func 100) #[] #[.pointer (some ⟨aA,0,none⟩)]) (d:=79) kz fun fO dy=>?_)
 refine qal (qak dy (f:=59) (vs:=[.pointer (some ⟨b,o + 2,none⟩),.func (.func 100) #[] #[.pointer (some ⟨aA,0,none⟩)]]) (d:=80) kz Tryz.call59 (qeP (F:=(Imm F w eP [⟨b,o,(z27 D),false⟩,⟨b4,0,z0,true⟩,⟨aa,0,(z26 au D av A1_ k1_ c1_),true⟩,⟨aA,0,(z43 aa),true⟩] [⟨A1_,c1_,37,5,k1_,xs1_⟩])) Tryz.call100 qcF ((hat.one 2 rfl).move ah.step nilM ah.imm) (g3.move ah.step nilM ah.imm) (Str.of ah 3 rfl) (qjG 3 rfl) g3l) ?_)
 rintro e_ fP ⟨rfl,ae,af,bJ,dz,dA⟩
 obtain ⟨aW,aF,dB⟩:=ah.wrote 3 [⟨b,o,(z27 D),false⟩,⟨b4,0,z0,true⟩,⟨aa,0,(z26 au D av A1_ k1_ c1_),true⟩,⟨aA,0,(z51 aa ae D af),true⟩] rfl dA bJ
 have bw:=dz.move (Step.refl _ Nil) nilM (fun b_ o_ h_ hb_=>dB (G:=F) b_ o_ (.inr h_) hb_)
 refine ⟨_,rfl,fun fQ dC=>?_⟩
 have dD:=(EnvOk.places (tb':=[⟨b,o,[.string ((D.f 0).s),.slice ((D.f 1).A) ((D.f 1).l) ((D.f 1).c),.map D.m],false⟩,⟨b4,0,[.int .i64 0,.slice none 0 0,.bool false,.slice none 0 0,.slice none 0 0],true⟩,⟨aa,0,[.int .i64 0,.slice (some ⟨au,0,none⟩) ((sb ((D.f 0).s)).length) av,.bool false,.slice none 0 0,.slice none 0 0,.int .i64 0,.slice none 0 0,.bool (((D.f 1).A).isNone),.slice A1_ k1_ c1_,.slice none 0 0],true⟩,⟨aA,0,[.int .i64 0,.slice none 0 0,.bool false,.slice (some ⟨aa,0,none⟩) 2 2,.slice ae D.u.length af],true⟩]) dC (show Pl [⟨b,o,[.string ((D.f 0).s),.slice ((D.f 1).A) ((D.f 1).l) ((D.f 1).c),.map D.m],false⟩,⟨b4,0,[.int .i64 0,.slice none 0 0,.bool false,.slice none 0 0,.slice none 0 0],true⟩,⟨aa,0,[.int .i64 0,.slice (some ⟨au,0,none⟩) ((sb ((D.f 0).s)).length) av,.bool false,.slice none 0 0,.slice none 0 0,.int .i64 0,.slice none 0 0,.bool (((D.f 1).A).isNone),.slice A1_ k1_ c1_,.slice none 0 0],true⟩,⟨aA,0,[.int .i64 0,.slice none 0 0,.bool false,.slice (some ⟨aa,0,none⟩) 2 2,.slice none 0 0],true⟩] [⟨b,o,[.string ((D.f 0).s),.slice ((D.f 1).A) ((D.f 1).l) ((D.f 1).c),.map D.m],false⟩,⟨b4,0,[.int .i64 0,.slice none 0 0,.bool false,.slice none 0 0,.slice none 0 0],true⟩,⟨aa,0,[.int .i64 0,.slice (some ⟨au,0,none⟩) ((sb ((D.f 0).s)).length) av,.bool false,.slice none 0 0,.slice none 0 0,.int .i64 0,.slice none 0 0,.bool (((D.f 1).A).isNone),.slice A1_ k1_ c1_,.slice none 0 0],true⟩,⟨aA,0,[.int .i64 0,.slice none 0 0,.bool false,.slice (some ⟨aa,0,none⟩) 2 2,.slice ae D.u.length af],true⟩] from ⟨rfl,rfl,⟨rfl,rfl,⟨rfl,rfl,⟨rfl,rfl,trivial⟩⟩⟩⟩)).pk (env':=[(80,.v (.tuple #[])),(2,.p 1 0),(3,.p 3 0),(78,.p 0 2),(79,.v (.func (.func 100) #[] #[.pointer (some ⟨aA,0,none⟩)]))])
 refine qae (qab ?_)
 refine qaf [0,1,2] kz ?_
 refine qai [0,1] [2] [(2,.p 1 0),(3,.p 3 0),(82,.v (.slice ae D.u.length af))] aW dD fun fR dE=>?_
 refine qal (qak dE (f:=61) (vs:=[.slice ae D.u.length af]) (d:=83) kz Tryz.call61 (qgC bw g3.sorted) ?_)
 rintro e_ fS ⟨rfl,bx⟩
 refine ⟨_,rfl,fun fT dF=>?_⟩
 have bz:=aW.next_nil bx
 have ap:=aW.frN bx
 refine qae (qab ?_)
 refine qaf [0,1] kz ?_
 refine qai [0] [1] (z102 aa ae D af) bz dF fun fU dG=>?_
 refine qal (qao bz dG (oi:=1) (cs:=(z51 aa ae D af)) kz fun dH ar aX dI=>?_)
 refine qae (qab ?_)
 refine wp_ret (qaM dI aX.cells (v:=.agg #[.int .i64 0,.slice none 0 0,.bool false,.slice (some ⟨aa,0,none⟩) 2 2,.slice ae D.u.length af]) kz ?_)
 have bA:=(hT1_.move ((aF.trans ap).trans ar).step immM ((aF.trans ap).trans ar).to')
 rw [qeQ (by omega)] at bA
 exact qfq (u:=D.u) (l:=[.mk 0 (sb (D.f 0).s) false [] [],.mk 0 [] (D.f 1).A.isNone ((List.range (D.f 1).l).map fun i=>.mk (IntKind.i64.wrap ((D.f 1).f i).n) [] false [] []) []]) (css:=[[.int .i64 0,.slice (some ⟨au,0,none⟩) ((sb ((D.f 0).s)).length) av,.bool false,.slice none 0 0,.slice none 0 0],[.int .i64 0,.slice none 0 0,.bool (((D.f 1).A).isNone),.slice A1_ k1_ c1_,.slice none 0 0]]) aX 2 rfl ⟨(show TreeR _ (Imm F w dH [⟨b,o,[.string ((D.f 0).s),.slice ((D.f 1).A) ((D.f 1).l) ((D.f 1).c),.map D.m],false⟩,⟨b4,0,[.int .i64 0,.slice none 0 0,.bool false,.slice (some ⟨aa,0,none⟩) 2 2,.slice ae D.u.length af],true⟩,⟨aa,0,[.int .i64 0,.slice (some ⟨au,0,none⟩) ((sb ((D.f 0).s)).length) av,.bool false,.slice none 0 0,.slice none 0 0,.int .i64 0,.slice none 0 0,.bool (((D.f 1).A).isNone),.slice A1_ k1_ c1_,.slice none 0 0],true⟩,⟨aA,0,[.int .i64 0,.slice none 0 0,.bool false,.slice (some ⟨aa,0,none⟩) 2 2,.slice ae D.u.length af],true⟩] [⟨A1_,c1_,37,5,k1_,xs1_⟩]) _ _ from (TreeR.mk (n:=0) (b:=false) (s:=(sb ((D.f 0).s))) (l:=[]) (u:=[]) (fun _=>[]) (dX.move (((((((bM.trans bN).trans bO).trans bQ).trans aY).trans aF).trans ap).trans ar).step immM (((((((bM.trans bN).trans bO).trans bQ).trans aY).trans aF).trans ap).trans ar).to') (Slots.nil _ _ _ _) (fun i_ x_ h_=>by simp at h_) (TagsR.nil _ _))).move (Step.refl _ Nil) nilM qca,qdQ aX (k:=0) rfl bA (by rw [qbG]; omega) (by rw [qbG]; omega),trivial⟩ ((show TagsR _ (Imm F w dH [⟨b,o,[.string ((D.f 0).s),.slice ((D.f 1).A) ((D.f 1).l) ((D.f 1).c),.map D.m],false⟩,⟨b4,0,[.int .i64 0,.slice none 0 0,.bool false,.slice (some ⟨aa,0,none⟩) 2 2,.slice ae D.u.length af],true⟩,⟨aa,0,[.int .i64 0,.slice (some ⟨au,0,none⟩) ((sb ((D.f 0).s)).length) av,.bool false,.slice none 0 0,.slice none 0 0,.int .i64 0,.slice none 0 0,.bool (((D.f 1).A).isNone),.slice A1_ k1_ c1_,.slice none 0 0],true⟩,⟨aA,0,[.int .i64 0,.slice none 0 0,.bool false,.slice (some ⟨aa,0,none⟩) 2 2,.slice ae D.u.length af],true⟩] [⟨A1_,c1_,37,5,k1_,xs1_⟩]) _ _ _ from (bw.move (ap.trans ar).step immM (ap.trans ar).to')).move (Step.refl _ Nil) nilM qca)
set_option maxHeartbeats 4000000 in
theorem qbm (v:Int) (D:DV) (b o:Nat) (w:World) (F:Nat → Nat → Prop) (hat:AtF w F b o [.string ((D.f 0).s),.slice ((D.f 1).A) ((D.f 1).l) ((D.f 1).c),.map D.m]) (hok:qaJ w F D):Calls Tryz.prog 102 #[.pointer (some ⟨b,o,none⟩)] w (qdK w F (qaK D)):=by
 refine enter (n:=85) Tryz.func102 rfl Tryz.ntmps102 kz fun a hE=>?_
 have hW:WOk w Nil w [⟨b,o,(z27 D),false⟩] []:=(WOk.start w Nil).start1 hat rfl rfl
 unfold qaJ at hok
 obtain ⟨g1,⟨g2,g2l,g2e⟩,g3,g3l,g3x,_⟩:=hok
 have hE0:=(EnvOk.ptr0 (cs:=(z27 D)) (r:=false) hE).pk (env':=[(0,.p 0 0)])
 refine qaf [0] kz ?_
 refine qal (qaQ hW hE0 (d:=2) (cs:=z0) kz fun b4 a5 w6 hb7 hz8 hF9 dJ dK=>?_)
 refine qae (qab ?_)
 refine qaf [0,1,2,3] kz ?_
 refine qal (qeb (t:=34) (e:=37) (size:=5) (bytes:=88) (d:=5) (j:=2) (.agg #[.int .i64 0,.slice none 0 0,.bool false,.slice none 0 0,.slice none 0 0]) z72 dJ dK fun aa fV fW eH eI eJ bK dL=>?_)
 refine qai [1] [2,3] (z80 aa) bK dL fun fX dM=>?_
 refine qal (qaQ bK dM (d:=3) (cs:=z0) kz fun aA fY fZ eK eL eM dN dO=>?_)
 refine qal (qao dN dO (oi:=3) (cs:=(z43 aa)) kz fun f5 eN dP dQ=>?_)
 refine qae (qab ?_)
 refine qaE 9 kz dP fun f7 eO dR dS=>?_
 refine qaB [0,1,2,3,4,5] (z101 aa D) 4 (qaa qad) (fun _ h=>h.cells) dS dQ fun f8 dT=>?_
 refine qam (i:=6) kz (qec (d:=13) (src:=9) (dst:=22) (e:=5) (s:=((D.f 0).s)) dR dT (by omega) fun au av f9 ga dU bL dV dW=>?_)
 have dX:=dV F
 have bB:=TT.ofW dU bL
 refine ⟨fun _=>bB,?_⟩
 refine qaB [7] (z66 aa au D av) 2 (qaa qad) (fun _ h=>h.cells) bB dW fun gb dY=>?_
 refine qaD dY (i:=8) (t:=34) (A:=(some ⟨aa,0,none⟩)) (m:=2) (q:=0) (d:=15) kz (e:=37) (size:=5) (bytes:=88) (j:=0) kz (b:=aa) (o:=0) rfl rfl (by decide) kz kz (qaa qad) bB fun gc dZ=>?_
 have d5:=dZ.recast 15 (.v (.pointer (some ⟨aa,0 + 0 * 5,none⟩))) (.p 2 0) rfl rfl (zN (n:=3) rfl)
 have d6:=d5.pk (env':=(z63 aa au D av))
 refine qam (i:=9) kz (qao bL d6 (oi:=2) (cs:=(z68 au D av)) kz fun gd bM d7 d8=>?_)
 refine ⟨fun h=>absurd rfl h,?_⟩
 refine qaz kz ?_ _
 refine qab (qaE 9 kz d7 fun ge bN d9 bC=>?_)
 refine qaB [0,1,2,3,4,5,6] (z95 aa D) 3 (qaa qad) (fun _ h=>h.cells) bC d8 fun gg ea=>?_
 refine qam (i:=7) kz (qax ea (t:=34) (A:=(some ⟨aa,0,none⟩)) (m:=2) (q:=1) (d:=23) kz (e:=37) (size:=5) (bytes:=88) (j:=1) kz (b:=aa) (o:=0) rfl rfl (by decide) fun gh eb=>?_)
 have ec:=eb.recast 23 (.v (.pointer (some ⟨aa,0 + 1 * 5,none⟩))) (.p 2 5) rfl rfl (zN (n:=3) rfl)
 have ee:=ec.pk (env':=(z89 aa D))
 refine ⟨fun _=>bC,?_⟩
 refine qaB [8] (z105 D) 1 (qaa qad) (fun _ h=>h.cells) bC ee fun gi ef=>?_
 refine qam (i:=9) kz (qao d9 ef (oi:=2) (cs:=(z64 au D av)) kz fun gj bO bD eg=>?_)
 refine ⟨fun h=>absurd rfl h,?_⟩
 refine qaz kz ?_ _
 refine qab (wp_seq (qas (z100 D) bD eg fun gk eh=>?_))
 refine wp_block ?_
 have bP:=bD.addNil 37 5
 have bQ:=bD.frNil 37 5
 refine wp_loop_ghost (fun n_ a_ w_=>∃ (k1_:Nat) (A1_:Option Addr) (c1_:Nat) (xs1_:List Value) (css1_:List (List Value)),n_ = (D.f 1).l - k1_ ∧ k1_ ≤ (D.f 1).l ∧ (Trees w_ (Imm F w w_ [⟨b,o,[.string ((D.f 0).s),.slice ((D.f 1).A) ((D.f 1).l) ((D.f 1).c),.map D.m],false⟩,⟨b4,0,[.int .i64 0,.slice none 0 0,.bool false,.slice none 0 0,.slice none 0 0],true⟩,⟨aa,0,[.int .i64 0,.slice (some ⟨au,0,none⟩) ((sb ((D.f 0).s)).length) av,.bool false,.slice none 0 0,.slice none 0 0,.int .i64 0,.slice none 0 0,.bool (((D.f 1).A).isNone),.slice A1_ k1_ c1_,.slice none 0 0],true⟩,⟨aA,0,[.int .i64 0,.slice none 0 0,.bool false,.slice (some ⟨aa,0,none⟩) 2 2,.slice none 0 0],true⟩] [⟨A1_,c1_,37,5,k1_,xs1_⟩]) xs1_ (((List.range (D.f 1).l).map (fun i=>Tree.mk (IntKind.i64.wrap ((D.f 1).f i).n) [] false [] [])).take k1_) css1_) ∧ LInv bP 85 [⟨b,o,[.string ((D.f 0).s),.slice ((D.f 1).A) ((D.f 1).l) ((D.f 1).c),.map D.m],false⟩,⟨b4,0,[.int .i64 0,.slice none 0 0,.bool false,.slice none 0 0,.slice none 0 0],true⟩,⟨aa,0,[.int .i64 0,.slice (some ⟨au,0,none⟩) ((sb ((D.f 0).s)).length) av,.bool false,.slice none 0 0,.slice none 0 0,.int .i64 0,.slice none 0 0,.bool (((D.f 1).A).isNone),.slice A1_ k1_ c1_,.slice none 0 0],true⟩,⟨aA,0,[.int .i64 0,.slice none 0 0,.bool false,.slice (some ⟨aa,0,none⟩) 2 2,.slice none 0 0],true⟩] [⟨A1_,c1_,37,5,k1_,xs1_⟩] [(0,.p 0 0),(2,.p 1 0),(3,.p 3 0),(29,.v (.int .i64 (((D.f 1).l:Nat):Int))),(30,.v (.int .i64 ((k1_:Nat):Int)))] a_ w_) ((D.f 1).l) ⟨0,none,0,[],[],by omega,by omega,Trees.nil _ _,eh.pk,bP,Fr.refl _ _ _⟩ ?_
 rintro gl gm eP ⟨k1_,A1_,c1_,xs1_,css1_,eQ,eR,hT1_,ei,ah,aY⟩
 refine qas [(0,.p 0 0),(2,.p 1 0),(3,.p 3 0),(29,.v (.int .i64 (((D.f 1).l:Nat):Int))),(30,.v (.int .i64 ((k1_:Nat):Int))),(31,.v (.bool (decide (((k1_:Nat):Int) < (((D.f 1).l:Nat):Int)))))] ah ei fun gn bE=>?_
 refine wp_seq (qaw bE (b:=decide (((k1_:Nat):Int) < (((D.f 1).l:Nat):Int))) kz (fun bF=>?_) (fun bF=>?_))
 ·
  have eS:=zD bF
  refine wp_skip (qab (wp_seq (wp_block (qas (z78 k1_ D) ah bE fun gp ej=>?_))))
  refine qaE 4 kz ah fun gq aG ek eU=>?_
  refine qam (i:=0) kz (qaQ ek ej (d:=33) (cs:=[.bool false]) kz fun gt eV eW ew ey ab aJ aZ=>?_)
  have bR:=TT.ofW ab aJ
  refine ⟨fun _=>bR,?_⟩
  refine qcX (i:=1) (j:=2) kz ?_ ?_
  ·
   refine (qao aJ aZ (oi:=4) (cs:=[.bool true]) kz fun eX ai ba bS=>?_)
   have bT:=TT.ofW (ab.trans ai) ba
   refine ⟨fun _=>bT,?_⟩
   refine qam (i:=2) kz (qao ba bS (oi:=4) (cs:=[.bool false]) kz fun eY aw aB bU=>?_)
   have bV:=TT.ofW ((ab.trans ai).trans aw) aB
   refine ⟨fun _=>bV,?_⟩
   refine qam (i:=3) kz (qbf [0,2,3,4,29,30,34] aB.cells bU (env':=(z73 k1_ D)) kz fun eZ bd=>?_)
   have bW:=TT.ofW ((ab.trans ai).trans aw) aB
   refine ⟨fun _=>bW,?_⟩
   refine qaz kz ?_ _
   refine qab (qan bd (b:=false) kz rfl ?_)
   refine qcu 20 kz aB fun e9 aK bf aj=>?_
   refine qaB [0,1,2,3,7,8,9,10,11] (z44 D k1_ aa) 12 (qac (qaa (qaa (qac (qaa qad))))) (fun _ h=>h.cells) aj bd fun fa bX=>?_
   refine qaD bX (i:=4) (t:=34) (A:=(some ⟨aa,0,none⟩)) (m:=2) (q:=1) (d:=59) kz (e:=37) (size:=5) (bytes:=88) (j:=1) kz (b:=aa) (o:=0) rfl rfl (by decide) kz kz (qac (qaa (qaa (qac (qaa qad))))) aj fun fb bY=>?_
   have bZ:=bY.recast 59 (.v (.pointer (some ⟨aa,0 + 1 * 5,none⟩))) (.p 2 5) rfl rfl (zN (n:=3) rfl)
   have b8:=bZ.pk (env':=(z41 D k1_ aa))
   refine qaB [5,6] (z56 D k1_ aa A1_ c1_) 9 (qac (qaa (qaa (qac (qaa qad))))) (fun _ h=>h.cells) aj b8 fun fe cd=>?_
   obtain ⟨em,eo,ce,ez,bG⟩:=Slots.get g2 (i:=k1_) (by omega)
   refine qaD cd (i:=12) (t:=87) (A:=(D.f 1).A) (m:=((D.f 1).l)) (q:=((k1_:Nat):Int)) (d:=67) kz (e:=21) (size:=1) (bytes:=4) kz ce rfl (by omega) kz kz (qac (qaa (qaa (qac (qaa qad))))) aj fun ff cm=>?_
   refine qa0 cm (i:=13) (t:=21) (b:=em) (o:=eo + k1_ * 1) (d:=68) kz (cs:=[.int .i32 (((D.f 1).f k1_).n)]) (v:=.int .i32 (((D.f 1).f k1_).n)) kz (fun w' h'=>(AtF.move bG (TT.step0 bf h') nilM qa9).at_) kz kz (qac (qaa (qaa (qac (qaa qad))))) aj fun fg cq=>?_
   refine qaB [14,15] [(0,.p 0 0),(2,.p 1 0),(3,.p 3 0),(29,.v (.int .i64 (((D.f 1).l:Nat):Int))),(30,.v (.int .i64 ((k1_:Nat):Int))),(56,.v (.slice (some ⟨aa,0,none⟩) 2 2)),(61,.v (.slice A1_ k1_ c1_)),(70,.v (.agg #[.int .i64 (IntKind.i64.wrap (((D.f 1).f k1_).n)),.slice none 0 0,.bool false,.slice none 0 0,.slice none 0 0]))] 5 (qac (qaa (qaa (qac (qaa qad))))) (fun _ h=>h.cells) aj cq fun fh cr=>?_
   refine qam (i:=16) kz (qbu bf cr (e:=37) (size:=5) (len:=1) (cs:=(z12 D k1_)) (d:=71) kz kz fun cu fi fj eB eC ak aC cw=>?_)
   have cz:=TT.ofW ak aC
   refine ⟨fun _=>cz,?_⟩
   refine qam (i:=17) kz (qaR aC cw (k:=0) (d:=72) (t:=34) (e:=37) (size:=5) (bytes:=88) (A:=A1_) (As:=(some ⟨cu,0,none⟩)) (m0:=k1_) (c:=c1_) (m:=1) (cs:=1) (xs:=xs1_) (news:=(z12 D k1_)) kz kz rfl (qby (aC.own 1 _ rfl) (qbw kz)) (qbE (aC.own 1 _ rfl)) (by omega) fun aH aI fk fm ax aL cA=>?_)
   have cB:=TT.ofW (ak.trans ax) aL
   refine ⟨fun _=>cB,?_⟩
   refine qam (i:=18) kz (qax cA (t:=34) (A:=(some ⟨aa,0,none⟩)) (m:=2) (q:=1) (d:=73) kz (e:=37) (size:=5) (bytes:=88) (j:=1) kz (b:=aa) (o:=0) rfl rfl (by decide) fun fo cC=>?_)
   have cD:=cC.recast 73 (.v (.pointer (some ⟨aa,0 + 1 * 5,none⟩))) (.p 2 5) rfl rfl (zN (n:=3) rfl)
   have cE:=cD.pk (env':=[(0,.p 0 0),(2,.p 1 0),(3,.p 3 0),(29,.v (.int .i64 (((D.f 1).l:Nat):Int))),(30,.v (.int .i64 ((k1_:Nat):Int))),(56,.v (.slice (some ⟨aa,0,none⟩) 2 2)),(61,.v (.slice A1_ k1_ c1_)),(70,.v (.agg #[.int .i64 (IntKind.i64.wrap (((D.f 1).f k1_).n)),.slice none 0 0,.bool false,.slice none 0 0,.slice none 0 0])),(71,.v (.slice (some ⟨cu,0,none⟩) 1 1)),(72,.v (.slice aH (k1_ + 1) aI)),(73,.p 2 5)])
   have bg:=TT.ofW (ak.trans ax) aL
   refine ⟨fun _=>bg,?_⟩
   refine qaB [19] [(0,.p 0 0),(2,.p 1 0),(3,.p 3 0),(29,.v (.int .i64 (((D.f 1).l:Nat):Int))),(30,.v (.int .i64 ((k1_:Nat):Int))),(72,.v (.slice aH (k1_ + 1) aI)),(74,.p 2 8)] 1 (qac (qaa (qaa (qac (qaa qad))))) (fun _ h=>h.cells) bg cE fun fq cG=>?_
   refine qam (i:=20) kz (qao aL cG (oi:=2) (cs:=(z9 au D av aH k1_ aI)) kz fun fr aM bh cH=>?_)
   refine ⟨fun h=>absurd rfl h,?_⟩
   refine qaz kz ?_ _
   refine qar (qab (qap [0,1] kz ?_))
   refine qai [0,1] [] [(0,.p 0 0),(2,.p 1 0),(3,.p 3 0),(29,.v (.int .i64 (((D.f 1).l:Nat):Int))),(30,.v (.int .i64 (IntKind.i64.wrap (((k1_:Nat):Int) + 1))))] bh cH fun ft cI=>?_
   refine qae (qab ?_)
   obtain ⟨bi,cJ,aN⟩:=bh.cutB cI 4 (z10 b o D b4 aa au av aH k1_ aI aA) [(0,.p 0 0),(2,.p 1 0),(3,.p 3 0),(29,.v (.int .i64 (((D.f 1).l:Nat):Int))),(30,.v (.int .i64 (IntKind.i64.wrap (((k1_:Nat):Int) + 1))))]
   obtain ⟨cK,aO⟩:=cJ.cutR 1 [⟨aH,aI,37,5,k1_ + 1,xs1_ ++ (z12 D k1_)⟩]
   have cL:IntKind.i64.wrap (((k1_:Nat):Int) + 1) = ((k1_ + 1:Nat):Int):=qaO (by omega)
   rw [cL] at bi
   exact ⟨(D.f 1).l - (k1_ + 1),by omega,k1_ + 1,aH,aI,xs1_ ++ [Value.int .i64 (IntKind.i64.wrap (((D.f 1).f k1_).n)),.slice none 0 0,.bool false,.slice none 0 0,.slice none 0 0],(css1_ ++ [[Value.int .i64 (IntKind.i64.wrap (((D.f 1).f k1_).n)),.slice none 0 0,.bool false,.slice none 0 0,.slice none 0 0]]),rfl,by omega,by rw [qbQ (by omega)]; exact (hT1_.move (((((((((aG.trans ab).trans ai).trans aw).trans aK).trans ak).trans ax).trans aM).trans aN).trans aO).step immM (((((((((aG.trans ab).trans ai).trans aw).trans aK).trans ak).trans ax).trans aM).trans aN).trans aO).to').snoc (x:=(fun i=>Tree.mk (IntKind.i64.wrap ((D.f 1).f i).n) [] false [] []) k1_) (TreeR.mk (n:=IntKind.i64.wrap (((D.f 1).f k1_).n)) (b:=false) (s:=[]) (l:=[]) (u:=[]) (fun _=>[]) (Octs.nil _ _) (Slots.nil _ _ _ _) (fun i_ x_ h_=>by simp at h_) (TagsR.nil _ _)),bi.pk,cK,((((((((((aY.trans aG).trans ab).trans ai).trans aw).trans aK).trans ak).trans ax).trans aM).trans aN).trans aO)⟩
  refine (qao aJ aZ (oi:=4) (cs:=[.bool false]) kz fun fu al bj cM=>?_)
  have cN:=TT.ofW (ab.trans al) bj
  refine ⟨fun _=>cN,?_⟩
  refine qam (i:=1) kz (qao bj cM (oi:=4) (cs:=[.bool true]) kz fun fv ay aD cO=>?_)
  have cP:=TT.ofW ((ab.trans al).trans ay) aD
  refine ⟨fun _=>cP,?_⟩
  refine qam (i:=3) kz (qbf [0,2,3,4,29,30,34] aD.cells cO (env':=(z74 k1_ D)) kz fun fw bk=>?_)
  have cQ:=TT.ofW ((ab.trans al).trans ay) aD
  refine ⟨fun _=>cQ,?_⟩
  refine qaz kz ?_ _
  refine qab (qa7 bk (b:=true) kz rfl ?_)
  refine qaE 19 kz aD fun fx aP bn am=>?_
  refine qaB [0,1,5,6,7,8,9] (z58 D k1_ aa) 13 (qaa (qac (qaa (qaa (qac (qaa qad)))))) (fun _ h=>h.cells) am bk fun fy cR=>?_
  refine qaD cR (i:=2) (t:=34) (A:=(some ⟨aa,0,none⟩)) (m:=2) (q:=1) (d:=37) kz (e:=37) (size:=5) (bytes:=88) (j:=1) kz (b:=aa) (o:=0) rfl rfl (by decide) kz kz (qaa (qac (qaa (qaa (qac (qaa qad)))))) am fun fz cS=>?_
  have cT:=cS.recast 37 (.v (.pointer (some ⟨aa,0 + 1 * 5,none⟩))) (.p 2 5) rfl rfl (zN (n:=3) rfl)
  have cU:=cT.pk (env':=(z55 D k1_ aa))
  refine qaB [3,4,14] (z47 D k1_ aa A1_ c1_) 9 (qaa (qac (qaa (qaa (qac (qaa qad)))))) (fun _ h=>h.cells) am cU fun fA cV=>?_
  obtain ⟨ep,eu,cW,eD,bH⟩:=Slots.get g2 (i:=k1_) (by omega)
  refine qaD cV (i:=10) (t:=87) (A:=(D.f 1).A) (m:=((D.f 1).l)) (q:=((k1_:Nat):Int)) (d:=45) kz (e:=21) (size:=1) (bytes:=4) kz cW rfl (by omega) kz kz (qaa (qac (qaa (qaa (qac (qaa qad)))))) am fun fB cX=>?_
  refine qa0 cX (i:=11) (t:=21) (b:=ep) (o:=eu + k1_ * 1) (d:=46) kz (cs:=[.int .i32 (((D.f 1).f k1_).n)]) (v:=.int .i32 (((D.f 1).f k1_).n)) kz (fun w' h'=>(AtF.move bH (TT.step0 bn h') nilM qa9).at_) kz kz (qaa (qac (qaa (qaa (qac (qaa qad)))))) am fun fC cY=>?_
  refine qaB [12,13] [(0,.p 0 0),(2,.p 1 0),(3,.p 3 0),(29,.v (.int .i64 (((D.f 1).l:Nat):Int))),(30,.v (.int .i64 ((k1_:Nat):Int))),(36,.v (.slice (some ⟨aa,0,none⟩) 2 2)),(39,.v (.slice A1_ k1_ c1_)),(48,.v (.agg #[.int .i64 (IntKind.i64.wrap (((D.f 1).f k1_).n)),.slice none 0 0,.bool false,.slice none 0 0,.slice none 0 0])),(49,.v (.int .i64 ((k1_:Nat):Int)))] 5 (qaa (qac (qaa (qaa (qac (qaa qad)))))) (fun _ h=>h.cells) am cY fun fD cZ=>?_
  refine qam (i:=15) kz (qbu bn cZ (e:=37) (size:=5) (len:=1) (cs:=z0) (d:=50) kz kz fun bI fE fF eE eF ao aE c5=>?_)
  have c6:=TT.ofW ao aE
  refine ⟨fun _=>c6,?_⟩
  refine qam (i:=16) kz (qaR aE c5 (k:=0) (d:=51) (t:=34) (e:=37) (size:=5) (bytes:=88) (A:=A1_) (As:=(some ⟨bI,0,none⟩)) (m0:=k1_) (c:=c1_) (m:=1) (cs:=1) (xs:=xs1_) (news:=z0) kz kz rfl (qby (aE.own 1 _ rfl) (qbw kz)) (qbE (aE.own 1 _ rfl)) (by omega) fun ac ag fG fH az aQ da=>?_)
  have db:=TT.ofW (ao.trans az) aQ
  refine ⟨fun _=>db,?_⟩
  refine qam (i:=17) kz (qax da (t:=34) (A:=(some ⟨aa,0,none⟩)) (m:=2) (q:=1) (d:=52) kz (e:=37) (size:=5) (bytes:=88) (j:=1) kz (b:=aa) (o:=0) rfl rfl (by decide) fun fI dc=>?_)
  have de:=dc.recast 52 (.v (.pointer (some ⟨aa,0 + 1 * 5,none⟩))) (.p 2 5) rfl rfl (zN (n:=3) rfl)
  have df:=de.pk (env':=[(0,.p 0 0),(2,.p 1 0),(3,.p 3 0),(29,.v (.int .i64 (((D.f 1).l:Nat):Int))),(30,.v (.int .i64 ((k1_:Nat):Int))),(36,.v (.slice (some ⟨aa,0,none⟩) 2 2)),(39,.v (.slice A1_ k1_ c1_)),(48,.v (.agg #[.int .i64 (IntKind.i64.wrap (((D.f 1).f k1_).n)),.slice none 0 0,.bool false,.slice none 0 0,.slice none 0 0])),(49,.v (.int .i64 ((k1_:Nat):Int))),(50,.v (.slice (some ⟨bI,0,none⟩) 1 1)),(51,.v (.slice ac (k1_ + 1) ag)),(52,.p 2 5)])
  have bo:=TT.ofW (ao.trans az) aQ
  refine ⟨fun _=>bo,?_⟩
  refine qaB [18] [(0,.p 0 0),(2,.p 1 0),(3,.p 3 0),(29,.v (.int .i64 (((D.f 1).l:Nat):Int))),(30,.v (.int .i64 ((k1_:Nat):Int))),(48,.v (.agg #[.int .i64 (IntKind.i64.wrap (((D.f 1).f k1_).n)),.slice none 0 0,.bool false,.slice none 0 0,.slice none 0 0])),(49,.v (.int .i64 ((k1_:Nat):Int))),(51,.v (.slice ac (k1_ + 1) ag)),(53,.p 2 8)] 1 (qaa (qac (qaa (qaa (qac (qaa qad)))))) (fun _ h=>h.cells) bo df fun fJ dg=>?_
  refine qam (i:=19) kz (qao aQ dg (oi:=2) (cs:=(z9 au D av ac k1_ ag)) kz fun ev aR bp dh=>?_)
  refine ⟨fun h=>absurd rfl h,?_⟩
  refine qaz kz ?_ _
  refine qab (qap [0,1] kz ?_)
  have di:World.ownsRow ev 0 37 5 (.slice ac (k1_ + 1) ag) (k1_ + 1) (xs1_ ++ z0):=bp.own 0 _ rfl
  obtain ⟨dj,bq⟩:=qbX di (by omega)
  refine qal (qax dh (t:=34) (A:=ac) (m:=(k1_ + 1)) (q:=((k1_:Nat):Int)) (d:=54) kz (e:=37) (size:=5) (bytes:=88) kz (b:=dj) (o:=0) (j:=k1_) bq (rfl) (by omega) fun fK dl=>?_)
  refine qal (qbL bp dl (k:=0) (g:=dj) (o:=k1_ * 5) (c:=ag) (m:=(k1_ + 1)) (size:=5) (e:=37) (A:=ac) (xs:=(xs1_ ++ [.int .i64 0,.slice none 0 0,.bool false,.slice none 0 0,.slice none 0 0])) (vs:=[.int .i64 (IntKind.i64.wrap (((D.f 1).f k1_).n)),.slice none 0 0,.bool false,.slice none 0 0,.slice none 0 0]) kz rfl bq (by simp only [List.length_cons,List.length_nil]; omega) fun fL aS dp dq=>?_)
  have dr:(⟨ac,ag,37,5,k1_ + 1,qbt (xs1_ ++ [.int .i64 0,.slice none 0 0,.bool false,.slice none 0 0,.slice none 0 0]) (k1_ * 5) [.int .i64 (IntKind.i64.wrap (((D.f 1).f k1_).n)),.slice none 0 0,.bool false,.slice none 0 0,.slice none 0 0]⟩:Rw) = ⟨ac,ag,37,5,k1_ + 1,xs1_ ++ [.int .i64 (IntKind.i64.wrap (((D.f 1).f k1_).n)),.slice none 0 0,.bool false,.slice none 0 0,.slice none 0 0]⟩:=by rw [qcn (by rw [hT1_.xslen,List.length_take,qbG]; omega)]
  obtain ⟨bt,aT⟩:=dp.rowEq 0 [⟨ac,ag,37,5,k1_ + 1,xs1_ ++ (z12 D k1_)⟩,⟨some ⟨bI,0,none⟩,1,37,5,1,z0⟩] dr
  refine qae (qar (qab (qap [0,1] kz ?_)))
  refine qai [0,1] [] [(0,.p 0 0),(2,.p 1 0),(3,.p 3 0),(29,.v (.int .i64 (((D.f 1).l:Nat):Int))),(30,.v (.int .i64 (IntKind.i64.wrap (((k1_:Nat):Int) + 1))))] bt dq fun fM dt=>?_
  refine qae (qab ?_)
  obtain ⟨bu,du,aU⟩:=bt.cutB dt 4 (z10 b o D b4 aa au av ac k1_ ag aA) [(0,.p 0 0),(2,.p 1 0),(3,.p 3 0),(29,.v (.int .i64 (((D.f 1).l:Nat):Int))),(30,.v (.int .i64 (IntKind.i64.wrap (((k1_:Nat):Int) + 1))))]
  obtain ⟨dv,aV⟩:=du.cutR 1 [⟨ac,ag,37,5,k1_ + 1,xs1_ ++ (z12 D k1_)⟩]
  have dw:IntKind.i64.wrap (((k1_:Nat):Int) + 1) = ((k1_ + 1:Nat):Int):=qaO (by omega)
  rw [dw] at bu
  exact ⟨(D.f 1).l - (k1_ + 1),by omega,k1_ + 1,ac,ag,xs1_ ++ [Value.int .i64 (IntKind.i64.wrap (((D.f 1).f k1_).n)),.slice none 0 0,.bool false,.slice none 0 0,.slice none 0 0],(css1_ ++ [[Value.int .i64 (IntKind.i64.wrap (((D.f 1).f k1_).n)),.slice none 0 0,.bool false,.slice none 0 0,.slice none 0 0]]),rfl,by omega,by rw [qbQ (by omega)]; exact (hT1_.move (((((((((((aG.trans ab).trans al).trans ay).trans aP).trans ao).trans az).trans aR).trans aS).trans aT).trans aU).trans aV).step immM (((((((((((aG.trans ab).trans al).trans ay).trans aP).trans ao).trans az).trans aR).trans aS).trans aT).trans aU).trans aV).to').snoc (x:=(fun i=>Tree.mk (IntKind.i64.wrap ((D.f 1).f i).n) [] false [] []) k1_) (TreeR.mk (n:=IntKind.i64.wrap (((D.f 1).f k1_).n)) (b:=false) (s:=[]) (l:=[]) (u:=[]) (fun _=>[]) (Octs.nil _ _) (Slots.nil _ _ _ _) (fun i_ x_ h_=>by simp at h_) (TagsR.nil _ _)),bu.pk,dv,((((((((((((aY.trans aG).trans ab).trans al).trans ay).trans aP).trans ao).trans az).trans aR).trans aS).trans aT).trans aU).trans aV)⟩
 have eG:=zF bF
 refine wp_exit (qau (qau (qaI (qab (qaf [0,1,2,3,4] kz ?_)))))
 refine qai [0,1,2] [3,4] [(2,.p 1 0),(3,.p 3 0),(78,.p 0 2)] ah bE fun fN dx=>?_
 refine qal (qeD dx (v:=.func (.func 137) #[] #[.pointer (some ⟨aA,0,none⟩)]) (d:=79) kz fun fO dy=>?_)
 refine qal (qak dy (f:=59) (vs:=[.pointer (some ⟨b,o + 2,none⟩),.func (.func 137) #[] #[.pointer (some ⟨aA,0,none⟩)]]) (d:=80) kz Tryz.call59 (qeP (F:=(Imm F w eP [⟨b,o,(z27 D),false⟩,⟨b4,0,z0,true⟩,⟨aa,0,(z26 au D av A1_ k1_ c1_),true⟩,⟨aA,0,(z43 aa),true⟩] [⟨A1_,c1_,37,5,k1_,xs1_⟩])) Tryz.call137 qb8 ((hat.one 2 rfl).move ah.step nilM ah.imm) (g3.move ah.step nilM ah.imm) (Str.of ah 3 rfl) (qjG 3 rfl) g3l) ?_)
 rintro e_ fP ⟨rfl,ae,af,bJ,dz,dA⟩
 obtain ⟨aW,aF,dB⟩:=ah.wrote 3 [⟨b,o,(z27 D),false⟩,⟨b4,0,z0,true⟩,⟨aa,0,(z26 au D av A1_ k1_ c1_),true⟩,⟨aA,0,(z51 aa ae D af),true⟩] rfl dA bJ
 have bw:=dz.move (Step.refl _ Nil) nilM (fun b_ o_ h_ hb_=>dB (G:=F) b_ o_ (.inr h_) hb_)
 refine ⟨_,rfl,fun fQ dC=>?_⟩
 have dD:=(EnvOk.places (tb':=[⟨b,o,[.string ((D.f 0).s),.slice ((D.f 1).A) ((D.f 1).l) ((D.f 1).c),.map D.m],false⟩,⟨b4,0,[.int .i64 0,.slice none 0 0,.bool false,.slice none 0 0,.slice none 0 0],true⟩,⟨aa,0,[.int .i64 0,.slice (some ⟨au,0,none⟩) ((sb ((D.f 0).s)).length) av,.bool false,.slice none 0 0,.slice none 0 0,.int .i64 0,.slice none 0 0,.bool (((D.f 1).A).isNone),.slice A1_ k1_ c1_,.slice none 0 0],true⟩,⟨aA,0,[.int .i64 0,.slice none 0 0,.bool false,.slice (some ⟨aa,0,none⟩) 2 2,.slice ae D.u.length af],true⟩]) dC (show Pl [⟨b,o,[.string ((D.f 0).s),.slice ((D.f 1).A) ((D.f 1).l) ((D.f 1).c),.map D.m],false⟩,⟨b4,0,[.int .i64 0,.slice none 0 0,.bool false,.slice none 0 0,.slice none 0 0],true⟩,⟨aa,0,[.int .i64 0,.slice (some ⟨au,0,none⟩) ((sb ((D.f 0).s)).length) av,.bool false,.slice none 0 0,.slice none 0 0,.int .i64 0,.slice none 0 0,.bool (((D.f 1).A).isNone),.slice A1_ k1_ c1_,.slice none 0 0],true⟩,⟨aA,0,[.int .i64 0,.slice none 0 0,.bool false,.slice (some ⟨aa,0,none⟩) 2 2,.slice none 0 0],true⟩] [⟨b,o,[.string ((D.f 0).s),.slice ((D.f 1).A) ((D.f 1).l) ((D.f 1).c),.map D.m],false⟩,⟨b4,0,[.int .i64 0,.slice none 0 0,.bool false,.slice none 0 0,.slice none 0 0],true⟩,⟨aa,0,[.int .i64 0,.slice (some ⟨au,0,none⟩) ((sb ((D.f 0).s)).length) av,.bool false,.slice none 0 0,.slice none 0 0,.int .i64 0,.slice none 0 0,.bool (((D.f 1).A).isNone),.slice A1_ k1_ c1_,.slice none 0 0],true⟩,⟨aA,0,[.int .i64 0,.slice none 0 0,.bool false,.slice (some ⟨aa,0,none⟩) 2 2,.slice ae D.u.length af],true⟩] from ⟨rfl,rfl,⟨rfl,rfl,⟨rfl,rfl,⟨rfl,rfl,trivial⟩⟩⟩⟩)).pk (env':=[(80,.v (.tuple #[])),(2,.p 1 0),(3,.p 3 0),(78,.p 0 2),(79,.v (.func (.func 137) #[] #[.pointer (some ⟨aA,0,none⟩)]))])
 refine qae (qab ?_)
 refine qaf [0,1,2] kz ?_
 refine qai [0,1] [2] [(2,.p 1 0),(3,.p 3 0),(82,.v (.slice ae D.u.length af))] aW dD fun fR dE=>?_
 refine qal (qak dE (f:=61) (vs:=[.slice ae D.u.length af]) (d:=83) kz Tryz.call61 (qgC bw g3.sorted) ?_)
 rintro e_ fS ⟨rfl,bx⟩
 refine ⟨_,rfl,fun fT dF=>?_⟩
 have bz:=aW.next_nil bx
 have ap:=aW.frN bx
 refine qae (qab ?_)
 refine qaf [0,1] kz ?_
 refine qai [0] [1] (z102 aa ae D af) bz dF fun fU dG=>?_
 refine qal (qao bz dG (oi:=1) (cs:=(z51 aa ae D af)) kz fun dH ar aX dI=>?_)
 refine qae (qab ?_)
 refine wp_ret (qaM dI aX.cells (v:=.agg #[.int .i64 0,.slice none 0 0,.bool false,.slice (some ⟨aa,0,none⟩) 2 2,.slice ae D.u.length af]) kz ?_)
 have bA:=(hT1_.move ((aF.trans ap).trans ar).step immM ((aF.trans ap).trans ar).to')
 rw [qeQ (by omega)] at bA
 exact qfq (u:=D.u) (l:=[.mk 0 (sb (D.f 0).s) false [] [],.mk 0 [] (D.f 1).A.isNone ((List.range (D.f 1).l).map fun i=>.mk (IntKind.i64.wrap ((D.f 1).f i).n) [] false [] []) []]) (css:=[[.int .i64 0,.slice (some ⟨au,0,none⟩) ((sb ((D.f 0).s)).length) av,.bool false,.slice none 0 0,.slice none 0 0],[.int .i64 0,.slice none 0 0,.bool (((D.f 1).A).isNone),.slice A1_ k1_ c1_,.slice none 0 0]]) aX 2 rfl ⟨(show TreeR _ (Imm F w dH [⟨b,o,[.string ((D.f 0).s),.slice ((D.f 1).A) ((D.f 1).l) ((D.f 1).c),.map D.m],false⟩,⟨b4,0,[.int .i64 0,.slice none 0 0,.bool false,.slice (some ⟨aa,0,none⟩) 2 2,.slice ae D.u.length af],true⟩,⟨aa,0,[.int .i64 0,.slice (some ⟨au,0,none⟩) ((sb ((D.f 0).s)).length) av,.bool false,.slice none 0 0,.slice none 0 0,.int .i64 0,.slice none 0 0,.bool (((D.f 1).A).isNone),.slice A1_ k1_ c1_,.slice none 0 0],true⟩,⟨aA,0,[.int .i64 0,.slice none 0 0,.bool false,.slice (some ⟨aa,0,none⟩) 2 2,.slice ae D.u.length af],true⟩] [⟨A1_,c1_,37,5,k1_,xs1_⟩]) _ _ from (TreeR.mk (n:=0) (b:=false) (s:=(sb ((D.f 0).s))) (l:=[]) (u:=[]) (fun _=>[]) (dX.move (((((((bM.trans bN).trans bO).trans bQ).trans aY).trans aF).trans ap).trans ar).step immM (((((((bM.trans bN).trans bO).trans bQ).trans aY).trans aF).trans ap).trans ar).to') (Slots.nil _ _ _ _) (fun i_ x_ h_=>by simp at h_) (TagsR.nil _ _))).move (Step.refl _ Nil) nilM qca,qdQ aX (k:=0) rfl bA (by rw [qbG]; omega) (by rw [qbG]; omega),trivial⟩ ((show TagsR _ (Imm F w dH [⟨b,o,[.string ((D.f 0).s),.slice ((D.f 1).A) ((D.f 1).l) ((D.f 1).c),.map D.m],false⟩,⟨b4,0,[.int .i64 0,.slice none 0 0,.bool false,.slice (some ⟨aa,0,none⟩) 2 2,.slice ae D.u.length af],true⟩,⟨aa,0,[.int .i64 0,.slice (some ⟨au,0,none⟩) ((sb ((D.f 0).s)).length) av,.bool false,.slice none 0 0,.slice none 0 0,.int .i64 0,.slice none 0 0,.bool (((D.f 1).A).isNone),.slice A1_ k1_ c1_,.slice none 0 0],true⟩,⟨aA,0,[.int .i64 0,.slice none 0 0,.bool false,.slice (some ⟨aa,0,none⟩) 2 2,.slice ae D.u.length af],true⟩] [⟨A1_,c1_,37,5,k1_,xs1_⟩]) _ _ _ from (bw.move (ap.trans ar).step immM (ap.trans ar).to')).move (Step.refl _ Nil) nilM qca)
abbrev z5 (x0) (x1:DV) (x2) (x3) (x4) (x5) (x6) (x7) (x8) (x9) (x10) (x11) (x12) (x13) (x14) (x15) (x16):=([.int .i64 0,.slice (some ⟨x0,0,none⟩) ((sb ((x1.f 0).s)).length) x2,.bool false,.slice none 0 0,.slice none 0 0,.int .i64 ((x1.f 1).n),.slice none 0 0,.bool false,.slice none 0 0,.slice none 0 0,.int .i64 (IntKind.i64.wrap ((x1.f 2).n)),.slice none 0 0,.bool false,.slice none 0 0,.slice none 0 0,.int .i64 x3,.slice x4 x5 x6,.bool x7,.slice x8 x9 x10,.slice x11 x12 x13,.int .i64 0,.slice none 0 0,.bool (((x1.f 4).A).isNone),.slice x14 (x15 + 1) x16,.slice none 0 0]:List Value)
abbrev z13 (x0:DV):=([.string ((x0.f 0).s),.int .i64 ((x0.f 1).n),.int .i16 ((x0.f 2).n),.bool ((x0.f 3).b),.slice ((x0.f 4).A) ((x0.f 4).l) ((x0.f 4).c),.map x0.m]:List Value)
abbrev z11 (x0):=([.int .i64 0,.slice none 0 0,.bool false,.slice (some ⟨x0,0,none⟩) 5 5,.slice none 0 0]:List Value)
abbrev z14 (x0) (x1:DV) (x2):=([.int .i64 0,.slice (some ⟨x0,0,none⟩) ((sb ((x1.f 0).s)).length) x2,.bool false,.slice none 0 0,.slice none 0 0,.int .i64 ((x1.f 1).n),.slice none 0 0,.bool false,.slice none 0 0,.slice none 0 0,.int .i64 (IntKind.i64.wrap ((x1.f 2).n)),.slice none 0 0,.bool false,.slice none 0 0,.slice none 0 0,.int .i64 0,.slice none 0 0,.bool false,.slice none 0 0,.slice none 0 0,.int .i64 0,.slice none 0 0,.bool false,.slice none 0 0,.slice none 0 0]:List Value)
abbrev z31 (x0) (x1:DV) (x2):=([.int .i64 0,.slice (some ⟨x0,0,none⟩) ((sb ((x1.f 0).s)).length) x2,.bool false,.slice none 0 0,.slice none 0 0,.int .i64 0,.slice none 0 0,.bool false,.slice none 0 0,.slice none 0 0,.int .i64 0,.slice none 0 0,.bool false,.slice none 0 0,.slice none 0 0,.int .i64 0,.slice none 0 0,.bool false,.slice none 0 0,.slice none 0 0,.int .i64 0,.slice none 0 0,.bool false,.slice none 0 0,.slice none 0 0]:List Value)
abbrev z30 (x0) (x1:DV) (x2):=([.int .i64 0,.slice (some ⟨x0,0,none⟩) ((sb ((x1.f 0).s)).length) x2,.bool false,.slice none 0 0,.slice none 0 0,.int .i64 ((x1.f 1).n),.slice none 0 0,.bool false,.slice none 0 0,.slice none 0 0,.int .i64 0,.slice none 0 0,.bool false,.slice none 0 0,.slice none 0 0,.int .i64 0,.slice none 0 0,.bool false,.slice none 0 0,.slice none 0 0,.int .i64 0,.slice none 0 0,.bool false,.slice none 0 0,.slice none 0 0]:List Value)
abbrev z32 :=([.int .i64 0,.slice none 0 0,.bool false,.slice none 0 0,.slice none 0 0,.int .i64 0,.slice none 0 0,.bool false,.slice none 0 0,.slice none 0 0,.int .i64 0,.slice none 0 0,.bool false,.slice none 0 0,.slice none 0 0,.int .i64 0,.slice none 0 0,.bool false,.slice none 0 0,.slice none 0 0,.int .i64 0,.slice none 0 0,.bool false,.slice none 0 0,.slice none 0 0]:List Value)
abbrev z45 (x0) (x1:DV) (x2) (x3) (x4) (x5) (x6) (x7) (x8) (x9) (x10) (x11) (x12) (x13) (x14) (x15) (x16):=([.int .i64 0,.slice (some ⟨x0,0,none⟩) ((sb ((x1.f 0).s)).length) x2,.bool false,.slice none 0 0,.slice none 0 0,.int .i64 ((x1.f 1).n),.slice none 0 0,.bool false,.slice none 0 0,.slice none 0 0,.int .i64 (IntKind.i64.wrap ((x1.f 2).n)),.slice none 0 0,.bool false,.slice none 0 0,.slice none 0 0,.int .i64 x3,.slice x4 x5 x6,.bool x7,.slice x8 x9 x10,.slice x11 x12 x13,.int .i64 0,.slice none 0 0,.bool (((x1.f 4).A).isNone),.slice x14 x15 x16,.slice none 0 0]:List Value)
abbrev z52 (x0) (x1) (x2:DV) (x3):=([.int .i64 0,.slice none 0 0,.bool false,.slice (some ⟨x0,0,none⟩) 5 5,.slice x1 x2.u.length x3]:List Value)
abbrev z81 (x0) (x1) (x2):=([.pointer (some ⟨x0,x1 + x2 * 3,none⟩)]:List Value)
set_option maxHeartbeats 4000000 in
theorem qbv (v:Int) (D:DV) (b o:Nat) (w:World) (F:Nat → Nat → Prop) (hat:AtF w F b o [.string ((D.f 0).s),.int .i64 ((D.f 1).n),.int .i16 ((D.f 2).n),.bool ((D.f 3).b),.slice ((D.f 4).A) ((D.f 4).l) ((D.f 4).c),.map D.m]) (hok:qaL w F D):Calls Tryz.prog 58 #[.pointer (some ⟨b,o,none⟩)] w (qdK w F (qaT D)):=by
 refine enter (n:=106) Tryz.func58 rfl Tryz.ntmps58 kz fun a hE=>?_
 have hW:WOk w Nil w [⟨b,o,(z13 D),false⟩] []:=(WOk.start w Nil).start1 hat rfl rfl
 unfold qaL at hok
 obtain ⟨g1,g2,g3,g4,⟨g5,g5l,g5e⟩,g6,g6l,g6x,_⟩:=hok
 have hE0:=(EnvOk.ptr0 (cs:=(z13 D)) (r:=false) hE).pk (env':=[(0,.p 0 0)])
 refine qaf [0] kz ?_
 refine qal (qaQ hW hE0 (d:=2) (cs:=z0) kz fun b7 a8 w9 jd je jf gA gB=>?_)
 refine qae (qab ?_)
 refine qaf [0,1,2,3] kz ?_
 refine qal (qeb (t:=34) (e:=37) (size:=5) (bytes:=88) (d:=5) (j:=5) (.agg #[.int .i64 0,.slice none 0 0,.bool false,.slice none 0 0,.slice none 0 0]) z32 gA gB fun aa kT kU jg jh ji dU gC=>?_)
 refine qai [1] [2,3] [(0,.p 0 0),(2,.p 1 0),(6,.v (.agg #[.int .i64 0,.slice none 0 0,.bool false,.slice (some ⟨aa,0,none⟩) 5 5,.slice none 0 0]))] dU gC fun kV gD=>?_
 refine qal (qaQ dU gD (d:=3) (cs:=z0) kz fun aW kW kX jj jk jl gE gF=>?_)
 refine qal (qao gE gF (oi:=3) (cs:=(z11 aa)) kz fun kY jm gG gH=>?_)
 refine qae (qab ?_)
 refine qaE 9 kz gG fun kZ jn gI gJ=>?_
 refine qaB [0,1,2,3,4,5] [(0,.p 0 0),(2,.p 1 0),(3,.p 3 0),(8,.v (.slice (some ⟨aa,0,none⟩) 5 5)),(12,.v (.string ((D.f 0).s)))] 4 (qaa qad) (fun _ h=>h.cells) gJ gH fun k5 gK=>?_
 refine qam (i:=6) kz (qec (d:=13) (src:=9) (dst:=22) (e:=5) (s:=((D.f 0).s)) gI gK (by omega) fun ax ay k6 k7 gL dV gM gN=>?_)
 have gO:=gM F
 have dN:=TT.ofW gL dV
 refine ⟨fun _=>dN,?_⟩
 refine qaB [7] [(0,.p 0 0),(2,.p 1 0),(3,.p 3 0),(8,.v (.slice (some ⟨aa,0,none⟩) 5 5)),(14,.v (.agg #[.int .i64 0,.slice (some ⟨ax,0,none⟩) ((sb ((D.f 0).s)).length) ay,.bool false,.slice none 0 0,.slice none 0 0]))] 2 (qaa qad) (fun _ h=>h.cells) dN gN fun k8 gP=>?_
 refine qaD gP (i:=8) (t:=34) (A:=(some ⟨aa,0,none⟩)) (m:=5) (q:=0) (d:=15) kz (e:=37) (size:=5) (bytes:=88) (j:=0) kz (b:=aa) (o:=0) rfl rfl (by decide) kz kz (qaa qad) dN fun k9 gQ=>?_
 have gR:=gQ.recast 15 (.v (.pointer (some ⟨aa,0 + 0 * 5,none⟩))) (.p 2 0) rfl rfl (zN (n:=3) rfl)
 have gS:=gR.pk (env':=[(0,.p 0 0),(2,.p 1 0),(3,.p 3 0),(8,.v (.slice (some ⟨aa,0,none⟩) 5 5)),(14,.v (.agg #[.int .i64 0,.slice (some ⟨ax,0,none⟩) ((sb ((D.f 0).s)).length) ay,.bool false,.slice none 0 0,.slice none 0 0])),(15,.p 2 0)])
 refine qam (i:=9) kz (qao dV gS (oi:=2) (cs:=(z31 ax D ay)) kz fun la dW gT gU=>?_)
 refine ⟨fun h=>absurd rfl h,?_⟩
 refine qaz kz ?_ _
 refine qab (qaE 8 kz gT fun lb dX gV dY=>?_)
 refine qaB [0,1,2,3,4,5,6] [(0,.p 0 0),(2,.p 1 0),(3,.p 3 0),(17,.v (.slice (some ⟨aa,0,none⟩) 5 5)),(22,.v (.agg #[.int .i64 ((D.f 1).n),.slice none 0 0,.bool false,.slice none 0 0,.slice none 0 0]))] 2 (qaa qad) (fun _ h=>h.cells) dY gU fun lc gW=>?_
 refine qaD gW (i:=7) (t:=34) (A:=(some ⟨aa,0,none⟩)) (m:=5) (q:=1) (d:=23) kz (e:=37) (size:=5) (bytes:=88) (j:=1) kz (b:=aa) (o:=0) rfl rfl (by decide) kz kz (qaa qad) dY fun ld gX=>?_
 have gY:=gX.recast 23 (.v (.pointer (some ⟨aa,0 + 1 * 5,none⟩))) (.p 2 5) rfl rfl (zN (n:=3) rfl)
 have gZ:=gY.pk (env':=[(0,.p 0 0),(2,.p 1 0),(3,.p 3 0),(17,.v (.slice (some ⟨aa,0,none⟩) 5 5)),(22,.v (.agg #[.int .i64 ((D.f 1).n),.slice none 0 0,.bool false,.slice none 0 0,.slice none 0 0])),(23,.p 2 5)])
 refine qam (i:=8) kz (qao gV gZ (oi:=2) (cs:=(z30 ax D ay)) kz fun lf dZ g7 g8=>?_)
 refine ⟨fun h=>absurd rfl h,?_⟩
 refine qaz kz ?_ _
 refine qab (qaE 9 kz g7 fun lg d5 g9 d6=>?_)
 refine qaB [0,1,2,3,4,5,6,7] [(0,.p 0 0),(2,.p 1 0),(3,.p 3 0),(25,.v (.slice (some ⟨aa,0,none⟩) 5 5)),(31,.v (.agg #[.int .i64 (IntKind.i64.wrap ((D.f 2).n)),.slice none 0 0,.bool false,.slice none 0 0,.slice none 0 0]))] 2 (qaa qad) (fun _ h=>h.cells) d6 g8 fun lh hC=>?_
 refine qaD hC (i:=8) (t:=34) (A:=(some ⟨aa,0,none⟩)) (m:=5) (q:=2) (d:=32) kz (e:=37) (size:=5) (bytes:=88) (j:=2) kz (b:=aa) (o:=0) rfl rfl (by decide) kz kz (qaa qad) d6 fun li hJ=>?_
 have hK:=hJ.recast 32 (.v (.pointer (some ⟨aa,0 + 2 * 5,none⟩))) (.p 2 10) rfl rfl (zN (n:=3) rfl)
 have hZ:=hK.pk (env':=[(0,.p 0 0),(2,.p 1 0),(3,.p 3 0),(25,.v (.slice (some ⟨aa,0,none⟩) 5 5)),(31,.v (.agg #[.int .i64 (IntKind.i64.wrap ((D.f 2).n)),.slice none 0 0,.bool false,.slice none 0 0,.slice none 0 0])),(32,.p 2 10)])
 refine qam (i:=9) kz (qao g9 hZ (oi:=2) (cs:=(z14 ax D ay)) kz fun lj d7 ia ib=>?_)
 refine ⟨fun h=>absurd rfl h,?_⟩
 refine qaz kz ?_ _
 refine qab (qaE 8 kz ia fun jo d8 dO ic=>?_)
 refine qaB [0,1,2,3,4,5] [(0,.p 0 0),(2,.p 1 0),(3,.p 3 0),(34,.v (.slice (some ⟨aa,0,none⟩) 5 5)),(38,.v (.bool ((D.f 3).b)))] 3 (qaa qad) (fun _ h=>h.cells) ic ib fun lm ig=>?_
 refine qam (i:=6) kz (qak ig (f:=101) (vs:=[.bool ((D.f 3).b)]) (d:=39) kz Tryz.call101 (ql7 _ _ (Imm F w jo [⟨b,o,(z13 D),false⟩,⟨b7,0,z0,true⟩,⟨aa,0,(z14 ax D ay),true⟩,⟨aW,0,(z11 aa),true⟩] [])) ?_)
 rintro e_ jp ⟨jq,rfl,ii,dP⟩
 have cG:=ii.move (Step.refl _ Nil) nilM (dO.laid (G:=F) dP)
 obtain ⟨ac,ae,af,ag,ah,ai,aj,ak,al,am,ao,iF,iG,cH,ij,ik,jr,js⟩:=cG.open_
 rw [cH] at cG
 have il:=ij.small
 have im:=ik.small
 rw [cH]
 refine ⟨_,rfl,fun jt d9=>?_⟩
 have dg:=dO.next_nil dP
 have cI:=dO.frN dP
 have dh:=TT.ofW cI dg
 refine ⟨fun _=>dh,?_⟩
 refine qaD d9 (i:=7) (t:=34) (A:=(some ⟨aa,0,none⟩)) (m:=5) (q:=3) (d:=40) kz (e:=37) (size:=5) (bytes:=88) (j:=3) kz (b:=aa) (o:=0) rfl rfl (by decide) kz kz (qaa qad) dh fun ju ea=>?_
 have eb:=ea.recast 40 (.v (.pointer (some ⟨aa,0 + 3 * 5,none⟩))) (.p 2 15) rfl rfl (zN (n:=3) rfl)
 have ec:=eb.pk (env':=[(0,.p 0 0),(2,.p 1 0),(3,.p 3 0),(34,.v (.slice (some ⟨aa,0,none⟩) 5 5)),(38,.v (.bool ((D.f 3).b))),(39,.v (.agg #[.int .i64 ac,.slice ai ae.length aj,.bool af,.slice ak ag.length al,.slice am ah.length ao])),(40,.p 2 15)])
 refine qam (i:=8) kz (qao dg ec (oi:=2) (cs:=[.int .i64 0,.slice (some ⟨ax,0,none⟩) ((sb ((D.f 0).s)).length) ay,.bool false,.slice none 0 0,.slice none 0 0,.int .i64 ((D.f 1).n),.slice none 0 0,.bool false,.slice none 0 0,.slice none 0 0,.int .i64 (IntKind.i64.wrap ((D.f 2).n)),.slice none 0 0,.bool false,.slice none 0 0,.slice none 0 0,.int .i64 ac,.slice ai ae.length aj,.bool af,.slice ak ag.length al,.slice am ah.length ao,.int .i64 0,.slice none 0 0,.bool false,.slice none 0 0,.slice none 0 0]) kz fun jv bQ ee ef=>?_)
 refine ⟨fun h=>absurd rfl h,?_⟩
 refine qaz kz ?_ _
 refine qab (qaE 9 kz ee fun jw bR eg cJ=>?_)
 refine qaB [0,1,2,3,4,5,6] [(0,.p 0 0),(2,.p 1 0),(3,.p 3 0),(42,.v (.slice (some ⟨aa,0,none⟩) 5 5)),(47,.v (.bool (((D.f 4).A).isNone)))] 3 (qaa qad) (fun _ h=>h.cells) cJ ef fun jx eh=>?_
 refine qam (i:=7) kz (qax eh (t:=34) (A:=(some ⟨aa,0,none⟩)) (m:=5) (q:=4) (d:=48) kz (e:=37) (size:=5) (bytes:=88) (j:=4) kz (b:=aa) (o:=0) rfl rfl (by decide) fun jy ei=>?_)
 have ej:=ei.recast 48 (.v (.pointer (some ⟨aa,0 + 4 * 5,none⟩))) (.p 2 20) rfl rfl (zN (n:=3) rfl)
 have ek:=ej.pk (env':=[(0,.p 0 0),(2,.p 1 0),(3,.p 3 0),(42,.v (.slice (some ⟨aa,0,none⟩) 5 5)),(47,.v (.bool (((D.f 4).A).isNone))),(48,.p 2 20)])
 refine ⟨fun _=>cJ,?_⟩
 refine qaB [8] [(0,.p 0 0),(2,.p 1 0),(3,.p 3 0),(47,.v (.bool (((D.f 4).A).isNone))),(49,.p 2 22)] 1 (qaa qad) (fun _ h=>h.cells) cJ ek fun jz em=>?_
 refine qam (i:=9) kz (qao eg em (oi:=2) (cs:=[.int .i64 0,.slice (some ⟨ax,0,none⟩) ((sb ((D.f 0).s)).length) ay,.bool false,.slice none 0 0,.slice none 0 0,.int .i64 ((D.f 1).n),.slice none 0 0,.bool false,.slice none 0 0,.slice none 0 0,.int .i64 (IntKind.i64.wrap ((D.f 2).n)),.slice none 0 0,.bool false,.slice none 0 0,.slice none 0 0,.int .i64 ac,.slice ai ae.length aj,.bool af,.slice ak ag.length al,.slice am ah.length ao,.int .i64 0,.slice none 0 0,.bool (((D.f 4).A).isNone),.slice none 0 0,.slice none 0 0]) kz fun jA bS cK eo=>?_)
 refine ⟨fun h=>absurd rfl h,?_⟩
 refine qaz kz ?_ _
 refine qab (wp_seq (qas [(0,.p 0 0),(2,.p 1 0),(3,.p 3 0),(54,.v (.int .i64 (((D.f 4).l:Nat):Int))),(55,.v (.int .i64 0))] cK eo fun jB ep=>?_))
 refine wp_block ?_
 have di:=cK.addNil 37 5
 have bT:=cK.frNil 37 5
 refine wp_loop_ghost (fun n_ a_ w_=>∃ (k4_:Nat) (A4_:Option Addr) (c4_:Nat) (xs4_:List Value) (css4_:List (List Value)),n_ = (D.f 4).l - k4_ ∧ k4_ ≤ (D.f 4).l ∧ (Trees w_ (Imm F w w_ [⟨b,o,[.string ((D.f 0).s),.int .i64 ((D.f 1).n),.int .i16 ((D.f 2).n),.bool ((D.f 3).b),.slice ((D.f 4).A) ((D.f 4).l) ((D.f 4).c),.map D.m],false⟩,⟨b7,0,[.int .i64 0,.slice none 0 0,.bool false,.slice none 0 0,.slice none 0 0],true⟩,⟨aa,0,[.int .i64 0,.slice (some ⟨ax,0,none⟩) ((sb ((D.f 0).s)).length) ay,.bool false,.slice none 0 0,.slice none 0 0,.int .i64 ((D.f 1).n),.slice none 0 0,.bool false,.slice none 0 0,.slice none 0 0,.int .i64 (IntKind.i64.wrap ((D.f 2).n)),.slice none 0 0,.bool false,.slice none 0 0,.slice none 0 0,.int .i64 ac,.slice ai ae.length aj,.bool af,.slice ak ag.length al,.slice am ah.length ao,.int .i64 0,.slice none 0 0,.bool (((D.f 4).A).isNone),.slice A4_ k4_ c4_,.slice none 0 0],true⟩,⟨aW,0,[.int .i64 0,.slice none 0 0,.bool false,.slice (some ⟨aa,0,none⟩) 5 5,.slice none 0 0],true⟩] [⟨A4_,c4_,37,5,k4_,xs4_⟩]) xs4_ (((List.range (D.f 4).l).map (fun i=>qaK ((D.f 4).f i))).take k4_) css4_) ∧ LInv di 106 [⟨b,o,[.string ((D.f 0).s),.int .i64 ((D.f 1).n),.int .i16 ((D.f 2).n),.bool ((D.f 3).b),.slice ((D.f 4).A) ((D.f 4).l) ((D.f 4).c),.map D.m],false⟩,⟨b7,0,[.int .i64 0,.slice none 0 0,.bool false,.slice none 0 0,.slice none 0 0],true⟩,⟨aa,0,[.int .i64 0,.slice (some ⟨ax,0,none⟩) ((sb ((D.f 0).s)).length) ay,.bool false,.slice none 0 0,.slice none 0 0,.int .i64 ((D.f 1).n),.slice none 0 0,.bool false,.slice none 0 0,.slice none 0 0,.int .i64 (IntKind.i64.wrap ((D.f 2).n)),.slice none 0 0,.bool false,.slice none 0 0,.slice none 0 0,.int .i64 ac,.slice ai ae.length aj,.bool af,.slice ak ag.length al,.slice am ah.length ao,.int .i64 0,.slice none 0 0,.bool (((D.f 4).A).isNone),.slice A4_ k4_ c4_,.slice none 0 0],true⟩,⟨aW,0,[.int .i64 0,.slice none 0 0,.bool false,.slice (some ⟨aa,0,none⟩) 5 5,.slice none 0 0],true⟩] [⟨A4_,c4_,37,5,k4_,xs4_⟩] [(0,.p 0 0),(2,.p 1 0),(3,.p 3 0),(54,.v (.int .i64 (((D.f 4).l:Nat):Int))),(55,.v (.int .i64 ((k4_:Nat):Int)))] a_ w_) ((D.f 4).l) ⟨0,none,0,[],[],by omega,by omega,Trees.nil _ _,ep.pk,di,Fr.refl _ _ _⟩ ?_
 rintro jC jD io ⟨k4_,A4_,c4_,xs4_,css4_,iH,iI,hT4_,eu,au,aI⟩
 refine qas [(0,.p 0 0),(2,.p 1 0),(3,.p 3 0),(54,.v (.int .i64 (((D.f 4).l:Nat):Int))),(55,.v (.int .i64 ((k4_:Nat):Int))),(56,.v (.bool (decide (((k4_:Nat):Int) < (((D.f 4).l:Nat):Int)))))] au eu fun jE cL=>?_
 refine wp_seq (qaw cL (b:=decide (((k4_:Nat):Int) < (((D.f 4).l:Nat):Int))) kz (fun cM=>?_) (fun cM=>?_))
 ·
  have iJ:=zD cM
  refine wp_skip (qab (wp_seq (wp_block (qas [(0,.p 0 0),(2,.p 1 0),(3,.p 3 0),(4,.v (.int .i64 ((k4_:Nat):Int))),(54,.v (.int .i64 (((D.f 4).l:Nat):Int))),(55,.v (.int .i64 ((k4_:Nat):Int)))] au cL fun jF ev=>?_))))
  refine qaE 4 kz au fun jG av ew iK=>?_
  refine qam (i:=0) kz (qaQ ew ev (d:=58) (cs:=[.bool false]) kz fun jH jI jJ iL iM ab cN dj=>?_)
  have ey:=TT.ofW ab cN
  refine ⟨fun _=>ey,?_⟩
  refine qcX (i:=1) (j:=2) kz ?_ ?_
  ·
   refine (qao cN dj (oi:=4) (cs:=[.bool true]) kz fun jK aS dl ez=>?_)
   have eB:=TT.ofW (ab.trans aS) dl
   refine ⟨fun _=>eB,?_⟩
   refine qam (i:=2) kz (qao dl ez (oi:=4) (cs:=[.bool false]) kz fun jL bC bU eC=>?_)
   have eD:=TT.ofW ((ab.trans aS).trans bC) bU
   refine ⟨fun _=>eD,?_⟩
   refine qam (i:=3) kz (qbf [0,2,3,4,54,55,59] bU.cells eC (env':=[(0,.p 0 0),(2,.p 1 0),(3,.p 3 0),(4,.v (.int .i64 ((k4_:Nat):Int))),(54,.v (.int .i64 (((D.f 4).l:Nat):Int))),(55,.v (.int .i64 ((k4_:Nat):Int))),(59,.v (.bool false))]) kz fun jM dp=>?_)
   have eE:=TT.ofW ((ab.trans aS).trans bC) bU
   refine ⟨fun _=>eE,?_⟩
   refine qaz kz ?_ _
   refine qab (qan dp (b:=false) kz rfl ?_)
   refine qcu 18 kz bU fun jN cO aJ bV=>?_
   refine qaB [0,1,2,3,7,8,9,10,11] [(0,.p 0 0),(2,.p 1 0),(3,.p 3 0),(54,.v (.int .i64 (((D.f 4).l:Nat):Int))),(55,.v (.int .i64 ((k4_:Nat):Int))),(79,.v (.slice (some ⟨aa,0,none⟩) 5 5)),(81,.v (.slice (some ⟨aa,0,none⟩) 5 5)),(88,.v (.slice ((D.f 4).A) ((D.f 4).l) ((D.f 4).c))),(89,.v (.int .i64 ((k4_:Nat):Int)))] 10 (qac (qaa (qaa (qac (qaa qad))))) (fun _ h=>h.cells) bV dp fun jO eF=>?_
   refine qaD eF (i:=4) (t:=34) (A:=(some ⟨aa,0,none⟩)) (m:=5) (q:=4) (d:=82) kz (e:=37) (size:=5) (bytes:=88) (j:=4) kz (b:=aa) (o:=0) rfl rfl (by decide) kz kz (qac (qaa (qaa (qac (qaa qad))))) bV fun jP eG=>?_
   have eH:=eG.recast 82 (.v (.pointer (some ⟨aa,0 + 4 * 5,none⟩))) (.p 2 20) rfl rfl (zN (n:=3) rfl)
   have eI:=eH.pk (env':=[(0,.p 0 0),(2,.p 1 0),(3,.p 3 0),(54,.v (.int .i64 (((D.f 4).l:Nat):Int))),(55,.v (.int .i64 ((k4_:Nat):Int))),(79,.v (.slice (some ⟨aa,0,none⟩) 5 5)),(81,.v (.slice (some ⟨aa,0,none⟩) 5 5)),(88,.v (.slice ((D.f 4).A) ((D.f 4).l) ((D.f 4).c))),(89,.v (.int .i64 ((k4_:Nat):Int))),(82,.p 2 20)])
   refine qaB [5,6] [(0,.p 0 0),(2,.p 1 0),(3,.p 3 0),(54,.v (.int .i64 (((D.f 4).l:Nat):Int))),(55,.v (.int .i64 ((k4_:Nat):Int))),(79,.v (.slice (some ⟨aa,0,none⟩) 5 5)),(84,.v (.slice A4_ k4_ c4_)),(88,.v (.slice ((D.f 4).A) ((D.f 4).l) ((D.f 4).c))),(89,.v (.int .i64 ((k4_:Nat):Int)))] 7 (qac (qaa (qaa (qac (qaa qad))))) (fun _ h=>h.cells) bV eI fun jQ eJ=>?_
   obtain ⟨eK,eL,eM,iN,dQ⟩:=Slots.get g5 (i:=k4_) (by omega)
   refine qaD eJ (i:=12) (t:=92) (A:=(D.f 4).A) (m:=((D.f 4).l)) (q:=((k4_:Nat):Int)) (d:=90) kz (e:=151) (size:=3) (bytes:=48) kz eM rfl (by omega) kz kz (qac (qaa (qaa (qac (qaa qad))))) bV fun jR eN=>?_
   refine qam (i:=13) kz (qak eN (f:=102) (vs:=(z81 eK eL k4_)) (d:=91) kz Tryz.call102 (qbm 0 ((D.f 4).f k4_) _ _ _ _ (dQ.move aJ.step nilM aJ.imm) (qaS _ aJ.step nilM aJ.imm (g5e k4_ (by omega)))) ?_)
   rintro e_ jS ⟨iO,rfl,eO,cP⟩
   have cQ:=eO.move (Step.refl _ Nil) nilM (aJ.laid (G:=F) cP)
   obtain ⟨cd,ce,cm,cq,cr,cu,cw,cz,cA,cB,cC,iP,iQ,cR,ip,iq,jT,jU⟩:=cQ.open_
   rw [cR] at cQ
   have ir:=ip.small
   have iu:=iq.small
   rw [cR]
   refine ⟨_,rfl,fun jV eP=>?_⟩
   have dq:=aJ.next_nil cP
   have aK:=aJ.frN cP
   have eQ:=TT.ofW aK dq
   refine ⟨fun _=>eQ,?_⟩
   refine qam (i:=14) kz (qbu dq eP (e:=37) (size:=5) (len:=1) (cs:=(z1 cd cu ce.length cw cm cz cq.length cA cB cr.length cC)) (d:=92) kz kz fun eR jW jX iR iS az bW eS=>?_)
   have eU:=TT.ofW (aK.trans az) bW
   refine ⟨fun _=>eU,?_⟩
   refine qam (i:=15) kz (qaR bW eS (k:=0) (d:=93) (t:=34) (e:=37) (size:=5) (bytes:=88) (A:=A4_) (As:=(some ⟨eR,0,none⟩)) (m0:=k4_) (c:=c4_) (m:=1) (cs:=1) (xs:=xs4_) (news:=(z1 cd cu ce.length cw cm cz cq.length cA cB cr.length cC)) kz kz rfl (qby (bW.own 1 _ rfl) (qbw kz)) (qbE (bW.own 1 _ rfl)) (by omega) fun cD cE jY jZ aL cS eV=>?_)
   have eW:=TT.ofW ((aK.trans az).trans aL) cS
   refine ⟨fun _=>eW,?_⟩
   refine qam (i:=16) kz (qax eV (t:=34) (A:=(some ⟨aa,0,none⟩)) (m:=5) (q:=4) (d:=94) kz (e:=37) (size:=5) (bytes:=88) (j:=4) kz (b:=aa) (o:=0) rfl rfl (by decide) fun j0 eX=>?_)
   have eY:=eX.recast 94 (.v (.pointer (some ⟨aa,0 + 4 * 5,none⟩))) (.p 2 20) rfl rfl (zN (n:=3) rfl)
   have eZ:=eY.pk (env':=[(0,.p 0 0),(2,.p 1 0),(3,.p 3 0),(54,.v (.int .i64 (((D.f 4).l:Nat):Int))),(55,.v (.int .i64 ((k4_:Nat):Int))),(79,.v (.slice (some ⟨aa,0,none⟩) 5 5)),(84,.v (.slice A4_ k4_ c4_)),(88,.v (.slice ((D.f 4).A) ((D.f 4).l) ((D.f 4).c))),(89,.v (.int .i64 ((k4_:Nat):Int))),(90,.v (.pointer (some ⟨eK,eL + k4_ * 3,none⟩))),(91,.v (.agg #[.int .i64 cd,.slice cu ce.length cw,.bool cm,.slice cz cq.length cA,.slice cB cr.length cC])),(92,.v (.slice (some ⟨eR,0,none⟩) 1 1)),(93,.v (.slice cD (k4_ + 1) cE)),(94,.p 2 20)])
   have dr:=TT.ofW ((aK.trans az).trans aL) cS
   refine ⟨fun _=>dr,?_⟩
   refine qaB [17] [(0,.p 0 0),(2,.p 1 0),(3,.p 3 0),(54,.v (.int .i64 (((D.f 4).l:Nat):Int))),(55,.v (.int .i64 ((k4_:Nat):Int))),(93,.v (.slice cD (k4_ + 1) cE)),(95,.p 2 23)] 1 (qac (qaa (qaa (qac (qaa qad))))) (fun _ h=>h.cells) dr eZ fun j1 e9=>?_
   refine qam (i:=18) kz (qao cS e9 (oi:=2) (cs:=(z5 ax D ay ac ai ae.length aj af ak ag.length al am ah.length ao cD k4_ cE)) kz fun j2 bD dt fa=>?_)
   refine ⟨fun h=>absurd rfl h,?_⟩
   refine qaz kz ?_ _
   refine qar (qab (qap [0,1] kz ?_))
   refine qai [0,1] [] [(0,.p 0 0),(2,.p 1 0),(3,.p 3 0),(54,.v (.int .i64 (((D.f 4).l:Nat):Int))),(55,.v (.int .i64 (IntKind.i64.wrap (((k4_:Nat):Int) + 1))))] dt fa fun j3 fb=>?_
   refine qae (qab ?_)
   obtain ⟨du,fe,bE⟩:=dt.cutB fb 4 [⟨b,o,(z13 D),false⟩,⟨b7,0,z0,true⟩,⟨aa,0,(z5 ax D ay ac ai ae.length aj af ak ag.length al am ah.length ao cD k4_ cE),true⟩,⟨aW,0,(z11 aa),true⟩] [(0,.p 0 0),(2,.p 1 0),(3,.p 3 0),(54,.v (.int .i64 (((D.f 4).l:Nat):Int))),(55,.v (.int .i64 (IntKind.i64.wrap (((k4_:Nat):Int) + 1))))]
   obtain ⟨ff,bF⟩:=fe.cutR 1 [⟨cD,cE,37,5,k4_ + 1,xs4_ ++ (z1 cd cu ce.length cw cm cz cq.length cA cB cr.length cC)⟩]
   have fg:IntKind.i64.wrap (((k4_:Nat):Int) + 1) = ((k4_ + 1:Nat):Int):=qaO (by omega)
   rw [fg] at du
   exact ⟨(D.f 4).l - (k4_ + 1),by omega,k4_ + 1,cD,cE,xs4_ ++ [Value.int .i64 cd,.slice cu ce.length cw,.bool cm,.slice cz cq.length cA,.slice cB cr.length cC],(css4_ ++ [[Value.int .i64 cd,.slice cu ce.length cw,.bool cm,.slice cz cq.length cA,.slice cB cr.length cC]]),rfl,by omega,by rw [qbQ (by omega)]; exact (hT4_.move ((((((((((av.trans ab).trans aS).trans bC).trans cO).trans aK).trans az).trans aL).trans bD).trans bE).trans bF).step immM ((((((((((av.trans ab).trans aS).trans bC).trans cO).trans aK).trans az).trans aL).trans bD).trans bE).trans bF).to').snoc (x:=(fun i=>qaK ((D.f 4).f i)) k4_) (cQ.move ((((az.trans aL).trans bD).trans bE).trans bF).step immM ((((az.trans aL).trans bD).trans bE).trans bF).to'),du.pk,ff,(((((((((((aI.trans av).trans ab).trans aS).trans bC).trans cO).trans aK).trans az).trans aL).trans bD).trans bE).trans bF)⟩
  refine (qao cN dj (oi:=4) (cs:=[.bool false]) kz fun j4 aw dv fh=>?_)
  have fi:=TT.ofW (ab.trans aw) dv
  refine ⟨fun _=>fi,?_⟩
  refine qam (i:=1) kz (qao dv fh (oi:=4) (cs:=[.bool true]) kz fun j5 aA bX fj=>?_)
  have fk:=TT.ofW ((ab.trans aw).trans aA) bX
  refine ⟨fun _=>fk,?_⟩
  refine qam (i:=3) kz (qbf [0,2,3,4,54,55,59] bX.cells fj (env':=[(0,.p 0 0),(2,.p 1 0),(3,.p 3 0),(4,.v (.int .i64 ((k4_:Nat):Int))),(54,.v (.int .i64 (((D.f 4).l:Nat):Int))),(55,.v (.int .i64 ((k4_:Nat):Int))),(59,.v (.bool true))]) kz fun j6 dw=>?_)
  have fm:=TT.ofW ((ab.trans aw).trans aA) bX
  refine ⟨fun _=>fm,?_⟩
  refine qaz kz ?_ _
  refine qab (qa7 dw (b:=true) kz rfl ?_)
  refine qaE 17 kz bX fun j7 aT aB bY=>?_
  refine qaB [0,1,5,6,7,8,9] [(0,.p 0 0),(2,.p 1 0),(3,.p 3 0),(54,.v (.int .i64 (((D.f 4).l:Nat):Int))),(55,.v (.int .i64 ((k4_:Nat):Int))),(61,.v (.slice (some ⟨aa,0,none⟩) 5 5)),(68,.v (.slice ((D.f 4).A) ((D.f 4).l) ((D.f 4).c))),(69,.v (.int .i64 ((k4_:Nat):Int)))] 11 (qaa (qac (qaa (qaa (qac (qaa qad)))))) (fun _ h=>h.cells) bY dw fun j8 fo=>?_
  refine qaD fo (i:=2) (t:=34) (A:=(some ⟨aa,0,none⟩)) (m:=5) (q:=4) (d:=62) kz (e:=37) (size:=5) (bytes:=88) (j:=4) kz (b:=aa) (o:=0) rfl rfl (by decide) kz kz (qaa (qac (qaa (qaa (qac (qaa qad)))))) bY fun j9 fq=>?_
  have fr:=fq.recast 62 (.v (.pointer (some ⟨aa,0 + 4 * 5,none⟩))) (.p 2 20) rfl rfl (zN (n:=3) rfl)
  have ft:=fr.pk (env':=[(0,.p 0 0),(2,.p 1 0),(3,.p 3 0),(54,.v (.int .i64 (((D.f 4).l:Nat):Int))),(55,.v (.int .i64 ((k4_:Nat):Int))),(61,.v (.slice (some ⟨aa,0,none⟩) 5 5)),(68,.v (.slice ((D.f 4).A) ((D.f 4).l) ((D.f 4).c))),(69,.v (.int .i64 ((k4_:Nat):Int))),(62,.p 2 20)])
  refine qaB [3,4,12] [(0,.p 0 0),(2,.p 1 0),(3,.p 3 0),(54,.v (.int .i64 (((D.f 4).l:Nat):Int))),(55,.v (.int .i64 ((k4_:Nat):Int))),(61,.v (.slice (some ⟨aa,0,none⟩) 5 5)),(64,.v (.slice A4_ k4_ c4_)),(68,.v (.slice ((D.f 4).A) ((D.f 4).l) ((D.f 4).c))),(69,.v (.int .i64 ((k4_:Nat):Int))),(72,.v (.int .i64 ((k4_:Nat):Int)))] 7 (qaa (qac (qaa (qaa (qac (qaa qad)))))) (fun _ h=>h.cells) bY ft fun ka fu=>?_
  obtain ⟨de,df,fv,iT,cT⟩:=Slots.get g5 (i:=k4_) (by omega)
  refine qaD fu (i:=10) (t:=92) (A:=(D.f 4).A) (m:=((D.f 4).l)) (q:=((k4_:Nat):Int)) (d:=70) kz (e:=151) (size:=3) (bytes:=48) kz fv rfl (by omega) kz kz (qaa (qac (qaa (qaa (qac (qaa qad)))))) bY fun kd dx=>?_
  refine qcX (i:=11) (j:=13) kz ?_ ?_
  ·
   refine (qak dx (f:=102) (vs:=(z81 de df k4_)) (d:=71) kz Tryz.call102 (qbm 0 ((D.f 4).f k4_) _ _ _ _ (cT.move aB.step nilM aB.imm) (qaS _ aB.step nilM aB.imm (g5e k4_ (by omega)))) ?_)
   rintro e_ ke ⟨iU,rfl,fw,cU⟩
   have cV:=fw.move (Step.refl _ Nil) nilM (aB.laid (G:=F) cU)
   obtain ⟨aX,aY,aZ,ba,bd,bf,bg,bh,bi,bj,bk,iV,iW,cW,iv,iw,kf,kg⟩:=cV.open_
   rw [cW] at cV
   have ix:=iv.small
   have iy:=iw.small
   rw [cW]
   refine ⟨_,rfl,fun kh fx=>?_⟩
   have dy:=aB.next_nil cU
   have aM:=aB.frN cU
   have fy:=TT.ofW aM dy
   refine ⟨fun _=>fy,?_⟩
   refine qam (i:=13) kz (qbu dy fx (e:=37) (size:=5) (len:=1) (cs:=z0) (d:=73) kz kz fun dR ki kj iX iY aC bZ fz=>?_)
   have fA:=TT.ofW (aM.trans aC) bZ
   refine ⟨fun _=>fA,?_⟩
   refine qam (i:=14) kz (qaR bZ fz (k:=0) (d:=74) (t:=34) (e:=37) (size:=5) (bytes:=88) (A:=A4_) (As:=(some ⟨dR,0,none⟩)) (m0:=k4_) (c:=c4_) (m:=1) (cs:=1) (xs:=xs4_) (news:=z0) kz kz rfl (qby (bZ.own 1 _ rfl) (qbw kz)) (qbE (bZ.own 1 _ rfl)) (by omega) fun aG aN km ko aO cX fB=>?_)
   have fC:=TT.ofW ((aM.trans aC).trans aO) cX
   refine ⟨fun _=>fC,?_⟩
   refine qam (i:=15) kz (qax fB (t:=34) (A:=(some ⟨aa,0,none⟩)) (m:=5) (q:=4) (d:=75) kz (e:=37) (size:=5) (bytes:=88) (j:=4) kz (b:=aa) (o:=0) rfl rfl (by decide) fun kp fD=>?_)
   have fE:=fD.recast 75 (.v (.pointer (some ⟨aa,0 + 4 * 5,none⟩))) (.p 2 20) rfl rfl (zN (n:=3) rfl)
   have fF:=fE.pk (env':=[(0,.p 0 0),(2,.p 1 0),(3,.p 3 0),(54,.v (.int .i64 (((D.f 4).l:Nat):Int))),(55,.v (.int .i64 ((k4_:Nat):Int))),(61,.v (.slice (some ⟨aa,0,none⟩) 5 5)),(64,.v (.slice A4_ k4_ c4_)),(68,.v (.slice ((D.f 4).A) ((D.f 4).l) ((D.f 4).c))),(69,.v (.int .i64 ((k4_:Nat):Int))),(72,.v (.int .i64 ((k4_:Nat):Int))),(70,.v (.pointer (some ⟨de,df + k4_ * 3,none⟩))),(71,.v (.agg #[.int .i64 aX,.slice bf aY.length bg,.bool aZ,.slice bh ba.length bi,.slice bj bd.length bk])),(73,.v (.slice (some ⟨dR,0,none⟩) 1 1)),(74,.v (.slice aG (k4_ + 1) aN)),(75,.p 2 20)])
   have dz:=TT.ofW ((aM.trans aC).trans aO) cX
   refine ⟨fun _=>dz,?_⟩
   refine qaB [16] [(0,.p 0 0),(2,.p 1 0),(3,.p 3 0),(54,.v (.int .i64 (((D.f 4).l:Nat):Int))),(55,.v (.int .i64 ((k4_:Nat):Int))),(71,.v (.agg #[.int .i64 aX,.slice bf aY.length bg,.bool aZ,.slice bh ba.length bi,.slice bj bd.length bk])),(72,.v (.int .i64 ((k4_:Nat):Int))),(74,.v (.slice aG (k4_ + 1) aN)),(76,.p 2 23)] 1 (qaa (qac (qaa (qaa (qac (qaa qad)))))) (fun _ h=>h.cells) dz fF fun kq fG=>?_
   refine qam (i:=17) kz (qao cX fG (oi:=2) (cs:=(z5 ax D ay ac ai ae.length aj af ak ag.length al am ah.length ao aG k4_ aN)) kz fun iz bG dA fH=>?_)
   refine ⟨fun h=>absurd rfl h,?_⟩
   refine qaz kz ?_ _
   refine qab (qap [0,1] kz ?_)
   have fI:World.ownsRow iz 0 37 5 (.slice aG (k4_ + 1) aN) (k4_ + 1) (xs4_ ++ z0):=dA.own 0 _ rfl
   obtain ⟨fJ,dB⟩:=qbX fI (by omega)
   refine qal (qax fH (t:=34) (A:=aG) (m:=(k4_ + 1)) (q:=((k4_:Nat):Int)) (d:=77) kz (e:=37) (size:=5) (bytes:=88) kz (b:=fJ) (o:=0) (j:=k4_) dB (rfl) (by omega) fun ku fK=>?_)
   refine qal (qbL dA fK (k:=0) (g:=fJ) (o:=k4_ * 5) (c:=aN) (m:=(k4_ + 1)) (size:=5) (e:=37) (A:=aG) (xs:=(xs4_ ++ [.int .i64 0,.slice none 0 0,.bool false,.slice none 0 0,.slice none 0 0])) (vs:=[.int .i64 aX,.slice bf aY.length bg,.bool aZ,.slice bh ba.length bi,.slice bj bd.length bk]) kz rfl dB (by simp only [List.length_cons,List.length_nil]; omega) fun kv bH fL fM=>?_)
   have fN:(⟨aG,aN,37,5,k4_ + 1,qbt (xs4_ ++ [.int .i64 0,.slice none 0 0,.bool false,.slice none 0 0,.slice none 0 0]) (k4_ * 5) [.int .i64 aX,.slice bf aY.length bg,.bool aZ,.slice bh ba.length bi,.slice bj bd.length bk]⟩:Rw) = ⟨aG,aN,37,5,k4_ + 1,xs4_ ++ [.int .i64 aX,.slice bf aY.length bg,.bool aZ,.slice bh ba.length bi,.slice bj bd.length bk]⟩:=by rw [qcn (by rw [hT4_.xslen,List.length_take,qbG]; omega)]
   obtain ⟨dC,bI⟩:=fL.rowEq 0 [⟨aG,aN,37,5,k4_ + 1,xs4_ ++ (z1 aX bf aY.length bg aZ bh ba.length bi bj bd.length bk)⟩,⟨some ⟨dR,0,none⟩,1,37,5,1,z0⟩] fN
   refine qae (qar (qab (qap [0,1] kz ?_)))
   refine qai [0,1] [] [(0,.p 0 0),(2,.p 1 0),(3,.p 3 0),(54,.v (.int .i64 (((D.f 4).l:Nat):Int))),(55,.v (.int .i64 (IntKind.i64.wrap (((k4_:Nat):Int) + 1))))] dC fM fun kw fO=>?_
   refine qae (qab ?_)
   obtain ⟨dD,fP,bJ⟩:=dC.cutB fO 4 [⟨b,o,(z13 D),false⟩,⟨b7,0,z0,true⟩,⟨aa,0,(z5 ax D ay ac ai ae.length aj af ak ag.length al am ah.length ao aG k4_ aN),true⟩,⟨aW,0,(z11 aa),true⟩] [(0,.p 0 0),(2,.p 1 0),(3,.p 3 0),(54,.v (.int .i64 (((D.f 4).l:Nat):Int))),(55,.v (.int .i64 (IntKind.i64.wrap (((k4_:Nat):Int) + 1))))]
   obtain ⟨fQ,bK⟩:=fP.cutR 1 [⟨aG,aN,37,5,k4_ + 1,xs4_ ++ (z1 aX bf aY.length bg aZ bh ba.length bi bj bd.length bk)⟩]
   have fR:IntKind.i64.wrap (((k4_:Nat):Int) + 1) = ((k4_ + 1:Nat):Int):=qaO (by omega)
   rw [fR] at dD
   exact ⟨(D.f 4).l - (k4_ + 1),by omega,k4_ + 1,aG,aN,xs4_ ++ [Value.int .i64 aX,.slice bf aY.length bg,.bool aZ,.slice bh ba.length bi,.slice bj bd.length bk],(css4_ ++ [[Value.int .i64 aX,.slice bf aY.length bg,.bool aZ,.slice bh ba.length bi,.slice bj bd.length bk]]),rfl,by omega,by rw [qbQ (by omega)]; exact (hT4_.move ((((((((((((av.trans ab).trans aw).trans aA).trans aT).trans aM).trans aC).trans aO).trans bG).trans bH).trans bI).trans bJ).trans bK).step immM ((((((((((((av.trans ab).trans aw).trans aA).trans aT).trans aM).trans aC).trans aO).trans bG).trans bH).trans bI).trans bJ).trans bK).to').snoc (x:=(fun i=>qaK ((D.f 4).f i)) k4_) (cV.move ((((((aC.trans aO).trans bG).trans bH).trans bI).trans bJ).trans bK).step immM ((((((aC.trans aO).trans bG).trans bH).trans bI).trans bJ).trans bK).to'),dD.pk,fQ,(((((((((((((aI.trans av).trans ab).trans aw).trans aA).trans aT).trans aM).trans aC).trans aO).trans bG).trans bH).trans bI).trans bJ).trans bK)⟩
  refine (qbu aB dx (e:=37) (size:=5) (len:=1) (cs:=z0) (d:=73) kz kz fun dS kx ky iZ i6 aP aD fS=>?_)
  have fT:=TT.ofW aP aD
  refine ⟨fun _=>fT,?_⟩
  refine qam (i:=11) kz (qak fS (f:=102) (vs:=(z81 de df k4_)) (d:=71) kz Tryz.call102 (qbm 0 ((D.f 4).f k4_) _ _ _ _ (cT.move aD.step nilM aD.imm) (qaS _ aD.step nilM aD.imm (g5e k4_ (by omega)))) ?_)
  rintro e_ kA ⟨i7,rfl,fU,cY⟩
  have cZ:=fU.move (Step.refl _ Nil) nilM (aD.laid (G:=F) cY)
  obtain ⟨bn,bo,bp,bq,bt,bu,bw,bx,bz,bA,bB,ja,jb,c5,iA,iB,kB,kC⟩:=cZ.open_
  rw [c5] at cZ
  have iC:=iA.small
  have iD:=iB.small
  rw [c5]
  refine ⟨_,rfl,fun kD fV=>?_⟩
  have b8:=aD.next_nil cY
  have aU:=aD.frN cY
  have fW:=TT.ofW (aP.trans aU) b8
  refine ⟨fun _=>fW,?_⟩
  refine qam (i:=14) kz (qaR b8 fV (k:=0) (d:=74) (t:=34) (e:=37) (size:=5) (bytes:=88) (A:=A4_) (As:=(some ⟨dS,0,none⟩)) (m0:=k4_) (c:=c4_) (m:=1) (cs:=1) (xs:=xs4_) (news:=z0) kz kz rfl (qby (b8.own 1 _ rfl) (qbw kz)) (qbE (b8.own 1 _ rfl)) (by omega) fun aH aQ kE kF aR c6 fX=>?_)
  have fY:=TT.ofW ((aP.trans aU).trans aR) c6
  refine ⟨fun _=>fY,?_⟩
  refine qam (i:=15) kz (qax fX (t:=34) (A:=(some ⟨aa,0,none⟩)) (m:=5) (q:=4) (d:=75) kz (e:=37) (size:=5) (bytes:=88) (j:=4) kz (b:=aa) (o:=0) rfl rfl (by decide) fun kG fZ=>?_)
  have f5:=fZ.recast 75 (.v (.pointer (some ⟨aa,0 + 4 * 5,none⟩))) (.p 2 20) rfl rfl (zN (n:=3) rfl)
  have f7:=f5.pk (env':=[(0,.p 0 0),(2,.p 1 0),(3,.p 3 0),(54,.v (.int .i64 (((D.f 4).l:Nat):Int))),(55,.v (.int .i64 ((k4_:Nat):Int))),(61,.v (.slice (some ⟨aa,0,none⟩) 5 5)),(64,.v (.slice A4_ k4_ c4_)),(68,.v (.slice ((D.f 4).A) ((D.f 4).l) ((D.f 4).c))),(69,.v (.int .i64 ((k4_:Nat):Int))),(72,.v (.int .i64 ((k4_:Nat):Int))),(70,.v (.pointer (some ⟨de,df + k4_ * 3,none⟩))),(73,.v (.slice (some ⟨dS,0,none⟩) 1 1)),(71,.v (.agg #[.int .i64 bn,.slice bu bo.length bw,.bool bp,.slice bx bq.length bz,.slice bA bt.length bB])),(74,.v (.slice aH (k4_ + 1) aQ)),(75,.p 2 20)])
  have dE:=TT.ofW ((aP.trans aU).trans aR) c6
  refine ⟨fun _=>dE,?_⟩
  refine qaB [16] [(0,.p 0 0),(2,.p 1 0),(3,.p 3 0),(54,.v (.int .i64 (((D.f 4).l:Nat):Int))),(55,.v (.int .i64 ((k4_:Nat):Int))),(71,.v (.agg #[.int .i64 bn,.slice bu bo.length bw,.bool bp,.slice bx bq.length bz,.slice bA bt.length bB])),(72,.v (.int .i64 ((k4_:Nat):Int))),(74,.v (.slice aH (k4_ + 1) aQ)),(76,.p 2 23)] 1 (qaa (qac (qaa (qaa (qac (qaa qad)))))) (fun _ h=>h.cells) dE f7 fun kH f8=>?_
  refine qam (i:=17) kz (qao c6 f8 (oi:=2) (cs:=(z5 ax D ay ac ai ae.length aj af ak ag.length al am ah.length ao aH k4_ aQ)) kz fun iE bL dF f9=>?_)
  refine ⟨fun h=>absurd rfl h,?_⟩
  refine qaz kz ?_ _
  refine qab (qap [0,1] kz ?_)
  have ga:World.ownsRow iE 0 37 5 (.slice aH (k4_ + 1) aQ) (k4_ + 1) (xs4_ ++ z0):=dF.own 0 _ rfl
  obtain ⟨gb,dG⟩:=qbX ga (by omega)
  refine qal (qax f9 (t:=34) (A:=aH) (m:=(k4_ + 1)) (q:=((k4_:Nat):Int)) (d:=77) kz (e:=37) (size:=5) (bytes:=88) kz (b:=gb) (o:=0) (j:=k4_) dG (rfl) (by omega) fun kI gc=>?_)
  refine qal (qbL dF gc (k:=0) (g:=gb) (o:=k4_ * 5) (c:=aQ) (m:=(k4_ + 1)) (size:=5) (e:=37) (A:=aH) (xs:=(xs4_ ++ [.int .i64 0,.slice none 0 0,.bool false,.slice none 0 0,.slice none 0 0])) (vs:=[.int .i64 bn,.slice bu bo.length bw,.bool bp,.slice bx bq.length bz,.slice bA bt.length bB]) kz rfl dG (by simp only [List.length_cons,List.length_nil]; omega) fun kJ bM gd ge=>?_)
  have gg:(⟨aH,aQ,37,5,k4_ + 1,qbt (xs4_ ++ [.int .i64 0,.slice none 0 0,.bool false,.slice none 0 0,.slice none 0 0]) (k4_ * 5) [.int .i64 bn,.slice bu bo.length bw,.bool bp,.slice bx bq.length bz,.slice bA bt.length bB]⟩:Rw) = ⟨aH,aQ,37,5,k4_ + 1,xs4_ ++ [.int .i64 bn,.slice bu bo.length bw,.bool bp,.slice bx bq.length bz,.slice bA bt.length bB]⟩:=by rw [qcn (by rw [hT4_.xslen,List.length_take,qbG]; omega)]
  obtain ⟨dH,bN⟩:=gd.rowEq 0 [⟨aH,aQ,37,5,k4_ + 1,xs4_ ++ (z1 bn bu bo.length bw bp bx bq.length bz bA bt.length bB)⟩,⟨some ⟨dS,0,none⟩,1,37,5,1,z0⟩] gg
  refine qae (qar (qab (qap [0,1] kz ?_)))
  refine qai [0,1] [] [(0,.p 0 0),(2,.p 1 0),(3,.p 3 0),(54,.v (.int .i64 (((D.f 4).l:Nat):Int))),(55,.v (.int .i64 (IntKind.i64.wrap (((k4_:Nat):Int) + 1))))] dH ge fun kK gh=>?_
  refine qae (qab ?_)
  obtain ⟨dI,gi,bO⟩:=dH.cutB gh 4 [⟨b,o,(z13 D),false⟩,⟨b7,0,z0,true⟩,⟨aa,0,(z5 ax D ay ac ai ae.length aj af ak ag.length al am ah.length ao aH k4_ aQ),true⟩,⟨aW,0,(z11 aa),true⟩] [(0,.p 0 0),(2,.p 1 0),(3,.p 3 0),(54,.v (.int .i64 (((D.f 4).l:Nat):Int))),(55,.v (.int .i64 (IntKind.i64.wrap (((k4_:Nat):Int) + 1))))]
  obtain ⟨gj,bP⟩:=gi.cutR 1 [⟨aH,aQ,37,5,k4_ + 1,xs4_ ++ (z1 bn bu bo.length bw bp bx bq.length bz bA bt.length bB)⟩]
  have gk:IntKind.i64.wrap (((k4_:Nat):Int) + 1) = ((k4_ + 1:Nat):Int):=qaO (by omega)
  rw [gk] at dI
  exact ⟨(D.f 4).l - (k4_ + 1),by omega,k4_ + 1,aH,aQ,xs4_ ++ [Value.int .i64 bn,.slice bu bo.length bw,.bool bp,.slice bx bq.length bz,.slice bA bt.length bB],(css4_ ++ [[Value.int .i64 bn,.slice bu bo.length bw,.bool bp,.slice bx bq.length bz,.slice bA bt.length bB]]),rfl,by omega,by rw [qbQ (by omega)]; exact (hT4_.move ((((((((((((av.trans ab).trans aw).trans aA).trans aT).trans aP).trans aU).trans aR).trans bL).trans bM).trans bN).trans bO).trans bP).step immM ((((((((((((av.trans ab).trans aw).trans aA).trans aT).trans aP).trans aU).trans aR).trans bL).trans bM).trans bN).trans bO).trans bP).to').snoc (x:=(fun i=>qaK ((D.f 4).f i)) k4_) (cZ.move (((((aR.trans bL).trans bM).trans bN).trans bO).trans bP).step immM (((((aR.trans bL).trans bM).trans bN).trans bO).trans bP).to'),dI.pk,gj,(((((((((((((aI.trans av).trans ab).trans aw).trans aA).trans aT).trans aP).trans aU).trans aR).trans bL).trans bM).trans bN).trans bO).trans bP)⟩
 have jc:=zF cM
 refine wp_exit (qau (qau (qaI (qab (qaf [0,1,2,3,4] kz ?_)))))
 refine qai [0,1,2] [3,4] [(2,.p 1 0),(3,.p 3 0),(99,.p 0 5)] au cL fun kL gl=>?_
 refine qal (qeD gl (v:=.func (.func 103) #[] #[.pointer (some ⟨aW,0,none⟩)]) (d:=100) kz fun kM gm=>?_)
 refine qal (qak gm (f:=59) (vs:=[.pointer (some ⟨b,o + 5,none⟩),.func (.func 103) #[] #[.pointer (some ⟨aW,0,none⟩)]]) (d:=101) kz Tryz.call59 (qeP (F:=(Imm F w io [⟨b,o,(z13 D),false⟩,⟨b7,0,z0,true⟩,⟨aa,0,(z45 ax D ay ac ai ae.length aj af ak ag.length al am ah.length ao A4_ k4_ c4_),true⟩,⟨aW,0,(z11 aa),true⟩] [⟨A4_,c4_,37,5,k4_,xs4_⟩])) Tryz.call103 qco ((hat.one 5 rfl).move au.step nilM au.imm) (g6.move au.step nilM au.imm) (Str.of au 3 rfl) (qjG 3 rfl) g6l) ?_)
 rintro e_ kN ⟨rfl,ap,ar,dT,gn,gp⟩
 obtain ⟨da,aV,gq⟩:=au.wrote 3 [⟨b,o,(z13 D),false⟩,⟨b7,0,z0,true⟩,⟨aa,0,(z45 ax D ay ac ai ae.length aj af ak ag.length al am ah.length ao A4_ k4_ c4_),true⟩,⟨aW,0,(z52 aa ap D ar),true⟩] rfl gp dT
 have dJ:=gn.move (Step.refl _ Nil) nilM (fun b_ o_ h_ hb_=>gq (G:=F) b_ o_ (.inr h_) hb_)
 refine ⟨_,rfl,fun kO gt=>?_⟩
 have gv:=(EnvOk.places (tb':=[⟨b,o,[.string ((D.f 0).s),.int .i64 ((D.f 1).n),.int .i16 ((D.f 2).n),.bool ((D.f 3).b),.slice ((D.f 4).A) ((D.f 4).l) ((D.f 4).c),.map D.m],false⟩,⟨b7,0,[.int .i64 0,.slice none 0 0,.bool false,.slice none 0 0,.slice none 0 0],true⟩,⟨aa,0,[.int .i64 0,.slice (some ⟨ax,0,none⟩) ((sb ((D.f 0).s)).length) ay,.bool false,.slice none 0 0,.slice none 0 0,.int .i64 ((D.f 1).n),.slice none 0 0,.bool false,.slice none 0 0,.slice none 0 0,.int .i64 (IntKind.i64.wrap ((D.f 2).n)),.slice none 0 0,.bool false,.slice none 0 0,.slice none 0 0,.int .i64 ac,.slice ai ae.length aj,.bool af,.slice ak ag.length al,.slice am ah.length ao,.int .i64 0,.slice none 0 0,.bool (((D.f 4).A).isNone),.slice A4_ k4_ c4_,.slice none 0 0],true⟩,⟨aW,0,[.int .i64 0,.slice none 0 0,.bool false,.slice (some ⟨aa,0,none⟩) 5 5,.slice ap D.u.length ar],true⟩]) gt (show Pl [⟨b,o,[.string ((D.f 0).s),.int .i64 ((D.f 1).n),.int .i16 ((D.f 2).n),.bool ((D.f 3).b),.slice ((D.f 4).A) ((D.f 4).l) ((D.f 4).c),.map D.m],false⟩,⟨b7,0,[.int .i64 0,.slice none 0 0,.bool false,.slice none 0 0,.slice none 0 0],true⟩,⟨aa,0,[.int .i64 0,.slice (some ⟨ax,0,none⟩) ((sb ((D.f 0).s)).length) ay,.bool false,.slice none 0 0,.slice none 0 0,.int .i64 ((D.f 1).n),.slice none 0 0,.bool false,.slice none 0 0,.slice none 0 0,.int .i64 (IntKind.i64.wrap ((D.f 2).n)),.slice none 0 0,.bool false,.slice none 0 0,.slice none 0 0,.int .i64 ac,.slice ai ae.length aj,.bool af,.slice ak ag.length al,.slice am ah.length ao,.int .i64 0,.slice none 0 0,.bool (((D.f 4).A).isNone),.slice A4_ k4_ c4_,.slice none 0 0],true⟩,⟨aW,0,[.int .i64 0,.slice none 0 0,.bool false,.slice (some ⟨aa,0,none⟩) 5 5,.slice none 0 0],true⟩] [⟨b,o,[.string ((D.f 0).s),.int .i64 ((D.f 1).n),.int .i16 ((D.f 2).n),.bool ((D.f 3).b),.slice ((D.f 4).A) ((D.f 4).l) ((D.f 4).c),.map D.m],false⟩,⟨b7,0,[.int .i64 0,.slice none 0 0,.bool false,.slice none 0 0,.slice none 0 0],true⟩,⟨aa,0,[.int .i64 0,.slice (some ⟨ax,0,none⟩) ((sb ((D.f 0).s)).length) ay,.bool false,.slice none 0 0,.slice none 0 0,.int .i64 ((D.f 1).n),.slice none 0 0,.bool false,.slice none 0 0,.slice none 0 0,.int .i64 (IntKind.i64.wrap ((D.f 2).n)),.slice none 0 0,.bool false,.slice none 0 0,.slice none 0 0,.int .i64 ac,.slice ai ae.length aj,.bool af,.slice ak ag.length al,.slice am ah.length ao,.int .i64 0,.slice none 0 0,.bool (((D.f 4).A).isNone),.slice A4_ k4_ c4_,.slice none 0 0],true⟩,⟨aW,0,[.int .i64 0,.slice none 0 0,.bool false,.slice (some ⟨aa,0,none⟩) 5 5,.slice ap D.u.length ar],true⟩] from ⟨rfl,rfl,⟨rfl,rfl,⟨rfl,rfl,⟨rfl,rfl,trivial⟩⟩⟩⟩)).pk (env':=[(101,.v (.tuple #[])),(2,.p 1 0),(3,.p 3 0),(99,.p 0 5),(100,.v (.func (.func 103) #[] #[.pointer (some ⟨aW,0,none⟩)]))])
 refine qae (qab ?_)
 refine qaf [0,1,2] kz ?_
 refine qai [0,1] [2] [(2,.p 1 0),(3,.p 3 0),(103,.v (.slice ap D.u.length ar))] da gv fun kP gw=>?_
 refine qal (qak gw (f:=61) (vs:=[.slice ap D.u.length ar]) (d:=104) kz Tryz.call61 (qgC dJ g6.sorted) ?_)
 rintro e_ kQ ⟨rfl,dK⟩
 refine ⟨_,rfl,fun kR gx=>?_⟩
 have dL:=da.next_nil dK
 have aE:=da.frN dK
 refine qae (qab ?_)
 refine qaf [0,1] kz ?_
 refine qai [0] [1] [(2,.p 1 0),(105,.v (.agg #[.int .i64 0,.slice none 0 0,.bool false,.slice (some ⟨aa,0,none⟩) 5 5,.slice ap D.u.length ar]))] dL gx fun kS gy=>?_
 refine qal (qao dL gy (oi:=1) (cs:=(z52 aa ap D ar)) kz fun db aF dc gz=>?_)
 refine qae (qab ?_)
 refine wp_ret (qaM gz dc.cells (v:=.agg #[.int .i64 0,.slice none 0 0,.bool false,.slice (some ⟨aa,0,none⟩) 5 5,.slice ap D.u.length ar]) kz ?_)
 have dM:=(hT4_.move ((aV.trans aE).trans aF).step immM ((aV.trans aE).trans aF).to')
 rw [qeQ (by omega)] at dM
 exact qfq (u:=D.u) (l:=[.mk 0 (sb (D.f 0).s) false [] [],.mk ((D.f 1).n) [] false [] [],.mk (IntKind.i64.wrap (D.f 2).n) [] false [] [],qko (D.f 3).b,.mk 0 [] (D.f 4).A.isNone ((List.range (D.f 4).l).map fun i=>qaK ((D.f 4).f i)) []]) (css:=[[.int .i64 0,.slice (some ⟨ax,0,none⟩) ((sb ((D.f 0).s)).length) ay,.bool false,.slice none 0 0,.slice none 0 0],[.int .i64 ((D.f 1).n),.slice none 0 0,.bool false,.slice none 0 0,.slice none 0 0],[.int .i64 (IntKind.i64.wrap ((D.f 2).n)),.slice none 0 0,.bool false,.slice none 0 0,.slice none 0 0],[.int .i64 ac,.slice ai ae.length aj,.bool af,.slice ak ag.length al,.slice am ah.length ao],[.int .i64 0,.slice none 0 0,.bool (((D.f 4).A).isNone),.slice A4_ k4_ c4_,.slice none 0 0]]) dc 2 rfl ⟨(show TreeR _ (Imm F w db [⟨b,o,[.string ((D.f 0).s),.int .i64 ((D.f 1).n),.int .i16 ((D.f 2).n),.bool ((D.f 3).b),.slice ((D.f 4).A) ((D.f 4).l) ((D.f 4).c),.map D.m],false⟩,⟨b7,0,[.int .i64 0,.slice none 0 0,.bool false,.slice (some ⟨aa,0,none⟩) 5 5,.slice ap D.u.length ar],true⟩,⟨aa,0,[.int .i64 0,.slice (some ⟨ax,0,none⟩) ((sb ((D.f 0).s)).length) ay,.bool false,.slice none 0 0,.slice none 0 0,.int .i64 ((D.f 1).n),.slice none 0 0,.bool false,.slice none 0 0,.slice none 0 0,.int .i64 (IntKind.i64.wrap ((D.f 2).n)),.slice none 0 0,.bool false,.slice none 0 0,.slice none 0 0,.int .i64 ac,.slice ai ae.length aj,.bool af,.slice ak ag.length al,.slice am ah.length ao,.int .i64 0,.slice none 0 0,.bool (((D.f 4).A).isNone),.slice A4_ k4_ c4_,.slice none 0 0],true⟩,⟨aW,0,[.int .i64 0,.slice none 0 0,.bool false,.slice (some ⟨aa,0,none⟩) 5 5,.slice ap D.u.length ar],true⟩] [⟨A4_,c4_,37,5,k4_,xs4_⟩]) _ _ from (TreeR.mk (n:=0) (b:=false) (s:=(sb ((D.f 0).s))) (l:=[]) (u:=[]) (fun _=>[]) (gO.move ((((((((((((((dW.trans dX).trans dZ).trans d5).trans d7).trans d8).trans cI).trans bQ).trans bR).trans bS).trans bT).trans aI).trans aV).trans aE).trans aF).step immM ((((((((((((((dW.trans dX).trans dZ).trans d5).trans d7).trans d8).trans cI).trans bQ).trans bR).trans bS).trans bT).trans aI).trans aV).trans aE).trans aF).to') (Slots.nil _ _ _ _) (fun i_ x_ h_=>by simp at h_) (TagsR.nil _ _))).move (Step.refl _ Nil) nilM qca,(show TreeR _ (Imm F w db [⟨b,o,[.string ((D.f 0).s),.int .i64 ((D.f 1).n),.int .i16 ((D.f 2).n),.bool ((D.f 3).b),.slice ((D.f 4).A) ((D.f 4).l) ((D.f 4).c),.map D.m],false⟩,⟨b7,0,[.int .i64 0,.slice none 0 0,.bool false,.slice (some ⟨aa,0,none⟩) 5 5,.slice ap D.u.length ar],true⟩,⟨aa,0,[.int .i64 0,.slice (some ⟨ax,0,none⟩) ((sb ((D.f 0).s)).length) ay,.bool false,.slice none 0 0,.slice none 0 0,.int .i64 ((D.f 1).n),.slice none 0 0,.bool false,.slice none 0 0,.slice none 0 0,.int .i64 (IntKind.i64.wrap ((D.f 2).n)),.slice none 0 0,.bool false,.slice none 0 0,.slice none 0 0,.int .i64 ac,.slice ai ae.length aj,.bool af,.slice ak ag.length al,.slice am ah.length ao,.int .i64 0,.slice none 0 0,.bool (((D.f 4).A).isNone),.slice A4_ k4_ c4_,.slice none 0 0],true⟩,⟨aW,0,[.int .i64 0,.slice none 0 0,.bool false,.slice (some ⟨aa,0,none⟩) 5 5,.slice ap D.u.length ar],true⟩] [⟨A4_,c4_,37,5,k4_,xs4_⟩]) _ _ from (TreeR.mk (n:=(D.f 1).n) (b:=false) (s:=[]) (l:=[]) (u:=[]) (fun _=>[]) (Octs.nil _ _) (Slots.nil _ _ _ _) (fun i_ x_ h_=>by simp at h_) (TagsR.nil _ _))).move (Step.refl _ Nil) nilM qca,(show TreeR _ (Imm F w db [⟨b,o,[.string ((D.f 0).s),.int .i64 ((D.f 1).n),.int .i16 ((D.f 2).n),.bool ((D.f 3).b),.slice ((D.f 4).A) ((D.f 4).l) ((D.f 4).c),.map D.m],false⟩,⟨b7,0,[.int .i64 0,.slice none 0 0,.bool false,.slice (some ⟨aa,0,none⟩) 5 5,.slice ap D.u.length ar],true⟩,⟨aa,0,[.int .i64 0,.slice (some ⟨ax,0,none⟩) ((sb ((D.f 0).s)).length) ay,.bool false,.slice none 0 0,.slice none 0 0,.int .i64 ((D.f 1).n),.slice none 0 0,.bool false,.slice none 0 0,.slice none 0 0,.int .i64 (IntKind.i64.wrap ((D.f 2).n)),.slice none 0 0,.bool false,.slice none 0 0,.slice none 0 0,.int .i64 ac,.slice ai ae.length aj,.bool af,.slice ak ag.length al,.slice am ah.length ao,.int .i64 0,.slice none 0 0,.bool (((D.f 4).A).isNone),.slice A4_ k4_ c4_,.slice none 0 0],true⟩,⟨aW,0,[.int .i64 0,.slice none 0 0,.bool false,.slice (some ⟨aa,0,none⟩) 5 5,.slice ap D.u.length ar],true⟩] [⟨A4_,c4_,37,5,k4_,xs4_⟩]) _ _ from (TreeR.mk (n:=IntKind.i64.wrap ((D.f 2).n)) (b:=false) (s:=[]) (l:=[]) (u:=[]) (fun _=>[]) (Octs.nil _ _) (Slots.nil _ _ _ _) (fun i_ x_ h_=>by simp at h_) (TagsR.nil _ _))).move (Step.refl _ Nil) nilM qca,(show TreeR _ (Imm F w db [⟨b,o,[.string ((D.f 0).s),.int .i64 ((D.f 1).n),.int .i16 ((D.f 2).n),.bool ((D.f 3).b),.slice ((D.f 4).A) ((D.f 4).l) ((D.f 4).c),.map D.m],false⟩,⟨b7,0,[.int .i64 0,.slice none 0 0,.bool false,.slice (some ⟨aa,0,none⟩) 5 5,.slice ap D.u.length ar],true⟩,⟨aa,0,[.int .i64 0,.slice (some ⟨ax,0,none⟩) ((sb ((D.f 0).s)).length) ay,.bool false,.slice none 0 0,.slice none 0 0,.int .i64 ((D.f 1).n),.slice none 0 0,.bool false,.slice none 0 0,.slice none 0 0,.int .i64 (IntKind.i64.wrap ((D.f 2).n)),.slice none 0 0,.bool false,.slice none 0 0,.slice none 0 0,.int .i64 ac,.slice ai ae.length aj,.bool af,.slice ak ag.length al,.slice am ah.length ao,.int .i64 0,.slice none 0 0,.bool (((D.f 4).A).isNone),.slice A4_ k4_ c4_,.slice none 0 0],true⟩,⟨aW,0,[.int .i64 0,.slice none 0 0,.bool false,.slice (some ⟨aa,0,none⟩) 5 5,.slice ap D.u.length ar],true⟩] [⟨A4_,c4_,37,5,k4_,xs4_⟩]) _ _ from (cG.move (((((((bQ.trans bR).trans bS).trans bT).trans aI).trans aV).trans aE).trans aF).step immM (((((((bQ.trans bR).trans bS).trans bT).trans aI).trans aV).trans aE).trans aF).to')).move (Step.refl _ Nil) nilM qca,qdQ dc (k:=0) rfl dM (by rw [qbG]; omega) (by rw [qbG]; omega),trivial⟩ ((show TagsR _ (Imm F w db [⟨b,o,[.string ((D.f 0).s),.int .i64 ((D.f 1).n),.int .i16 ((D.f 2).n),.bool ((D.f 3).b),.slice ((D.f 4).A) ((D.f 4).l) ((D.f 4).c),.map D.m],false⟩,⟨b7,0,[.int .i64 0,.slice none 0 0,.bool false,.slice (some ⟨aa,0,none⟩) 5 5,.slice ap D.u.length ar],true⟩,⟨aa,0,[.int .i64 0,.slice (some ⟨ax,0,none⟩) ((sb ((D.f 0).s)).length) ay,.bool false,.slice none 0 0,.slice none 0 0,.int .i64 ((D.f 1).n),.slice none 0 0,.bool false,.slice none 0 0,.slice none 0 0,.int .i64 (IntKind.i64.wrap ((D.f 2).n)),.slice none 0 0,.bool false,.slice none 0 0,.slice none 0 0,.int .i64 ac,.slice ai ae.length aj,.bool af,.slice ak ag.length al,.slice am ah.length ao,.int .i64 0,.slice none 0 0,.bool (((D.f 4).A).isNone),.slice A4_ k4_ c4_,.slice none 0 0],true⟩,⟨aW,0,[.int .i64 0,.slice none 0 0,.bool false,.slice (some ⟨aa,0,none⟩) 5 5,.slice ap D.u.length ar],true⟩] [⟨A4_,c4_,37,5,k4_,xs4_⟩]) _ _ _ from (dJ.move (aE.trans aF).step immM (aE.trans aF).to')).move (Step.refl _ Nil) nilM qca)
abbrev z2 (x0) (x1:DV) (x2) (x3) (x4) (x5):=([.int .i64 0,.slice (some ⟨x0,0,none⟩) ((sb ((x1.f 0).s)).length) x2,.bool false,.slice none 0 0,.slice none 0 0,.int .i64 ((x1.f 1).n),.slice none 0 0,.bool false,.slice none 0 0,.slice none 0 0,.int .i64 (IntKind.i64.wrap ((x1.f 2).n)),.slice none 0 0,.bool false,.slice none 0 0,.slice none 0 0,.int .i64 0,.slice none 0 0,.bool (((x1.f 3).A).isNone),.slice x3 (x4 + 1) x5,.slice none 0 0,.int .i64 0,.slice none 0 0,.bool false,.slice none 0 0,.slice none 0 0]:List Value)
abbrev z3 (x0) (x1:DV) (x2) (x3) (x4) (x5) (x6) (x7) (x8):=([.int .i64 0,.slice (some ⟨x0,0,none⟩) ((sb ((x1.f 0).s)).length) x2,.bool false,.slice none 0 0,.slice none 0 0,.int .i64 ((x1.f 1).n),.slice none 0 0,.bool false,.slice none 0 0,.slice none 0 0,.int .i64 (IntKind.i64.wrap ((x1.f 2).n)),.slice none 0 0,.bool false,.slice none 0 0,.slice none 0 0,.int .i64 0,.slice none 0 0,.bool (((x1.f 3).A).isNone),.slice x3 x4 x5,.slice none 0 0,.int .i64 0,.slice none 0 0,.bool (((x1.f 4).A).isNone),.slice x6 (x7 + 1) x8,.slice none 0 0]:List Value)
abbrev z8 (x0) (x1:DV):=([.int .i16 x0,.string ((x1.f 0).s),.int .i64 ((x1.f 1).n),.int .i16 ((x1.f 2).n),.slice ((x1.f 3).A) ((x1.f 3).l) ((x1.f 3).c),.slice ((x1.f 4).A) ((x1.f 4).l) ((x1.f 4).c),.map x1.m]:List Value)
abbrev z33 (x0) (x1:DV) (x2) (x3) (x4) (x5) (x6) (x7) (x8):=([.int .i64 0,.slice (some ⟨x0,0,none⟩) ((sb ((x1.f 0).s)).length) x2,.bool false,.slice none 0 0,.slice none 0 0,.int .i64 ((x1.f 1).n),.slice none 0 0,.bool false,.slice none 0 0,.slice none 0 0,.int .i64 (IntKind.i64.wrap ((x1.f 2).n)),.slice none 0 0,.bool false,.slice none 0 0,.slice none 0 0,.int .i64 0,.slice none 0 0,.bool (((x1.f 3).A).isNone),.slice x3 x4 x5,.slice none 0 0,.int .i64 0,.slice none 0 0,.bool (((x1.f 4).A).isNone),.slice x6 x7 x8,.slice none 0 0]:List Value)
set_option maxHeartbeats 4000000 in
theorem qdb (v:Int) (D:DV) (b o:Nat) (w:World) (F:Nat → Nat → Prop) (hat:AtF w F b o [.int .i16 v,.string ((D.f 0).s),.int .i64 ((D.f 1).n),.int .i16 ((D.f 2).n),.slice ((D.f 3).A) ((D.f 3).l) ((D.f 3).c),.slice ((D.f 4).A) ((D.f 4).l) ((D.f 4).c),.map D.m]) (hok:qbj w F D):Calls Tryz.prog 28 #[.pointer (some ⟨b,o,none⟩)] w (qdK w F (qbe D)):=by
 refine enter (n:=155) Tryz.func28 rfl Tryz.ntmps28 kz fun a hE=>?_
 have hW:WOk w Nil w [⟨b,o,(z8 v D),false⟩] []:=(WOk.start w Nil).start1 hat rfl rfl
 unfold qbj at hok
 obtain ⟨g1,g2,g3,⟨g4,g4l,g4e⟩,⟨g5,g5l,g5e⟩,g6,g6l,g6x,_⟩:=hok
 have hE0:=(EnvOk.ptr0 (cs:=(z8 v D)) (r:=false) hE).pk (env':=[(0,.p 0 0)])
 refine qaf [0] kz ?_
 refine qal (qaQ hW hE0 (d:=2) (cs:=z0) kz fun b7 a8 w9 nC nD nE lj lm=>?_)
 refine qae (qab ?_)
 refine qaf [0,1,2,3] kz ?_
 refine qal (qeb (t:=34) (e:=37) (size:=5) (bytes:=88) (d:=6) (j:=5) (.agg #[.int .i64 0,.slice none 0 0,.bool false,.slice none 0 0,.slice none 0 0]) z32 lj lm fun aa qz qA nF nG nH gh ln=>?_)
 refine qai [1] [2,3] [(0,.p 0 0),(2,.p 1 0),(7,.v (.agg #[.int .i64 0,.slice none 0 0,.bool false,.slice (some ⟨aa,0,none⟩) 5 5,.slice none 0 0]))] gh ln fun qB lp=>?_
 refine qal (qaQ gh lp (d:=3) (cs:=z0) kz fun ba qC qD nI nJ nK lq lr=>?_)
 refine qal (qao lq lr (oi:=3) (cs:=(z11 aa)) kz fun qE nL ls lu=>?_)
 refine qae (qab ?_)
 refine qaE 9 kz ls fun qF nM lv lw=>?_
 refine qaB [0,1,2,3,4,5] [(0,.p 0 0),(2,.p 1 0),(3,.p 3 0),(9,.v (.slice (some ⟨aa,0,none⟩) 5 5)),(13,.v (.string ((D.f 0).s)))] 4 (qaa qad) (fun _ h=>h.cells) lw lu fun qG lx=>?_
 refine qam (i:=6) kz (qec (d:=14) (src:=9) (dst:=22) (e:=5) (s:=((D.f 0).s)) lv lx (by omega) fun ae af qH qI ly gi lz lA=>?_)
 have lB:=lz F
 have f7:=TT.ofW ly gi
 refine ⟨fun _=>f7,?_⟩
 refine qaB [7] [(0,.p 0 0),(2,.p 1 0),(3,.p 3 0),(9,.v (.slice (some ⟨aa,0,none⟩) 5 5)),(15,.v (.agg #[.int .i64 0,.slice (some ⟨ae,0,none⟩) ((sb ((D.f 0).s)).length) af,.bool false,.slice none 0 0,.slice none 0 0]))] 2 (qaa qad) (fun _ h=>h.cells) f7 lA fun qJ lC=>?_
 refine qaD lC (i:=8) (t:=34) (A:=(some ⟨aa,0,none⟩)) (m:=5) (q:=0) (d:=16) kz (e:=37) (size:=5) (bytes:=88) (j:=0) kz (b:=aa) (o:=0) rfl rfl (by decide) kz kz (qaa qad) f7 fun qK lD=>?_
 have lE:=lD.recast 16 (.v (.pointer (some ⟨aa,0 + 0 * 5,none⟩))) (.p 2 0) rfl rfl (zN (n:=3) rfl)
 have lF:=lE.pk (env':=[(0,.p 0 0),(2,.p 1 0),(3,.p 3 0),(9,.v (.slice (some ⟨aa,0,none⟩) 5 5)),(15,.v (.agg #[.int .i64 0,.slice (some ⟨ae,0,none⟩) ((sb ((D.f 0).s)).length) af,.bool false,.slice none 0 0,.slice none 0 0])),(16,.p 2 0)])
 refine qam (i:=9) kz (qao gi lF (oi:=2) (cs:=(z31 ae D af)) kz fun qL gj lG lH=>?_)
 refine ⟨fun h=>absurd rfl h,?_⟩
 refine qaz kz ?_ _
 refine qab (qaE 8 kz lG fun qM gk lI gl=>?_)
 refine qaB [0,1,2,3,4,5,6] [(0,.p 0 0),(2,.p 1 0),(3,.p 3 0),(18,.v (.slice (some ⟨aa,0,none⟩) 5 5)),(23,.v (.agg #[.int .i64 ((D.f 1).n),.slice none 0 0,.bool false,.slice none 0 0,.slice none 0 0]))] 2 (qaa qad) (fun _ h=>h.cells) gl lH fun qN lJ=>?_
 refine qaD lJ (i:=7) (t:=34) (A:=(some ⟨aa,0,none⟩)) (m:=5) (q:=1) (d:=24) kz (e:=37) (size:=5) (bytes:=88) (j:=1) kz (b:=aa) (o:=0) rfl rfl (by decide) kz kz (qaa qad) gl fun qO lK=>?_
 have lL:=lK.recast 24 (.v (.pointer (some ⟨aa,0 + 1 * 5,none⟩))) (.p 2 5) rfl rfl (zN (n:=3) rfl)
 have lM:=lL.pk (env':=[(0,.p 0 0),(2,.p 1 0),(3,.p 3 0),(18,.v (.slice (some ⟨aa,0,none⟩) 5 5)),(23,.v (.agg #[.int .i64 ((D.f 1).n),.slice none 0 0,.bool false,.slice none 0 0,.slice none 0 0])),(24,.p 2 5)])
 refine qam (i:=8) kz (qao lI lM (oi:=2) (cs:=(z30 ae D af)) kz fun qP gm lN lO=>?_)
 refine ⟨fun h=>absurd rfl h,?_⟩
 refine qaz kz ?_ _
 refine qab (qaE 9 kz lN fun qQ gn lP gp=>?_)
 refine qaB [0,1,2,3,4,5,6,7] [(0,.p 0 0),(2,.p 1 0),(3,.p 3 0),(26,.v (.slice (some ⟨aa,0,none⟩) 5 5)),(32,.v (.agg #[.int .i64 (IntKind.i64.wrap ((D.f 2).n)),.slice none 0 0,.bool false,.slice none 0 0,.slice none 0 0]))] 2 (qaa qad) (fun _ h=>h.cells) gp lO fun qR lQ=>?_
 refine qaD lQ (i:=8) (t:=34) (A:=(some ⟨aa,0,none⟩)) (m:=5) (q:=2) (d:=33) kz (e:=37) (size:=5) (bytes:=88) (j:=2) kz (b:=aa) (o:=0) rfl rfl (by decide) kz kz (qaa qad) gp fun qS lR=>?_
 have lS:=lR.recast 33 (.v (.pointer (some ⟨aa,0 + 2 * 5,none⟩))) (.p 2 10) rfl rfl (zN (n:=3) rfl)
 have lT:=lS.pk (env':=[(0,.p 0 0),(2,.p 1 0),(3,.p 3 0),(26,.v (.slice (some ⟨aa,0,none⟩) 5 5)),(32,.v (.agg #[.int .i64 (IntKind.i64.wrap ((D.f 2).n)),.slice none 0 0,.bool false,.slice none 0 0,.slice none 0 0])),(33,.p 2 10)])
 refine qam (i:=9) kz (qao lP lT (oi:=2) (cs:=(z14 ae D af)) kz fun qT gq lU lV=>?_)
 refine ⟨fun h=>absurd rfl h,?_⟩
 refine qaz kz ?_ _
 refine qab (qaE 9 kz lU fun qU gt lW f8=>?_)
 refine qaB [0,1,2,3,4,5,6] [(0,.p 0 0),(2,.p 1 0),(3,.p 3 0),(35,.v (.slice (some ⟨aa,0,none⟩) 5 5)),(40,.v (.bool (((D.f 3).A).isNone)))] 3 (qaa qad) (fun _ h=>h.cells) f8 lV fun qV lX=>?_
 refine qam (i:=7) kz (qax lX (t:=34) (A:=(some ⟨aa,0,none⟩)) (m:=5) (q:=3) (d:=41) kz (e:=37) (size:=5) (bytes:=88) (j:=3) kz (b:=aa) (o:=0) rfl rfl (by decide) fun qW lY=>?_)
 have lZ:=lY.recast 41 (.v (.pointer (some ⟨aa,0 + 3 * 5,none⟩))) (.p 2 15) rfl rfl (zN (n:=3) rfl)
 have gv:=lZ.pk (env':=[(0,.p 0 0),(2,.p 1 0),(3,.p 3 0),(35,.v (.slice (some ⟨aa,0,none⟩) 5 5)),(40,.v (.bool (((D.f 3).A).isNone))),(41,.p 2 15)])
 refine ⟨fun _=>f8,?_⟩
 refine qaB [8] [(0,.p 0 0),(2,.p 1 0),(3,.p 3 0),(40,.v (.bool (((D.f 3).A).isNone))),(42,.p 2 17)] 1 (qaa qad) (fun _ h=>h.cells) f8 gv fun nN gw=>?_
 refine qam (i:=9) kz (qao lW gw (oi:=2) (cs:=[.int .i64 0,.slice (some ⟨ae,0,none⟩) ((sb ((D.f 0).s)).length) af,.bool false,.slice none 0 0,.slice none 0 0,.int .i64 ((D.f 1).n),.slice none 0 0,.bool false,.slice none 0 0,.slice none 0 0,.int .i64 (IntKind.i64.wrap ((D.f 2).n)),.slice none 0 0,.bool false,.slice none 0 0,.slice none 0 0,.int .i64 0,.slice none 0 0,.bool (((D.f 3).A).isNone),.slice none 0 0,.slice none 0 0,.int .i64 0,.slice none 0 0,.bool false,.slice none 0 0,.slice none 0 0]) kz fun nO eX d6 gx=>?_)
 refine ⟨fun h=>absurd rfl h,?_⟩
 refine qaz kz ?_ _
 refine qab (wp_seq (qas [(0,.p 0 0),(2,.p 1 0),(3,.p 3 0),(47,.v (.int .i64 (((D.f 3).l:Nat):Int))),(48,.v (.int .i64 0))] d6 gx fun nP gy=>?_))
 refine wp_block ?_
 have eY:=d6.addNil 37 5
 have eZ:=d6.frNil 37 5
 refine wp_loop_ghost (fun n_ a_ w_=>∃ (k3_:Nat) (A3_:Option Addr) (c3_:Nat) (xs3_:List Value) (css3_:List (List Value)),n_ = (D.f 3).l - k3_ ∧ k3_ ≤ (D.f 3).l ∧ (Trees w_ (Imm F w w_ [⟨b,o,[.int .i16 v,.string ((D.f 0).s),.int .i64 ((D.f 1).n),.int .i16 ((D.f 2).n),.slice ((D.f 3).A) ((D.f 3).l) ((D.f 3).c),.slice ((D.f 4).A) ((D.f 4).l) ((D.f 4).c),.map D.m],false⟩,⟨b7,0,[.int .i64 0,.slice none 0 0,.bool false,.slice none 0 0,.slice none 0 0],true⟩,⟨aa,0,[.int .i64 0,.slice (some ⟨ae,0,none⟩) ((sb ((D.f 0).s)).length) af,.bool false,.slice none 0 0,.slice none 0 0,.int .i64 ((D.f 1).n),.slice none 0 0,.bool false,.slice none 0 0,.slice none 0 0,.int .i64 (IntKind.i64.wrap ((D.f 2).n)),.slice none 0 0,.bool false,.slice none 0 0,.slice none 0 0,.int .i64 0,.slice none 0 0,.bool (((D.f 3).A).isNone),.slice A3_ k3_ c3_,.slice none 0 0,.int .i64 0,.slice none 0 0,.bool false,.slice none 0 0,.slice none 0 0],true⟩,⟨ba,0,[.int .i64 0,.slice none 0 0,.bool false,.slice (some ⟨aa,0,none⟩) 5 5,.slice none 0 0],true⟩] [⟨A3_,c3_,37,5,k3_,xs3_⟩]) xs3_ (((List.range (D.f 3).l).map (fun i=>qa3 ((D.f 3).f i))).take k3_) css3_) ∧ LInv eY 155 [⟨b,o,[.int .i16 v,.string ((D.f 0).s),.int .i64 ((D.f 1).n),.int .i16 ((D.f 2).n),.slice ((D.f 3).A) ((D.f 3).l) ((D.f 3).c),.slice ((D.f 4).A) ((D.f 4).l) ((D.f 4).c),.map D.m],false⟩,⟨b7,0,[.int .i64 0,.slice none 0 0,.bool false,.slice none 0 0,.slice none 0 0],true⟩,⟨aa,0,[.int .i64 0,.slice (some ⟨ae,0,none⟩) ((sb ((D.f 0).s)).length) af,.bool false,.slice none 0 0,.slice none 0 0,.int .i64 ((D.f 1).n),.slice none 0 0,.bool false,.slice none 0 0,.slice none 0 0,.int .i64 (IntKind.i64.wrap ((D.f 2).n)),.slice none 0 0,.bool false,.slice none 0 0,.slice none 0 0,.int .i64 0,.slice none 0 0,.bool (((D.f 3).A).isNone),.slice A3_ k3_ c3_,.slice none 0 0,.int .i64 0,.slice none 0 0,.bool false,.slice none 0 0,.slice none 0 0],true⟩,⟨ba,0,[.int .i64 0,.slice none 0 0,.bool false,.slice (some ⟨aa,0,none⟩) 5 5,.slice none 0 0],true⟩] [⟨A3_,c3_,37,5,k3_,xs3_⟩] [(0,.p 0 0),(2,.p 1 0),(3,.p 3 0),(47,.v (.int .i64 (((D.f 3).l:Nat):Int))),(48,.v (.int .i64 ((k3_:Nat):Int)))] a_ w_) ((D.f 3).l) ⟨0,none,0,[],[],by omega,by omega,Trees.nil _ _,gy.pk,eY,Fr.refl _ _ _⟩ ?_
 rintro nQ nR nS ⟨k3_,A3_,c3_,xs3_,css3_,mC,mD,hT3_,gz,dc,cA⟩
 refine qas [(0,.p 0 0),(2,.p 1 0),(3,.p 3 0),(47,.v (.int .i64 (((D.f 3).l:Nat):Int))),(48,.v (.int .i64 ((k3_:Nat):Int))),(49,.v (.bool (decide (((k3_:Nat):Int) < (((D.f 3).l:Nat):Int)))))] dc gz fun nT d7=>?_
 refine wp_seq (qaw d7 (b:=decide (((k3_:Nat):Int) < (((D.f 3).l:Nat):Int))) kz (fun d8=>?_) (fun d8=>?_))
 ·
  have mF:=zD d8
  refine wp_skip (qab (wp_seq (wp_block (qas [(0,.p 0 0),(2,.p 1 0),(3,.p 3 0),(4,.v (.int .i64 ((k3_:Nat):Int))),(47,.v (.int .i64 (((D.f 3).l:Nat):Int))),(48,.v (.int .i64 ((k3_:Nat):Int)))] dc d7 fun nU gA=>?_))))
  refine qaE 4 kz dc fun nV aj gB mG=>?_
  refine qam (i:=0) kz (qaQ gB gA (d:=51) (cs:=[.bool false]) kz fun nW nX nY mH mI ab d9 e9=>?_)
  have gC:=TT.ofW ab d9
  refine ⟨fun _=>gC,?_⟩
  refine qcX (i:=1) (j:=2) kz ?_ ?_
  ·
   refine (qao d9 e9 (oi:=4) (cs:=[.bool true]) kz fun nZ bd fa gD=>?_)
   have gE:=TT.ofW (ab.trans bd) fa
   refine ⟨fun _=>gE,?_⟩
   refine qam (i:=2) kz (qao fa gD (oi:=4) (cs:=[.bool false]) kz fun n0 cB de gF=>?_)
   have gG:=TT.ofW ((ab.trans bd).trans cB) de
   refine ⟨fun _=>gG,?_⟩
   refine qam (i:=3) kz (qbf [0,2,3,4,47,48,52] de.cells gF (env':=[(0,.p 0 0),(2,.p 1 0),(3,.p 3 0),(4,.v (.int .i64 ((k3_:Nat):Int))),(47,.v (.int .i64 (((D.f 3).l:Nat):Int))),(48,.v (.int .i64 ((k3_:Nat):Int))),(52,.v (.bool false))]) kz fun n4 fb=>?_)
   have gH:=TT.ofW ((ab.trans bd).trans cB) de
   refine ⟨fun _=>gH,?_⟩
   refine qaz kz ?_ _
   refine qab (qan fb (b:=false) kz rfl ?_)
   refine qcu 18 kz de fun n5 ea aH df=>?_
   refine qaB [0,1,2,3,7,8,9,10,11] [(0,.p 0 0),(2,.p 1 0),(3,.p 3 0),(47,.v (.int .i64 (((D.f 3).l:Nat):Int))),(48,.v (.int .i64 ((k3_:Nat):Int))),(72,.v (.slice (some ⟨aa,0,none⟩) 5 5)),(74,.v (.slice (some ⟨aa,0,none⟩) 5 5)),(81,.v (.slice ((D.f 3).A) ((D.f 3).l) ((D.f 3).c))),(82,.v (.int .i64 ((k3_:Nat):Int)))] 10 (qac (qaa (qaa (qac (qaa qad))))) (fun _ h=>h.cells) df fb fun n8 gI=>?_
   refine qaD gI (i:=4) (t:=34) (A:=(some ⟨aa,0,none⟩)) (m:=5) (q:=3) (d:=75) kz (e:=37) (size:=5) (bytes:=88) (j:=3) kz (b:=aa) (o:=0) rfl rfl (by decide) kz kz (qac (qaa (qaa (qac (qaa qad))))) df fun oa gJ=>?_
   have gK:=gJ.recast 75 (.v (.pointer (some ⟨aa,0 + 3 * 5,none⟩))) (.p 2 15) rfl rfl (zN (n:=3) rfl)
   have gL:=gK.pk (env':=[(0,.p 0 0),(2,.p 1 0),(3,.p 3 0),(47,.v (.int .i64 (((D.f 3).l:Nat):Int))),(48,.v (.int .i64 ((k3_:Nat):Int))),(72,.v (.slice (some ⟨aa,0,none⟩) 5 5)),(74,.v (.slice (some ⟨aa,0,none⟩) 5 5)),(81,.v (.slice ((D.f 3).A) ((D.f 3).l) ((D.f 3).c))),(82,.v (.int .i64 ((k3_:Nat):Int))),(75,.p 2 15)])
   refine qaB [5,6] [(0,.p 0 0),(2,.p 1 0),(3,.p 3 0),(47,.v (.int .i64 (((D.f 3).l:Nat):Int))),(48,.v (.int .i64 ((k3_:Nat):Int))),(72,.v (.slice (some ⟨aa,0,none⟩) 5 5)),(77,.v (.slice A3_ k3_ c3_)),(81,.v (.slice ((D.f 3).A) ((D.f 3).l) ((D.f 3).c))),(82,.v (.int .i64 ((k3_:Nat):Int)))] 7 (qac (qaa (qaa (qac (qaa qad))))) (fun _ h=>h.cells) df gL fun od gM=>?_
   obtain ⟨gN,gO,gP,mJ,f9⟩:=Slots.get g4 (i:=k3_) (by omega)
   refine qaD gM (i:=12) (t:=77) (A:=(D.f 3).A) (m:=((D.f 3).l)) (q:=((k3_:Nat):Int)) (d:=83) kz (e:=89) (size:=3) (bytes:=48) kz gP rfl (by omega) kz kz (qac (qaa (qaa (qac (qaa qad))))) df fun oe gQ=>?_
   refine qam (i:=13) kz (qak gQ (f:=57) (vs:=(z81 gN gO k3_)) (d:=84) kz Tryz.call57 (qbF 0 ((D.f 3).f k3_) _ _ _ _ (f9.move aH.step nilM aH.imm) (qa5 _ aH.step nilM aH.imm (g4e k3_ (by omega)))) ?_)
   rintro e_ og ⟨mK,rfl,gR,eb⟩
   have ec:=gR.move (Step.refl _ Nil) nilM (aH.laid (G:=F) eb)
   obtain ⟨dB,dC,dD,dE,dF,dG,dH,dI,dJ,dK,dL,mL,mM,ee,l0,l3,oh,ol⟩:=ec.open_
   rw [ee] at ec
   have l5:=l0.small
   have l6:=l3.small
   rw [ee]
   refine ⟨_,rfl,fun om gS=>?_⟩
   have fe:=aH.next_nil eb
   have aI:=aH.frN eb
   have gT:=TT.ofW aI fe
   refine ⟨fun _=>gT,?_⟩
   refine qam (i:=14) kz (qbu fe gS (e:=37) (size:=5) (len:=1) (cs:=(z1 dB dG dC.length dH dD dI dE.length dJ dK dF.length dL)) (d:=85) kz kz fun gU oq ot mN mO ao dg gV=>?_)
   have gW:=TT.ofW (aI.trans ao) dg
   refine ⟨fun _=>gW,?_⟩
   refine qam (i:=15) kz (qaR dg gV (k:=0) (d:=86) (t:=34) (e:=37) (size:=5) (bytes:=88) (A:=A3_) (As:=(some ⟨gU,0,none⟩)) (m0:=k3_) (c:=c3_) (m:=1) (cs:=1) (xs:=xs3_) (news:=(z1 dB dG dC.length dH dD dI dE.length dJ dK dF.length dL)) kz kz rfl (qby (dg.own 1 _ rfl) (qbw kz)) (qbE (dg.own 1 _ rfl)) (by omega) fun dM dN ou ov aJ ef gX=>?_)
   have gY:=TT.ofW ((aI.trans ao).trans aJ) ef
   refine ⟨fun _=>gY,?_⟩
   refine qam (i:=16) kz (qax gX (t:=34) (A:=(some ⟨aa,0,none⟩)) (m:=5) (q:=3) (d:=87) kz (e:=37) (size:=5) (bytes:=88) (j:=3) kz (b:=aa) (o:=0) rfl rfl (by decide) fun ow gZ=>?_)
   have g7:=gZ.recast 87 (.v (.pointer (some ⟨aa,0 + 3 * 5,none⟩))) (.p 2 15) rfl rfl (zN (n:=3) rfl)
   have g8:=g7.pk (env':=[(0,.p 0 0),(2,.p 1 0),(3,.p 3 0),(47,.v (.int .i64 (((D.f 3).l:Nat):Int))),(48,.v (.int .i64 ((k3_:Nat):Int))),(72,.v (.slice (some ⟨aa,0,none⟩) 5 5)),(77,.v (.slice A3_ k3_ c3_)),(81,.v (.slice ((D.f 3).A) ((D.f 3).l) ((D.f 3).c))),(82,.v (.int .i64 ((k3_:Nat):Int))),(83,.v (.pointer (some ⟨gN,gO + k3_ * 3,none⟩))),(84,.v (.agg #[.int .i64 dB,.slice dG dC.length dH,.bool dD,.slice dI dE.length dJ,.slice dK dF.length dL])),(85,.v (.slice (some ⟨gU,0,none⟩) 1 1)),(86,.v (.slice dM (k3_ + 1) dN)),(87,.p 2 15)])
   have ff:=TT.ofW ((aI.trans ao).trans aJ) ef
   refine ⟨fun _=>ff,?_⟩
   refine qaB [17] [(0,.p 0 0),(2,.p 1 0),(3,.p 3 0),(47,.v (.int .i64 (((D.f 3).l:Nat):Int))),(48,.v (.int .i64 ((k3_:Nat):Int))),(86,.v (.slice dM (k3_ + 1) dN)),(88,.p 2 18)] 1 (qac (qaa (qaa (qac (qaa qad))))) (fun _ h=>h.cells) ff g8 fun ox g9=>?_
   refine qam (i:=18) kz (qao ef g9 (oi:=2) (cs:=(z2 ae D af dM k3_ dN)) kz fun oy cC fg hC=>?_)
   refine ⟨fun h=>absurd rfl h,?_⟩
   refine qaz kz ?_ _
   refine qar (qab (qap [0,1] kz ?_))
   refine qai [0,1] [] [(0,.p 0 0),(2,.p 1 0),(3,.p 3 0),(47,.v (.int .i64 (((D.f 3).l:Nat):Int))),(48,.v (.int .i64 (IntKind.i64.wrap (((k3_:Nat):Int) + 1))))] fg hC fun oz hJ=>?_
   refine qae (qab ?_)
   obtain ⟨fh,hK,cD⟩:=fg.cutB hJ 4 [⟨b,o,(z8 v D),false⟩,⟨b7,0,z0,true⟩,⟨aa,0,(z2 ae D af dM k3_ dN),true⟩,⟨ba,0,(z11 aa),true⟩] [(0,.p 0 0),(2,.p 1 0),(3,.p 3 0),(47,.v (.int .i64 (((D.f 3).l:Nat):Int))),(48,.v (.int .i64 (IntKind.i64.wrap (((k3_:Nat):Int) + 1))))]
   obtain ⟨hZ,cE⟩:=hK.cutR 1 [⟨dM,dN,37,5,k3_ + 1,xs3_ ++ (z1 dB dG dC.length dH dD dI dE.length dJ dK dF.length dL)⟩]
   have ia:IntKind.i64.wrap (((k3_:Nat):Int) + 1) = ((k3_ + 1:Nat):Int):=qaO (by omega)
   rw [ia] at fh
   exact ⟨(D.f 3).l - (k3_ + 1),by omega,k3_ + 1,dM,dN,xs3_ ++ [Value.int .i64 dB,.slice dG dC.length dH,.bool dD,.slice dI dE.length dJ,.slice dK dF.length dL],(css3_ ++ [[Value.int .i64 dB,.slice dG dC.length dH,.bool dD,.slice dI dE.length dJ,.slice dK dF.length dL]]),rfl,by omega,by rw [qbQ (by omega)]; exact (hT3_.move ((((((((((aj.trans ab).trans bd).trans cB).trans ea).trans aI).trans ao).trans aJ).trans cC).trans cD).trans cE).step immM ((((((((((aj.trans ab).trans bd).trans cB).trans ea).trans aI).trans ao).trans aJ).trans cC).trans cD).trans cE).to').snoc (x:=(fun i=>qa3 ((D.f 3).f i)) k3_) (ec.move ((((ao.trans aJ).trans cC).trans cD).trans cE).step immM ((((ao.trans aJ).trans cC).trans cD).trans cE).to'),fh.pk,hZ,(((((((((((cA.trans aj).trans ab).trans bd).trans cB).trans ea).trans aI).trans ao).trans aJ).trans cC).trans cD).trans cE)⟩
  refine (qao d9 e9 (oi:=4) (cs:=[.bool false]) kz fun oA ak fi ib=>?_)
  have ic:=TT.ofW (ab.trans ak) fi
  refine ⟨fun _=>ic,?_⟩
  refine qam (i:=1) kz (qao fi ib (oi:=4) (cs:=[.bool true]) kz fun oB ap dh ig=>?_)
  have ii:=TT.ofW ((ab.trans ak).trans ap) dh
  refine ⟨fun _=>ii,?_⟩
  refine qam (i:=3) kz (qbf [0,2,3,4,47,48,52] dh.cells ig (env':=[(0,.p 0 0),(2,.p 1 0),(3,.p 3 0),(4,.v (.int .i64 ((k3_:Nat):Int))),(47,.v (.int .i64 (((D.f 3).l:Nat):Int))),(48,.v (.int .i64 ((k3_:Nat):Int))),(52,.v (.bool true))]) kz fun oC fj=>?_)
  have ij:=TT.ofW ((ab.trans ak).trans ap) dh
  refine ⟨fun _=>ij,?_⟩
  refine qaz kz ?_ _
  refine qab (qa7 fj (b:=true) kz rfl ?_)
  refine qaE 17 kz dh fun oD bf ar di=>?_
  refine qaB [0,1,5,6,7,8,9] [(0,.p 0 0),(2,.p 1 0),(3,.p 3 0),(47,.v (.int .i64 (((D.f 3).l:Nat):Int))),(48,.v (.int .i64 ((k3_:Nat):Int))),(54,.v (.slice (some ⟨aa,0,none⟩) 5 5)),(61,.v (.slice ((D.f 3).A) ((D.f 3).l) ((D.f 3).c))),(62,.v (.int .i64 ((k3_:Nat):Int)))] 11 (qaa (qac (qaa (qaa (qac (qaa qad)))))) (fun _ h=>h.cells) di fj fun oE ik=>?_
  refine qaD ik (i:=2) (t:=34) (A:=(some ⟨aa,0,none⟩)) (m:=5) (q:=3) (d:=55) kz (e:=37) (size:=5) (bytes:=88) (j:=3) kz (b:=aa) (o:=0) rfl rfl (by decide) kz kz (qaa (qac (qaa (qaa (qac (qaa qad)))))) di fun oF il=>?_
  have im:=il.recast 55 (.v (.pointer (some ⟨aa,0 + 3 * 5,none⟩))) (.p 2 15) rfl rfl (zN (n:=3) rfl)
  have io:=im.pk (env':=[(0,.p 0 0),(2,.p 1 0),(3,.p 3 0),(47,.v (.int .i64 (((D.f 3).l:Nat):Int))),(48,.v (.int .i64 ((k3_:Nat):Int))),(54,.v (.slice (some ⟨aa,0,none⟩) 5 5)),(61,.v (.slice ((D.f 3).A) ((D.f 3).l) ((D.f 3).c))),(62,.v (.int .i64 ((k3_:Nat):Int))),(55,.p 2 15)])
  refine qaB [3,4,12] [(0,.p 0 0),(2,.p 1 0),(3,.p 3 0),(47,.v (.int .i64 (((D.f 3).l:Nat):Int))),(48,.v (.int .i64 ((k3_:Nat):Int))),(54,.v (.slice (some ⟨aa,0,none⟩) 5 5)),(57,.v (.slice A3_ k3_ c3_)),(61,.v (.slice ((D.f 3).A) ((D.f 3).l) ((D.f 3).c))),(62,.v (.int .i64 ((k3_:Nat):Int))),(65,.v (.int .i64 ((k3_:Nat):Int)))] 7 (qaa (qac (qaa (qaa (qac (qaa qad)))))) (fun _ h=>h.cells) di io fun oG ip=>?_
  obtain ⟨eR,eS,iq,mQ,eg⟩:=Slots.get g4 (i:=k3_) (by omega)
  refine qaD ip (i:=10) (t:=77) (A:=(D.f 3).A) (m:=((D.f 3).l)) (q:=((k3_:Nat):Int)) (d:=63) kz (e:=89) (size:=3) (bytes:=48) kz iq rfl (by omega) kz kz (qaa (qac (qaa (qaa (qac (qaa qad)))))) di fun oH fk=>?_
  refine qcX (i:=11) (j:=13) kz ?_ ?_
  ·
   refine (qak fk (f:=57) (vs:=(z81 eR eS k3_)) (d:=64) kz Tryz.call57 (qbF 0 ((D.f 3).f k3_) _ _ _ _ (eg.move ar.step nilM ar.imm) (qa5 _ ar.step nilM ar.imm (g4e k3_ (by omega)))) ?_)
   rintro e_ oI ⟨mR,rfl,ir,eh⟩
   have ei:=ir.move (Step.refl _ Nil) nilM (ar.laid (G:=F) eh)
   obtain ⟨bn,bo,bp,bq,bt,bu,bw,bx,bz,bA,bB,mS,mT,ej,l7,l9,oJ,oK⟩:=ei.open_
   rw [ej] at ei
   have ma:=l7.small
   have mc:=l9.small
   rw [ej]
   refine ⟨_,rfl,fun oL iu=>?_⟩
   have fm:=ar.next_nil eh
   have aK:=ar.frN eh
   have iv:=TT.ofW aK fm
   refine ⟨fun _=>iv,?_⟩
   refine qam (i:=13) kz (qbu fm iu (e:=37) (size:=5) (len:=1) (cs:=z0) (d:=66) kz kz fun ga oM oN mU mV au dj iw=>?_)
   have ix:=TT.ofW (aK.trans au) dj
   refine ⟨fun _=>ix,?_⟩
   refine qam (i:=14) kz (qaR dj iw (k:=0) (d:=67) (t:=34) (e:=37) (size:=5) (bytes:=88) (A:=A3_) (As:=(some ⟨ga,0,none⟩)) (m0:=k3_) (c:=c3_) (m:=1) (cs:=1) (xs:=xs3_) (news:=z0) kz kz rfl (qby (dj.own 1 _ rfl) (qbw kz)) (qbE (dj.own 1 _ rfl)) (by omega) fun aD aL oO oP aM ek iy=>?_)
   have iz:=TT.ofW ((aK.trans au).trans aM) ek
   refine ⟨fun _=>iz,?_⟩
   refine qam (i:=15) kz (qax iy (t:=34) (A:=(some ⟨aa,0,none⟩)) (m:=5) (q:=3) (d:=68) kz (e:=37) (size:=5) (bytes:=88) (j:=3) kz (b:=aa) (o:=0) rfl rfl (by decide) fun oQ iA=>?_)
   have iB:=iA.recast 68 (.v (.pointer (some ⟨aa,0 + 3 * 5,none⟩))) (.p 2 15) rfl rfl (zN (n:=3) rfl)
   have iC:=iB.pk (env':=[(0,.p 0 0),(2,.p 1 0),(3,.p 3 0),(47,.v (.int .i64 (((D.f 3).l:Nat):Int))),(48,.v (.int .i64 ((k3_:Nat):Int))),(54,.v (.slice (some ⟨aa,0,none⟩) 5 5)),(57,.v (.slice A3_ k3_ c3_)),(61,.v (.slice ((D.f 3).A) ((D.f 3).l) ((D.f 3).c))),(62,.v (.int .i64 ((k3_:Nat):Int))),(65,.v (.int .i64 ((k3_:Nat):Int))),(63,.v (.pointer (some ⟨eR,eS + k3_ * 3,none⟩))),(64,.v (.agg #[.int .i64 bn,.slice bu bo.length bw,.bool bp,.slice bx bq.length bz,.slice bA bt.length bB])),(66,.v (.slice (some ⟨ga,0,none⟩) 1 1)),(67,.v (.slice aD (k3_ + 1) aL)),(68,.p 2 15)])
   have fo:=TT.ofW ((aK.trans au).trans aM) ek
   refine ⟨fun _=>fo,?_⟩
   refine qaB [16] [(0,.p 0 0),(2,.p 1 0),(3,.p 3 0),(47,.v (.int .i64 (((D.f 3).l:Nat):Int))),(48,.v (.int .i64 ((k3_:Nat):Int))),(64,.v (.agg #[.int .i64 bn,.slice bu bo.length bw,.bool bp,.slice bx bq.length bz,.slice bA bt.length bB])),(65,.v (.int .i64 ((k3_:Nat):Int))),(67,.v (.slice aD (k3_ + 1) aL)),(69,.p 2 18)] 1 (qaa (qac (qaa (qaa (qac (qaa qad)))))) (fun _ h=>h.cells) fo iC fun oR iD=>?_
   refine qam (i:=17) kz (qao ek iD (oi:=2) (cs:=(z2 ae D af aD k3_ aL)) kz fun md cG fq iE=>?_)
   refine ⟨fun h=>absurd rfl h,?_⟩
   refine qaz kz ?_ _
   refine qab (qap [0,1] kz ?_)
   have iF:World.ownsRow md 0 37 5 (.slice aD (k3_ + 1) aL) (k3_ + 1) (xs3_ ++ z0):=fq.own 0 _ rfl
   obtain ⟨iG,fr⟩:=qbX iF (by omega)
   refine qal (qax iE (t:=34) (A:=aD) (m:=(k3_ + 1)) (q:=((k3_:Nat):Int)) (d:=70) kz (e:=37) (size:=5) (bytes:=88) kz (b:=iG) (o:=0) (j:=k3_) fr (rfl) (by omega) fun oS iH=>?_)
   refine qal (qbL fq iH (k:=0) (g:=iG) (o:=k3_ * 5) (c:=aL) (m:=(k3_ + 1)) (size:=5) (e:=37) (A:=aD) (xs:=(xs3_ ++ [.int .i64 0,.slice none 0 0,.bool false,.slice none 0 0,.slice none 0 0])) (vs:=[.int .i64 bn,.slice bu bo.length bw,.bool bp,.slice bx bq.length bz,.slice bA bt.length bB]) kz rfl fr (by simp only [List.length_cons,List.length_nil]; omega) fun oT cH iI iJ=>?_)
   have iK:(⟨aD,aL,37,5,k3_ + 1,qbt (xs3_ ++ [.int .i64 0,.slice none 0 0,.bool false,.slice none 0 0,.slice none 0 0]) (k3_ * 5) [.int .i64 bn,.slice bu bo.length bw,.bool bp,.slice bx bq.length bz,.slice bA bt.length bB]⟩:Rw) = ⟨aD,aL,37,5,k3_ + 1,xs3_ ++ [.int .i64 bn,.slice bu bo.length bw,.bool bp,.slice bx bq.length bz,.slice bA bt.length bB]⟩:=by rw [qcn (by rw [hT3_.xslen,List.length_take,qbG]; omega)]
   obtain ⟨ft,cI⟩:=iI.rowEq 0 [⟨aD,aL,37,5,k3_ + 1,xs3_ ++ (z1 bn bu bo.length bw bp bx bq.length bz bA bt.length bB)⟩,⟨some ⟨ga,0,none⟩,1,37,5,1,z0⟩] iK
   refine qae (qar (qab (qap [0,1] kz ?_)))
   refine qai [0,1] [] [(0,.p 0 0),(2,.p 1 0),(3,.p 3 0),(47,.v (.int .i64 (((D.f 3).l:Nat):Int))),(48,.v (.int .i64 (IntKind.i64.wrap (((k3_:Nat):Int) + 1))))] ft iJ fun oU iL=>?_
   refine qae (qab ?_)
   obtain ⟨fu,iM,cJ⟩:=ft.cutB iL 4 [⟨b,o,(z8 v D),false⟩,⟨b7,0,z0,true⟩,⟨aa,0,(z2 ae D af aD k3_ aL),true⟩,⟨ba,0,(z11 aa),true⟩] [(0,.p 0 0),(2,.p 1 0),(3,.p 3 0),(47,.v (.int .i64 (((D.f 3).l:Nat):Int))),(48,.v (.int .i64 (IntKind.i64.wrap (((k3_:Nat):Int) + 1))))]
   obtain ⟨iN,cK⟩:=iM.cutR 1 [⟨aD,aL,37,5,k3_ + 1,xs3_ ++ (z1 bn bu bo.length bw bp bx bq.length bz bA bt.length bB)⟩]
   have iO:IntKind.i64.wrap (((k3_:Nat):Int) + 1) = ((k3_ + 1:Nat):Int):=qaO (by omega)
   rw [iO] at fu
   exact ⟨(D.f 3).l - (k3_ + 1),by omega,k3_ + 1,aD,aL,xs3_ ++ [Value.int .i64 bn,.slice bu bo.length bw,.bool bp,.slice bx bq.length bz,.slice bA bt.length bB],(css3_ ++ [[Value.int .i64 bn,.slice bu bo.length bw,.bool bp,.slice bx bq.length bz,.slice bA bt.length bB]]),rfl,by omega,by rw [qbQ (by omega)]; exact (hT3_.move ((((((((((((aj.trans ab).trans ak).trans ap).trans bf).trans aK).trans au).trans aM).trans cG).trans cH).trans cI).trans cJ).trans cK).step immM ((((((((((((aj.trans ab).trans ak).trans ap).trans bf).trans aK).trans au).trans aM).trans cG).trans cH).trans cI).trans cJ).trans cK).to').snoc (x:=(fun i=>qa3 ((D.f 3).f i)) k3_) (ei.move ((((((au.trans aM).trans cG).trans cH).trans cI).trans cJ).trans cK).step immM ((((((au.trans aM).trans cG).trans cH).trans cI).trans cJ).trans cK).to'),fu.pk,iN,(((((((((((((cA.trans aj).trans ab).trans ak).trans ap).trans bf).trans aK).trans au).trans aM).trans cG).trans cH).trans cI).trans cJ).trans cK)⟩
  refine (qbu ar fk (e:=37) (size:=5) (len:=1) (cs:=z0) (d:=66) kz kz fun gb oV oW mW mX aN av iP=>?_)
  have iQ:=TT.ofW aN av
  refine ⟨fun _=>iQ,?_⟩
  refine qam (i:=11) kz (qak iP (f:=57) (vs:=(z81 eR eS k3_)) (d:=64) kz Tryz.call57 (qbF 0 ((D.f 3).f k3_) _ _ _ _ (eg.move av.step nilM av.imm) (qa5 _ av.step nilM av.imm (g4e k3_ (by omega)))) ?_)
  rintro e_ oX ⟨mY,rfl,iR,em⟩
  have eo:=iR.move (Step.refl _ Nil) nilM (av.laid (G:=F) em)
  obtain ⟨bC,bD,bE,bF,bG,bH,bI,bJ,bK,bL,bM,mZ,m4,ep,me,mf,oY,oZ⟩:=eo.open_
  rw [ep] at eo
  have mg:=me.small
  have mh:=mf.small
  rw [ep]
  refine ⟨_,rfl,fun o5 iS=>?_⟩
  have dl:=av.next_nil em
  have bg:=av.frN em
  have iT:=TT.ofW (aN.trans bg) dl
  refine ⟨fun _=>iT,?_⟩
  refine qam (i:=14) kz (qaR dl iS (k:=0) (d:=67) (t:=34) (e:=37) (size:=5) (bytes:=88) (A:=A3_) (As:=(some ⟨gb,0,none⟩)) (m0:=k3_) (c:=c3_) (m:=1) (cs:=1) (xs:=xs3_) (news:=z0) kz kz rfl (qby (dl.own 1 _ rfl) (qbw kz)) (qbE (dl.own 1 _ rfl)) (by omega) fun aE aO o6 o7 aP eu iU=>?_)
  have iV:=TT.ofW ((aN.trans bg).trans aP) eu
  refine ⟨fun _=>iV,?_⟩
  refine qam (i:=15) kz (qax iU (t:=34) (A:=(some ⟨aa,0,none⟩)) (m:=5) (q:=3) (d:=68) kz (e:=37) (size:=5) (bytes:=88) (j:=3) kz (b:=aa) (o:=0) rfl rfl (by decide) fun o9 iW=>?_)
  have iX:=iW.recast 68 (.v (.pointer (some ⟨aa,0 + 3 * 5,none⟩))) (.p 2 15) rfl rfl (zN (n:=3) rfl)
  have iY:=iX.pk (env':=[(0,.p 0 0),(2,.p 1 0),(3,.p 3 0),(47,.v (.int .i64 (((D.f 3).l:Nat):Int))),(48,.v (.int .i64 ((k3_:Nat):Int))),(54,.v (.slice (some ⟨aa,0,none⟩) 5 5)),(57,.v (.slice A3_ k3_ c3_)),(61,.v (.slice ((D.f 3).A) ((D.f 3).l) ((D.f 3).c))),(62,.v (.int .i64 ((k3_:Nat):Int))),(65,.v (.int .i64 ((k3_:Nat):Int))),(63,.v (.pointer (some ⟨eR,eS + k3_ * 3,none⟩))),(66,.v (.slice (some ⟨gb,0,none⟩) 1 1)),(64,.v (.agg #[.int .i64 bC,.slice bH bD.length bI,.bool bE,.slice bJ bF.length bK,.slice bL bG.length bM])),(67,.v (.slice aE (k3_ + 1) aO)),(68,.p 2 15)])
  have fv:=TT.ofW ((aN.trans bg).trans aP) eu
  refine ⟨fun _=>fv,?_⟩
  refine qaB [16] [(0,.p 0 0),(2,.p 1 0),(3,.p 3 0),(47,.v (.int .i64 (((D.f 3).l:Nat):Int))),(48,.v (.int .i64 ((k3_:Nat):Int))),(64,.v (.agg #[.int .i64 bC,.slice bH bD.length bI,.bool bE,.slice bJ bF.length bK,.slice bL bG.length bM])),(65,.v (.int .i64 ((k3_:Nat):Int))),(67,.v (.slice aE (k3_ + 1) aO)),(69,.p 2 18)] 1 (qaa (qac (qaa (qaa (qac (qaa qad)))))) (fun _ h=>h.cells) fv iY fun pa iZ=>?_
  refine qam (i:=17) kz (qao eu iZ (oi:=2) (cs:=(z2 ae D af aE k3_ aO)) kz fun mi cL fw i6=>?_)
  refine ⟨fun h=>absurd rfl h,?_⟩
  refine qaz kz ?_ _
  refine qab (qap [0,1] kz ?_)
  have i7:World.ownsRow mi 0 37 5 (.slice aE (k3_ + 1) aO) (k3_ + 1) (xs3_ ++ z0):=fw.own 0 _ rfl
  obtain ⟨ja,fx⟩:=qbX i7 (by omega)
  refine qal (qax i6 (t:=34) (A:=aE) (m:=(k3_ + 1)) (q:=((k3_:Nat):Int)) (d:=70) kz (e:=37) (size:=5) (bytes:=88) kz (b:=ja) (o:=0) (j:=k3_) fx (rfl) (by omega) fun pb jb=>?_)
  refine qal (qbL fw jb (k:=0) (g:=ja) (o:=k3_ * 5) (c:=aO) (m:=(k3_ + 1)) (size:=5) (e:=37) (A:=aE) (xs:=(xs3_ ++ [.int .i64 0,.slice none 0 0,.bool false,.slice none 0 0,.slice none 0 0])) (vs:=[.int .i64 bC,.slice bH bD.length bI,.bool bE,.slice bJ bF.length bK,.slice bL bG.length bM]) kz rfl fx (by simp only [List.length_cons,List.length_nil]; omega) fun pc cM jc jd=>?_)
  have je:(⟨aE,aO,37,5,k3_ + 1,qbt (xs3_ ++ [.int .i64 0,.slice none 0 0,.bool false,.slice none 0 0,.slice none 0 0]) (k3_ * 5) [.int .i64 bC,.slice bH bD.length bI,.bool bE,.slice bJ bF.length bK,.slice bL bG.length bM]⟩:Rw) = ⟨aE,aO,37,5,k3_ + 1,xs3_ ++ [.int .i64 bC,.slice bH bD.length bI,.bool bE,.slice bJ bF.length bK,.slice bL bG.length bM]⟩:=by rw [qcn (by rw [hT3_.xslen,List.length_take,qbG]; omega)]
  obtain ⟨fy,cN⟩:=jc.rowEq 0 [⟨aE,aO,37,5,k3_ + 1,xs3_ ++ (z1 bC bH bD.length bI bE bJ bF.length bK bL bG.length bM)⟩,⟨some ⟨gb,0,none⟩,1,37,5,1,z0⟩] je
  refine qae (qar (qab (qap [0,1] kz ?_)))
  refine qai [0,1] [] [(0,.p 0 0),(2,.p 1 0),(3,.p 3 0),(47,.v (.int .i64 (((D.f 3).l:Nat):Int))),(48,.v (.int .i64 (IntKind.i64.wrap (((k3_:Nat):Int) + 1))))] fy jd fun pd jf=>?_
  refine qae (qab ?_)
  obtain ⟨fz,jg,cO⟩:=fy.cutB jf 4 [⟨b,o,(z8 v D),false⟩,⟨b7,0,z0,true⟩,⟨aa,0,(z2 ae D af aE k3_ aO),true⟩,⟨ba,0,(z11 aa),true⟩] [(0,.p 0 0),(2,.p 1 0),(3,.p 3 0),(47,.v (.int .i64 (((D.f 3).l:Nat):Int))),(48,.v (.int .i64 (IntKind.i64.wrap (((k3_:Nat):Int) + 1))))]
  obtain ⟨jh,cP⟩:=jg.cutR 1 [⟨aE,aO,37,5,k3_ + 1,xs3_ ++ (z1 bC bH bD.length bI bE bJ bF.length bK bL bG.length bM)⟩]
  have ji:IntKind.i64.wrap (((k3_:Nat):Int) + 1) = ((k3_ + 1:Nat):Int):=qaO (by omega)
  rw [ji] at fz
  exact ⟨(D.f 3).l - (k3_ + 1),by omega,k3_ + 1,aE,aO,xs3_ ++ [Value.int .i64 bC,.slice bH bD.length bI,.bool bE,.slice bJ bF.length bK,.slice bL bG.length bM],(css3_ ++ [[Value.int .i64 bC,.slice bH bD.length bI,.bool bE,.slice bJ bF.length bK,.slice bL bG.length bM]]),rfl,by omega,by rw [qbQ (by omega)]; exact (hT3_.move ((((((((((((aj.trans ab).trans ak).trans ap).trans bf).trans aN).trans bg).trans aP).trans cL).trans cM).trans cN).trans cO).trans cP).step immM ((((((((((((aj.trans ab).trans ak).trans ap).trans bf).trans aN).trans bg).trans aP).trans cL).trans cM).trans cN).trans cO).trans cP).to').snoc (x:=(fun i=>qa3 ((D.f 3).f i)) k3_) (eo.move (((((aP.trans cL).trans cM).trans cN).trans cO).trans cP).step immM (((((aP.trans cL).trans cM).trans cN).trans cO).trans cP).to'),fz.pk,jh,(((((((((((((cA.trans aj).trans ab).trans ak).trans ap).trans bf).trans aN).trans bg).trans aP).trans cL).trans cM).trans cN).trans cO).trans cP)⟩
 have m5:=zF d8
 refine wp_exit (qau (qau (qaI (qab (qaE 9 kz dc fun pe dp jj ev=>?_)))))
 refine qaB [0,1,2,3,4,5,6] [(0,.p 0 0),(2,.p 1 0),(3,.p 3 0),(91,.v (.slice (some ⟨aa,0,none⟩) 5 5)),(96,.v (.bool (((D.f 4).A).isNone)))] 3 (qaa qad) (fun _ h=>h.cells) ev d7 fun pf jk=>?_
 refine qam (i:=7) kz (qax jk (t:=34) (A:=(some ⟨aa,0,none⟩)) (m:=5) (q:=4) (d:=97) kz (e:=37) (size:=5) (bytes:=88) (j:=4) kz (b:=aa) (o:=0) rfl rfl (by decide) fun pg jl=>?_)
 have jm:=jl.recast 97 (.v (.pointer (some ⟨aa,0 + 4 * 5,none⟩))) (.p 2 20) rfl rfl (zN (n:=3) rfl)
 have jn:=jm.pk (env':=[(0,.p 0 0),(2,.p 1 0),(3,.p 3 0),(91,.v (.slice (some ⟨aa,0,none⟩) 5 5)),(96,.v (.bool (((D.f 4).A).isNone))),(97,.p 2 20)])
 refine ⟨fun _=>ev,?_⟩
 refine qaB [8] [(0,.p 0 0),(2,.p 1 0),(3,.p 3 0),(96,.v (.bool (((D.f 4).A).isNone))),(98,.p 2 22)] 1 (qaa qad) (fun _ h=>h.cells) ev jn fun ph jo=>?_
 refine qam (i:=9) kz (qao jj jo (oi:=2) (cs:=[.int .i64 0,.slice (some ⟨ae,0,none⟩) ((sb ((D.f 0).s)).length) af,.bool false,.slice none 0 0,.slice none 0 0,.int .i64 ((D.f 1).n),.slice none 0 0,.bool false,.slice none 0 0,.slice none 0 0,.int .i64 (IntKind.i64.wrap ((D.f 2).n)),.slice none 0 0,.bool false,.slice none 0 0,.slice none 0 0,.int .i64 0,.slice none 0 0,.bool (((D.f 3).A).isNone),.slice A3_ k3_ c3_,.slice none 0 0,.int .i64 0,.slice none 0 0,.bool (((D.f 4).A).isNone),.slice none 0 0,.slice none 0 0]) kz fun pi dq ew jp=>?_)
 refine ⟨fun h=>absurd rfl h,?_⟩
 refine qaz kz ?_ _
 refine qab (wp_seq (qas [(0,.p 0 0),(2,.p 1 0),(3,.p 3 0),(103,.v (.int .i64 (((D.f 4).l:Nat):Int))),(104,.v (.int .i64 0))] ew jp fun pj jq=>?_))
 refine wp_block ?_
 have fA:=ew.addNil 37 5
 have dr:=ew.frNil 37 5
 refine wp_loop_ghost (fun n_ a_ w_=>∃ (k4_:Nat) (A4_:Option Addr) (c4_:Nat) (xs4_:List Value) (css4_:List (List Value)),n_ = (D.f 4).l - k4_ ∧ k4_ ≤ (D.f 4).l ∧ (Trees w_ (Imm F w w_ [⟨b,o,[.int .i16 v,.string ((D.f 0).s),.int .i64 ((D.f 1).n),.int .i16 ((D.f 2).n),.slice ((D.f 3).A) ((D.f 3).l) ((D.f 3).c),.slice ((D.f 4).A) ((D.f 4).l) ((D.f 4).c),.map D.m],false⟩,⟨b7,0,[.int .i64 0,.slice none 0 0,.bool false,.slice none 0 0,.slice none 0 0],true⟩,⟨aa,0,[.int .i64 0,.slice (some ⟨ae,0,none⟩) ((sb ((D.f 0).s)).length) af,.bool false,.slice none 0 0,.slice none 0 0,.int .i64 ((D.f 1).n),.slice none 0 0,.bool false,.slice none 0 0,.slice none 0 0,.int .i64 (IntKind.i64.wrap ((D.f 2).n)),.slice none 0 0,.bool false,.slice none 0 0,.slice none 0 0,.int .i64 0,.slice none 0 0,.bool (((D.f 3).A).isNone),.slice A3_ k3_ c3_,.slice none 0 0,.int .i64 0,.slice none 0 0,.bool (((D.f 4).A).isNone),.slice A4_ k4_ c4_,.slice none 0 0],true⟩,⟨ba,0,[.int .i64 0,.slice none 0 0,.bool false,.slice (some ⟨aa,0,none⟩) 5 5,.slice none 0 0],true⟩] [⟨A3_,c3_,37,5,k3_,xs3_⟩,⟨A4_,c4_,37,5,k4_,xs4_⟩]) xs4_ (((List.range (D.f 4).l).map (fun i=>qaT ((D.f 4).f i))).take k4_) css4_) ∧ LInv fA 155 [⟨b,o,[.int .i16 v,.string ((D.f 0).s),.int .i64 ((D.f 1).n),.int .i16 ((D.f 2).n),.slice ((D.f 3).A) ((D.f 3).l) ((D.f 3).c),.slice ((D.f 4).A) ((D.f 4).l) ((D.f 4).c),.map D.m],false⟩,⟨b7,0,[.int .i64 0,.slice none 0 0,.bool false,.slice none 0 0,.slice none 0 0],true⟩,⟨aa,0,[.int .i64 0,.slice (some ⟨ae,0,none⟩) ((sb ((D.f 0).s)).length) af,.bool false,.slice none 0 0,.slice none 0 0,.int .i64 ((D.f 1).n),.slice none 0 0,.bool false,.slice none 0 0,.slice none 0 0,.int .i64 (IntKind.i64.wrap ((D.f 2).n)),.slice none 0 0,.bool false,.slice none 0 0,.slice none 0 0,.int .i64 0,.slice none 0 0,.bool (((D.f 3).A).isNone),.slice A3_ k3_ c3_,.slice none 0 0,.int .i64 0,.slice none 0 0,.bool (((D.f 4).A).isNone),.slice A4_ k4_ c4_,.slice none 0 0],true⟩,⟨ba,0,[.int .i64 0,.slice none 0 0,.bool false,.slice (some ⟨aa,0,none⟩) 5 5,.slice none 0 0],true⟩] [⟨A3_,c3_,37,5,k3_,xs3_⟩,⟨A4_,c4_,37,5,k4_,xs4_⟩] [(0,.p 0 0),(2,.p 1 0),(3,.p 3 0),(103,.v (.int .i64 (((D.f 4).l:Nat):Int))),(104,.v (.int .i64 ((k4_:Nat):Int)))] a_ w_) ((D.f 4).l) ⟨0,none,0,[],[],by omega,by omega,Trees.nil _ _,jq.pk,fA,Fr.refl _ _ _⟩ ?_
 rintro pl pm mj ⟨k4_,A4_,c4_,xs4_,css4_,m6,m7,hT4_,jr,ai,aQ⟩
 refine qas [(0,.p 0 0),(2,.p 1 0),(3,.p 3 0),(103,.v (.int .i64 (((D.f 4).l:Nat):Int))),(104,.v (.int .i64 ((k4_:Nat):Int))),(105,.v (.bool (decide (((k4_:Nat):Int) < (((D.f 4).l:Nat):Int)))))] ai jr fun pn ey=>?_
 refine wp_seq (qaw ey (b:=decide (((k4_:Nat):Int) < (((D.f 4).l:Nat):Int))) kz (fun ez=>?_) (fun ez=>?_))
 ·
  have m8:=zD ez
  refine wp_skip (qab (wp_seq (wp_block (qas [(0,.p 0 0),(2,.p 1 0),(3,.p 3 0),(5,.v (.int .i64 ((k4_:Nat):Int))),(103,.v (.int .i64 (((D.f 4).l:Nat):Int))),(104,.v (.int .i64 ((k4_:Nat):Int)))] ai ey fun po js=>?_))))
  refine qaE 4 kz ai fun pp al jt m9=>?_
  refine qam (i:=0) kz (qaQ jt js (d:=107) (cs:=[.bool false]) kz fun pq pr pt nf ng ac eB fB=>?_)
  have ju:=TT.ofW ac eB
  refine ⟨fun _=>ju,?_⟩
  refine qcX (i:=1) (j:=2) kz ?_ ?_
  ·
   refine (qao eB fB (oi:=4) (cs:=[.bool true]) kz fun pu bh fC jv=>?_)
   have jw:=TT.ofW (ac.trans bh) fC
   refine ⟨fun _=>jw,?_⟩
   refine qam (i:=2) kz (qao fC jv (oi:=4) (cs:=[.bool false]) kz fun pv cQ dt jx=>?_)
   have jy:=TT.ofW ((ac.trans bh).trans cQ) dt
   refine ⟨fun _=>jy,?_⟩
   refine qam (i:=3) kz (qbf [0,2,3,5,103,104,108] dt.cells jx (env':=[(0,.p 0 0),(2,.p 1 0),(3,.p 3 0),(5,.v (.int .i64 ((k4_:Nat):Int))),(103,.v (.int .i64 (((D.f 4).l:Nat):Int))),(104,.v (.int .i64 ((k4_:Nat):Int))),(108,.v (.bool false))]) kz fun pw fD=>?_)
   have jz:=TT.ofW ((ac.trans bh).trans cQ) dt
   refine ⟨fun _=>jz,?_⟩
   refine qaz kz ?_ _
   refine qab (qan fD (b:=false) kz rfl ?_)
   refine qcu 18 kz dt fun px eC aR du=>?_
   refine qaB [0,1,2,3,7,8,9,10,11] [(0,.p 0 0),(2,.p 1 0),(3,.p 3 0),(103,.v (.int .i64 (((D.f 4).l:Nat):Int))),(104,.v (.int .i64 ((k4_:Nat):Int))),(128,.v (.slice (some ⟨aa,0,none⟩) 5 5)),(130,.v (.slice (some ⟨aa,0,none⟩) 5 5)),(137,.v (.slice ((D.f 4).A) ((D.f 4).l) ((D.f 4).c))),(138,.v (.int .i64 ((k4_:Nat):Int)))] 10 (qac (qaa (qaa (qac (qaa qad))))) (fun _ h=>h.cells) du fD fun pz jA=>?_
   refine qaD jA (i:=4) (t:=34) (A:=(some ⟨aa,0,none⟩)) (m:=5) (q:=4) (d:=131) kz (e:=37) (size:=5) (bytes:=88) (j:=4) kz (b:=aa) (o:=0) rfl rfl (by decide) kz kz (qac (qaa (qaa (qac (qaa qad))))) du fun pA jB=>?_
   have jC:=jB.recast 131 (.v (.pointer (some ⟨aa,0 + 4 * 5,none⟩))) (.p 2 20) rfl rfl (zN (n:=3) rfl)
   have jD:=jC.pk (env':=[(0,.p 0 0),(2,.p 1 0),(3,.p 3 0),(103,.v (.int .i64 (((D.f 4).l:Nat):Int))),(104,.v (.int .i64 ((k4_:Nat):Int))),(128,.v (.slice (some ⟨aa,0,none⟩) 5 5)),(130,.v (.slice (some ⟨aa,0,none⟩) 5 5)),(137,.v (.slice ((D.f 4).A) ((D.f 4).l) ((D.f 4).c))),(138,.v (.int .i64 ((k4_:Nat):Int))),(131,.p 2 20)])
   refine qaB [5,6] [(0,.p 0 0),(2,.p 1 0),(3,.p 3 0),(103,.v (.int .i64 (((D.f 4).l:Nat):Int))),(104,.v (.int .i64 ((k4_:Nat):Int))),(128,.v (.slice (some ⟨aa,0,none⟩) 5 5)),(133,.v (.slice A4_ k4_ c4_)),(137,.v (.slice ((D.f 4).A) ((D.f 4).l) ((D.f 4).c))),(138,.v (.int .i64 ((k4_:Nat):Int)))] 7 (qac (qaa (qaa (qac (qaa qad))))) (fun _ h=>h.cells) du jD fun pB jE=>?_
   obtain ⟨jF,jG,jH,nh,gc⟩:=Slots.get g5 (i:=k4_) (by omega)
   refine qaD jE (i:=12) (t:=78) (A:=(D.f 4).A) (m:=((D.f 4).l)) (q:=((k4_:Nat):Int)) (d:=139) kz (e:=94) (size:=6) (bytes:=64) kz jH rfl (by omega) kz kz (qac (qaa (qaa (qac (qaa qad))))) du fun pC jI=>?_
   refine qam (i:=13) kz (qak jI (f:=58) (vs:=[.pointer (some ⟨jF,jG + k4_ * 6,none⟩)]) (d:=140) kz Tryz.call58 (qbv 0 ((D.f 4).f k4_) _ _ _ _ (gc.move aR.step nilM aR.imm) (qaX _ aR.step nilM aR.imm (g5e k4_ (by omega)))) ?_)
   rintro e_ pD ⟨ni,rfl,jJ,eD⟩
   have eE:=jJ.move (Step.refl _ Nil) nilM (aR.laid (G:=F) eD)
   obtain ⟨dO,dP,dQ,dR,dS,dT,dU,dV,dW,dX,dY,nj,nk,eF,ml,mn,pE,pF⟩:=eE.open_
   rw [eF] at eE
   have mo:=ml.small
   have mp:=mn.small
   rw [eF]
   refine ⟨_,rfl,fun pG jK=>?_⟩
   have fE:=aR.next_nil eD
   have aS:=aR.frN eD
   have jL:=TT.ofW aS fE
   refine ⟨fun _=>jL,?_⟩
   refine qam (i:=14) kz (qbu fE jK (e:=37) (size:=5) (len:=1) (cs:=(z1 dO dT dP.length dU dQ dV dR.length dW dX dS.length dY)) (d:=141) kz kz fun jM pH pI nl nm aw dv jN=>?_)
   have jO:=TT.ofW (aS.trans aw) dv
   refine ⟨fun _=>jO,?_⟩
   refine qam (i:=15) kz (qaR dv jN (k:=1) (d:=142) (t:=34) (e:=37) (size:=5) (bytes:=88) (A:=A4_) (As:=(some ⟨jM,0,none⟩)) (m0:=k4_) (c:=c4_) (m:=1) (cs:=1) (xs:=xs4_) (news:=(z1 dO dT dP.length dU dQ dV dR.length dW dX dS.length dY)) kz kz rfl (qby (dv.own 2 _ rfl) (qbw kz)) (qbE (dv.own 2 _ rfl)) (by omega) fun dZ d5 pJ pK aT eG jP=>?_)
   have jQ:=TT.ofW ((aS.trans aw).trans aT) eG
   refine ⟨fun _=>jQ,?_⟩
   refine qam (i:=16) kz (qax jP (t:=34) (A:=(some ⟨aa,0,none⟩)) (m:=5) (q:=4) (d:=143) kz (e:=37) (size:=5) (bytes:=88) (j:=4) kz (b:=aa) (o:=0) rfl rfl (by decide) fun pL jR=>?_)
   have jS:=jR.recast 143 (.v (.pointer (some ⟨aa,0 + 4 * 5,none⟩))) (.p 2 20) rfl rfl (zN (n:=3) rfl)
   have jT:=jS.pk (env':=[(0,.p 0 0),(2,.p 1 0),(3,.p 3 0),(103,.v (.int .i64 (((D.f 4).l:Nat):Int))),(104,.v (.int .i64 ((k4_:Nat):Int))),(128,.v (.slice (some ⟨aa,0,none⟩) 5 5)),(133,.v (.slice A4_ k4_ c4_)),(137,.v (.slice ((D.f 4).A) ((D.f 4).l) ((D.f 4).c))),(138,.v (.int .i64 ((k4_:Nat):Int))),(139,.v (.pointer (some ⟨jF,jG + k4_ * 6,none⟩))),(140,.v (.agg #[.int .i64 dO,.slice dT dP.length dU,.bool dQ,.slice dV dR.length dW,.slice dX dS.length dY])),(141,.v (.slice (some ⟨jM,0,none⟩) 1 1)),(142,.v (.slice dZ (k4_ + 1) d5)),(143,.p 2 20)])
   have fF:=TT.ofW ((aS.trans aw).trans aT) eG
   refine ⟨fun _=>fF,?_⟩
   refine qaB [17] [(0,.p 0 0),(2,.p 1 0),(3,.p 3 0),(103,.v (.int .i64 (((D.f 4).l:Nat):Int))),(104,.v (.int .i64 ((k4_:Nat):Int))),(142,.v (.slice dZ (k4_ + 1) d5)),(144,.p 2 23)] 1 (qac (qaa (qaa (qac (qaa qad))))) (fun _ h=>h.cells) fF jT fun pM jU=>?_
   refine qam (i:=18) kz (qao eG jU (oi:=2) (cs:=(z3 ae D af A3_ k3_ c3_ dZ k4_ d5)) kz fun pN cR fG jV=>?_)
   refine ⟨fun h=>absurd rfl h,?_⟩
   refine qaz kz ?_ _
   refine qar (qab (qap [0,1] kz ?_))
   refine qai [0,1] [] [(0,.p 0 0),(2,.p 1 0),(3,.p 3 0),(103,.v (.int .i64 (((D.f 4).l:Nat):Int))),(104,.v (.int .i64 (IntKind.i64.wrap (((k4_:Nat):Int) + 1))))] fG jV fun pO jW=>?_
   refine qae (qab ?_)
   obtain ⟨fH,jX,cS⟩:=fG.cutB jW 4 [⟨b,o,(z8 v D),false⟩,⟨b7,0,z0,true⟩,⟨aa,0,(z3 ae D af A3_ k3_ c3_ dZ k4_ d5),true⟩,⟨ba,0,(z11 aa),true⟩] [(0,.p 0 0),(2,.p 1 0),(3,.p 3 0),(103,.v (.int .i64 (((D.f 4).l:Nat):Int))),(104,.v (.int .i64 (IntKind.i64.wrap (((k4_:Nat):Int) + 1))))]
   obtain ⟨jY,cT⟩:=jX.cutR 2 [⟨A3_,c3_,37,5,k3_,xs3_⟩,⟨dZ,d5,37,5,k4_ + 1,xs4_ ++ (z1 dO dT dP.length dU dQ dV dR.length dW dX dS.length dY)⟩]
   have jZ:IntKind.i64.wrap (((k4_:Nat):Int) + 1) = ((k4_ + 1:Nat):Int):=qaO (by omega)
   rw [jZ] at fH
   exact ⟨(D.f 4).l - (k4_ + 1),by omega,k4_ + 1,dZ,d5,xs4_ ++ [Value.int .i64 dO,.slice dT dP.length dU,.bool dQ,.slice dV dR.length dW,.slice dX dS.length dY],(css4_ ++ [[Value.int .i64 dO,.slice dT dP.length dU,.bool dQ,.slice dV dR.length dW,.slice dX dS.length dY]]),rfl,by omega,by rw [qbQ (by omega)]; exact (hT4_.move ((((((((((al.trans ac).trans bh).trans cQ).trans eC).trans aS).trans aw).trans aT).trans cR).trans cS).trans cT).step immM ((((((((((al.trans ac).trans bh).trans cQ).trans eC).trans aS).trans aw).trans aT).trans cR).trans cS).trans cT).to').snoc (x:=(fun i=>qaT ((D.f 4).f i)) k4_) (eE.move ((((aw.trans aT).trans cR).trans cS).trans cT).step immM ((((aw.trans aT).trans cR).trans cS).trans cT).to'),fH.pk,jY,(((((((((((aQ.trans al).trans ac).trans bh).trans cQ).trans eC).trans aS).trans aw).trans aT).trans cR).trans cS).trans cT)⟩
  refine (qao eB fB (oi:=4) (cs:=[.bool false]) kz fun pP am fI j0=>?_)
  have j1:=TT.ofW (ac.trans am) fI
  refine ⟨fun _=>j1,?_⟩
  refine qam (i:=1) kz (qao fI j0 (oi:=4) (cs:=[.bool true]) kz fun pQ ax dw j2=>?_)
  have j3:=TT.ofW ((ac.trans am).trans ax) dw
  refine ⟨fun _=>j3,?_⟩
  refine qam (i:=3) kz (qbf [0,2,3,5,103,104,108] dw.cells j2 (env':=[(0,.p 0 0),(2,.p 1 0),(3,.p 3 0),(5,.v (.int .i64 ((k4_:Nat):Int))),(103,.v (.int .i64 (((D.f 4).l:Nat):Int))),(104,.v (.int .i64 ((k4_:Nat):Int))),(108,.v (.bool true))]) kz fun pR fJ=>?_)
  have j4:=TT.ofW ((ac.trans am).trans ax) dw
  refine ⟨fun _=>j4,?_⟩
  refine qaz kz ?_ _
  refine qab (qa7 fJ (b:=true) kz rfl ?_)
  refine qaE 17 kz dw fun pS bi ay dx=>?_
  refine qaB [0,1,5,6,7,8,9] [(0,.p 0 0),(2,.p 1 0),(3,.p 3 0),(103,.v (.int .i64 (((D.f 4).l:Nat):Int))),(104,.v (.int .i64 ((k4_:Nat):Int))),(110,.v (.slice (some ⟨aa,0,none⟩) 5 5)),(117,.v (.slice ((D.f 4).A) ((D.f 4).l) ((D.f 4).c))),(118,.v (.int .i64 ((k4_:Nat):Int)))] 11 (qaa (qac (qaa (qaa (qac (qaa qad)))))) (fun _ h=>h.cells) dx fJ fun pT j5=>?_
  refine qaD j5 (i:=2) (t:=34) (A:=(some ⟨aa,0,none⟩)) (m:=5) (q:=4) (d:=111) kz (e:=37) (size:=5) (bytes:=88) (j:=4) kz (b:=aa) (o:=0) rfl rfl (by decide) kz kz (qaa (qac (qaa (qaa (qac (qaa qad)))))) dx fun pU j6=>?_
  have j7:=j6.recast 111 (.v (.pointer (some ⟨aa,0 + 4 * 5,none⟩))) (.p 2 20) rfl rfl (zN (n:=3) rfl)
  have j8:=j7.pk (env':=[(0,.p 0 0),(2,.p 1 0),(3,.p 3 0),(103,.v (.int .i64 (((D.f 4).l:Nat):Int))),(104,.v (.int .i64 ((k4_:Nat):Int))),(110,.v (.slice (some ⟨aa,0,none⟩) 5 5)),(117,.v (.slice ((D.f 4).A) ((D.f 4).l) ((D.f 4).c))),(118,.v (.int .i64 ((k4_:Nat):Int))),(111,.p 2 20)])
  refine qaB [3,4,12] [(0,.p 0 0),(2,.p 1 0),(3,.p 3 0),(103,.v (.int .i64 (((D.f 4).l:Nat):Int))),(104,.v (.int .i64 ((k4_:Nat):Int))),(110,.v (.slice (some ⟨aa,0,none⟩) 5 5)),(113,.v (.slice A4_ k4_ c4_)),(117,.v (.slice ((D.f 4).A) ((D.f 4).l) ((D.f 4).c))),(118,.v (.int .i64 ((k4_:Nat):Int))),(121,.v (.int .i64 ((k4_:Nat):Int)))] 7 (qaa (qac (qaa (qaa (qac (qaa qad)))))) (fun _ h=>h.cells) dx j8 fun pV j9=>?_
  obtain ⟨eU,eV,ka,np,eH⟩:=Slots.get g5 (i:=k4_) (by omega)
  refine qaD j9 (i:=10) (t:=78) (A:=(D.f 4).A) (m:=((D.f 4).l)) (q:=((k4_:Nat):Int)) (d:=119) kz (e:=94) (size:=6) (bytes:=64) kz ka rfl (by omega) kz kz (qaa (qac (qaa (qaa (qac (qaa qad)))))) dx fun pW fK=>?_
  refine qcX (i:=11) (j:=13) kz ?_ ?_
  ·
   refine (qak fK (f:=58) (vs:=[.pointer (some ⟨eU,eV + k4_ * 6,none⟩)]) (d:=120) kz Tryz.call58 (qbv 0 ((D.f 4).f k4_) _ _ _ _ (eH.move ay.step nilM ay.imm) (qaX _ ay.step nilM ay.imm (g5e k4_ (by omega)))) ?_)
   rintro e_ pX ⟨nr,rfl,kd,eI⟩
   have eJ:=kd.move (Step.refl _ Nil) nilM (ay.laid (G:=F) eI)
   obtain ⟨bN,bO,bP,bQ,bR,bS,bT,bU,bV,bW,bX,ns,nt,eK,mq,mr,pY,pZ⟩:=eJ.open_
   rw [eK] at eJ
   have mt:=mq.small
   have mu:=mr.small
   rw [eK]
   refine ⟨_,rfl,fun p4 ke=>?_⟩
   have fL:=ay.next_nil eI
   have aU:=ay.frN eI
   have kf:=TT.ofW aU fL
   refine ⟨fun _=>kf,?_⟩
   refine qam (i:=13) kz (qbu fL ke (e:=37) (size:=5) (len:=1) (cs:=z0) (d:=122) kz kz fun gd p5 p6 nu nv az dy kg=>?_)
   have kh:=TT.ofW (aU.trans az) dy
   refine ⟨fun _=>kh,?_⟩
   refine qam (i:=14) kz (qaR dy kg (k:=1) (d:=123) (t:=34) (e:=37) (size:=5) (bytes:=88) (A:=A4_) (As:=(some ⟨gd,0,none⟩)) (m0:=k4_) (c:=c4_) (m:=1) (cs:=1) (xs:=xs4_) (news:=z0) kz kz rfl (qby (dy.own 2 _ rfl) (qbw kz)) (qbE (dy.own 2 _ rfl)) (by omega) fun aF aV p7 p8 aW eL ki=>?_)
   have kj:=TT.ofW ((aU.trans az).trans aW) eL
   refine ⟨fun _=>kj,?_⟩
   refine qam (i:=15) kz (qax ki (t:=34) (A:=(some ⟨aa,0,none⟩)) (m:=5) (q:=4) (d:=124) kz (e:=37) (size:=5) (bytes:=88) (j:=4) kz (b:=aa) (o:=0) rfl rfl (by decide) fun p9 km=>?_)
   have ko:=km.recast 124 (.v (.pointer (some ⟨aa,0 + 4 * 5,none⟩))) (.p 2 20) rfl rfl (zN (n:=3) rfl)
   have kp:=ko.pk (env':=[(0,.p 0 0),(2,.p 1 0),(3,.p 3 0),(103,.v (.int .i64 (((D.f 4).l:Nat):Int))),(104,.v (.int .i64 ((k4_:Nat):Int))),(110,.v (.slice (some ⟨aa,0,none⟩) 5 5)),(113,.v (.slice A4_ k4_ c4_)),(117,.v (.slice ((D.f 4).A) ((D.f 4).l) ((D.f 4).c))),(118,.v (.int .i64 ((k4_:Nat):Int))),(121,.v (.int .i64 ((k4_:Nat):Int))),(119,.v (.pointer (some ⟨eU,eV + k4_ * 6,none⟩))),(120,.v (.agg #[.int .i64 bN,.slice bS bO.length bT,.bool bP,.slice bU bQ.length bV,.slice bW bR.length bX])),(122,.v (.slice (some ⟨gd,0,none⟩) 1 1)),(123,.v (.slice aF (k4_ + 1) aV)),(124,.p 2 20)])
   have fM:=TT.ofW ((aU.trans az).trans aW) eL
   refine ⟨fun _=>fM,?_⟩
   refine qaB [16] [(0,.p 0 0),(2,.p 1 0),(3,.p 3 0),(103,.v (.int .i64 (((D.f 4).l:Nat):Int))),(104,.v (.int .i64 ((k4_:Nat):Int))),(120,.v (.agg #[.int .i64 bN,.slice bS bO.length bT,.bool bP,.slice bU bQ.length bV,.slice bW bR.length bX])),(121,.v (.int .i64 ((k4_:Nat):Int))),(123,.v (.slice aF (k4_ + 1) aV)),(125,.p 2 23)] 1 (qaa (qac (qaa (qaa (qac (qaa qad)))))) (fun _ h=>h.cells) fM kp fun qa kq=>?_
   refine qam (i:=17) kz (qao eL kq (oi:=2) (cs:=(z3 ae D af A3_ k3_ c3_ aF k4_ aV)) kz fun mw cU fN ku=>?_)
   refine ⟨fun h=>absurd rfl h,?_⟩
   refine qaz kz ?_ _
   refine qab (qap [0,1] kz ?_)
   have kv:World.ownsRow mw 0 37 5 (.slice aF (k4_ + 1) aV) (k4_ + 1) (xs4_ ++ z0):=fN.own 1 _ rfl
   obtain ⟨kw,fO⟩:=qbX kv (by omega)
   refine qal (qax ku (t:=34) (A:=aF) (m:=(k4_ + 1)) (q:=((k4_:Nat):Int)) (d:=126) kz (e:=37) (size:=5) (bytes:=88) kz (b:=kw) (o:=0) (j:=k4_) fO (rfl) (by omega) fun qb kx=>?_)
   refine qal (qbL fN kx (k:=1) (g:=kw) (o:=k4_ * 5) (c:=aV) (m:=(k4_ + 1)) (size:=5) (e:=37) (A:=aF) (xs:=(xs4_ ++ [.int .i64 0,.slice none 0 0,.bool false,.slice none 0 0,.slice none 0 0])) (vs:=[.int .i64 bN,.slice bS bO.length bT,.bool bP,.slice bU bQ.length bV,.slice bW bR.length bX]) kz rfl fO (by simp only [List.length_cons,List.length_nil]; omega) fun qc cV ky kA=>?_)
   have kB:(⟨aF,aV,37,5,k4_ + 1,qbt (xs4_ ++ [.int .i64 0,.slice none 0 0,.bool false,.slice none 0 0,.slice none 0 0]) (k4_ * 5) [.int .i64 bN,.slice bS bO.length bT,.bool bP,.slice bU bQ.length bV,.slice bW bR.length bX]⟩:Rw) = ⟨aF,aV,37,5,k4_ + 1,xs4_ ++ [.int .i64 bN,.slice bS bO.length bT,.bool bP,.slice bU bQ.length bV,.slice bW bR.length bX]⟩:=by rw [qcn (by rw [hT4_.xslen,List.length_take,qbG]; omega)]
   obtain ⟨fP,cW⟩:=ky.rowEq 1 [⟨A3_,c3_,37,5,k3_,xs3_⟩,⟨aF,aV,37,5,k4_ + 1,xs4_ ++ (z1 bN bS bO.length bT bP bU bQ.length bV bW bR.length bX)⟩,⟨some ⟨gd,0,none⟩,1,37,5,1,z0⟩] kB
   refine qae (qar (qab (qap [0,1] kz ?_)))
   refine qai [0,1] [] [(0,.p 0 0),(2,.p 1 0),(3,.p 3 0),(103,.v (.int .i64 (((D.f 4).l:Nat):Int))),(104,.v (.int .i64 (IntKind.i64.wrap (((k4_:Nat):Int) + 1))))] fP kA fun qd kC=>?_
   refine qae (qab ?_)
   obtain ⟨fQ,kD,cX⟩:=fP.cutB kC 4 [⟨b,o,(z8 v D),false⟩,⟨b7,0,z0,true⟩,⟨aa,0,(z3 ae D af A3_ k3_ c3_ aF k4_ aV),true⟩,⟨ba,0,(z11 aa),true⟩] [(0,.p 0 0),(2,.p 1 0),(3,.p 3 0),(103,.v (.int .i64 (((D.f 4).l:Nat):Int))),(104,.v (.int .i64 (IntKind.i64.wrap (((k4_:Nat):Int) + 1))))]
   obtain ⟨kE,cY⟩:=kD.cutR 2 [⟨A3_,c3_,37,5,k3_,xs3_⟩,⟨aF,aV,37,5,k4_ + 1,xs4_ ++ (z1 bN bS bO.length bT bP bU bQ.length bV bW bR.length bX)⟩]
   have kF:IntKind.i64.wrap (((k4_:Nat):Int) + 1) = ((k4_ + 1:Nat):Int):=qaO (by omega)
   rw [kF] at fQ
   exact ⟨(D.f 4).l - (k4_ + 1),by omega,k4_ + 1,aF,aV,xs4_ ++ [Value.int .i64 bN,.slice bS bO.length bT,.bool bP,.slice bU bQ.length bV,.slice bW bR.length bX],(css4_ ++ [[Value.int .i64 bN,.slice bS bO.length bT,.bool bP,.slice bU bQ.length bV,.slice bW bR.length bX]]),rfl,by omega,by rw [qbQ (by omega)]; exact (hT4_.move ((((((((((((al.trans ac).trans am).trans ax).trans bi).trans aU).trans az).trans aW).trans cU).trans cV).trans cW).trans cX).trans cY).step immM ((((((((((((al.trans ac).trans am).trans ax).trans bi).trans aU).trans az).trans aW).trans cU).trans cV).trans cW).trans cX).trans cY).to').snoc (x:=(fun i=>qaT ((D.f 4).f i)) k4_) (eJ.move ((((((az.trans aW).trans cU).trans cV).trans cW).trans cX).trans cY).step immM ((((((az.trans aW).trans cU).trans cV).trans cW).trans cX).trans cY).to'),fQ.pk,kE,(((((((((((((aQ.trans al).trans ac).trans am).trans ax).trans bi).trans aU).trans az).trans aW).trans cU).trans cV).trans cW).trans cX).trans cY)⟩
  refine (qbu ay fK (e:=37) (size:=5) (len:=1) (cs:=z0) (d:=122) kz kz fun ge qe qf nw nx aX aA kG=>?_)
  have kH:=TT.ofW aX aA
  refine ⟨fun _=>kH,?_⟩
  refine qam (i:=11) kz (qak kG (f:=58) (vs:=[.pointer (some ⟨eU,eV + k4_ * 6,none⟩)]) (d:=120) kz Tryz.call58 (qbv 0 ((D.f 4).f k4_) _ _ _ _ (eH.move aA.step nilM aA.imm) (qaX _ aA.step nilM aA.imm (g5e k4_ (by omega)))) ?_)
  rintro e_ qg ⟨ny,rfl,kI,eM⟩
  have eN:=kI.move (Step.refl _ Nil) nilM (aA.laid (G:=F) eM)
  obtain ⟨bY,bZ,b8,cd,ce,cm,cq,cr,cu,cw,cz,nz,nA,eO,mx,my,qh,qi⟩:=eN.open_
  rw [eO] at eN
  have mz:=mx.small
  have mA:=my.small
  rw [eO]
  refine ⟨_,rfl,fun qj kJ=>?_⟩
  have dz:=aA.next_nil eM
  have bj:=aA.frN eM
  have kK:=TT.ofW (aX.trans bj) dz
  refine ⟨fun _=>kK,?_⟩
  refine qam (i:=14) kz (qaR dz kJ (k:=1) (d:=123) (t:=34) (e:=37) (size:=5) (bytes:=88) (A:=A4_) (As:=(some ⟨ge,0,none⟩)) (m0:=k4_) (c:=c4_) (m:=1) (cs:=1) (xs:=xs4_) (news:=z0) kz kz rfl (qby (dz.own 2 _ rfl) (qbw kz)) (qbE (dz.own 2 _ rfl)) (by omega) fun aG aY qk ql aZ eP kL=>?_)
  have kM:=TT.ofW ((aX.trans bj).trans aZ) eP
  refine ⟨fun _=>kM,?_⟩
  refine qam (i:=15) kz (qax kL (t:=34) (A:=(some ⟨aa,0,none⟩)) (m:=5) (q:=4) (d:=124) kz (e:=37) (size:=5) (bytes:=88) (j:=4) kz (b:=aa) (o:=0) rfl rfl (by decide) fun qm kN=>?_)
  have kO:=kN.recast 124 (.v (.pointer (some ⟨aa,0 + 4 * 5,none⟩))) (.p 2 20) rfl rfl (zN (n:=3) rfl)
  have kP:=kO.pk (env':=[(0,.p 0 0),(2,.p 1 0),(3,.p 3 0),(103,.v (.int .i64 (((D.f 4).l:Nat):Int))),(104,.v (.int .i64 ((k4_:Nat):Int))),(110,.v (.slice (some ⟨aa,0,none⟩) 5 5)),(113,.v (.slice A4_ k4_ c4_)),(117,.v (.slice ((D.f 4).A) ((D.f 4).l) ((D.f 4).c))),(118,.v (.int .i64 ((k4_:Nat):Int))),(121,.v (.int .i64 ((k4_:Nat):Int))),(119,.v (.pointer (some ⟨eU,eV + k4_ * 6,none⟩))),(122,.v (.slice (some ⟨ge,0,none⟩) 1 1)),(120,.v (.agg #[.int .i64 bY,.slice cm bZ.length cq,.bool b8,.slice cr cd.length cu,.slice cw ce.length cz])),(123,.v (.slice aG (k4_ + 1) aY)),(124,.p 2 20)])
  have fR:=TT.ofW ((aX.trans bj).trans aZ) eP
  refine ⟨fun _=>fR,?_⟩
  refine qaB [16] [(0,.p 0 0),(2,.p 1 0),(3,.p 3 0),(103,.v (.int .i64 (((D.f 4).l:Nat):Int))),(104,.v (.int .i64 ((k4_:Nat):Int))),(120,.v (.agg #[.int .i64 bY,.slice cm bZ.length cq,.bool b8,.slice cr cd.length cu,.slice cw ce.length cz])),(121,.v (.int .i64 ((k4_:Nat):Int))),(123,.v (.slice aG (k4_ + 1) aY)),(125,.p 2 23)] 1 (qaa (qac (qaa (qaa (qac (qaa qad)))))) (fun _ h=>h.cells) fR kP fun qn kQ=>?_
  refine qam (i:=17) kz (qao eP kQ (oi:=2) (cs:=(z3 ae D af A3_ k3_ c3_ aG k4_ aY)) kz fun mB cZ fS kR=>?_)
  refine ⟨fun h=>absurd rfl h,?_⟩
  refine qaz kz ?_ _
  refine qab (qap [0,1] kz ?_)
  have kS:World.ownsRow mB 0 37 5 (.slice aG (k4_ + 1) aY) (k4_ + 1) (xs4_ ++ z0):=fS.own 1 _ rfl
  obtain ⟨kT,fT⟩:=qbX kS (by omega)
  refine qal (qax kR (t:=34) (A:=aG) (m:=(k4_ + 1)) (q:=((k4_:Nat):Int)) (d:=126) kz (e:=37) (size:=5) (bytes:=88) kz (b:=kT) (o:=0) (j:=k4_) fT (rfl) (by omega) fun qo kU=>?_)
  refine qal (qbL fS kU (k:=1) (g:=kT) (o:=k4_ * 5) (c:=aY) (m:=(k4_ + 1)) (size:=5) (e:=37) (A:=aG) (xs:=(xs4_ ++ [.int .i64 0,.slice none 0 0,.bool false,.slice none 0 0,.slice none 0 0])) (vs:=[.int .i64 bY,.slice cm bZ.length cq,.bool b8,.slice cr cd.length cu,.slice cw ce.length cz]) kz rfl fT (by simp only [List.length_cons,List.length_nil]; omega) fun qp c5 kV kW=>?_)
  have kX:(⟨aG,aY,37,5,k4_ + 1,qbt (xs4_ ++ [.int .i64 0,.slice none 0 0,.bool false,.slice none 0 0,.slice none 0 0]) (k4_ * 5) [.int .i64 bY,.slice cm bZ.length cq,.bool b8,.slice cr cd.length cu,.slice cw ce.length cz]⟩:Rw) = ⟨aG,aY,37,5,k4_ + 1,xs4_ ++ [.int .i64 bY,.slice cm bZ.length cq,.bool b8,.slice cr cd.length cu,.slice cw ce.length cz]⟩:=by rw [qcn (by rw [hT4_.xslen,List.length_take,qbG]; omega)]
  obtain ⟨fU,c6⟩:=kV.rowEq 1 [⟨A3_,c3_,37,5,k3_,xs3_⟩,⟨aG,aY,37,5,k4_ + 1,xs4_ ++ (z1 bY cm bZ.length cq b8 cr cd.length cu cw ce.length cz)⟩,⟨some ⟨ge,0,none⟩,1,37,5,1,z0⟩] kX
  refine qae (qar (qab (qap [0,1] kz ?_)))
  refine qai [0,1] [] [(0,.p 0 0),(2,.p 1 0),(3,.p 3 0),(103,.v (.int .i64 (((D.f 4).l:Nat):Int))),(104,.v (.int .i64 (IntKind.i64.wrap (((k4_:Nat):Int) + 1))))] fU kW fun qq kY=>?_
  refine qae (qab ?_)
  obtain ⟨fV,kZ,da⟩:=fU.cutB kY 4 [⟨b,o,(z8 v D),false⟩,⟨b7,0,z0,true⟩,⟨aa,0,(z3 ae D af A3_ k3_ c3_ aG k4_ aY),true⟩,⟨ba,0,(z11 aa),true⟩] [(0,.p 0 0),(2,.p 1 0),(3,.p 3 0),(103,.v (.int .i64 (((D.f 4).l:Nat):Int))),(104,.v (.int .i64 (IntKind.i64.wrap (((k4_:Nat):Int) + 1))))]
  obtain ⟨k5,db⟩:=kZ.cutR 2 [⟨A3_,c3_,37,5,k3_,xs3_⟩,⟨aG,aY,37,5,k4_ + 1,xs4_ ++ (z1 bY cm bZ.length cq b8 cr cd.length cu cw ce.length cz)⟩]
  have k6:IntKind.i64.wrap (((k4_:Nat):Int) + 1) = ((k4_ + 1:Nat):Int):=qaO (by omega)
  rw [k6] at fV
  exact ⟨(D.f 4).l - (k4_ + 1),by omega,k4_ + 1,aG,aY,xs4_ ++ [Value.int .i64 bY,.slice cm bZ.length cq,.bool b8,.slice cr cd.length cu,.slice cw ce.length cz],(css4_ ++ [[Value.int .i64 bY,.slice cm bZ.length cq,.bool b8,.slice cr cd.length cu,.slice cw ce.length cz]]),rfl,by omega,by rw [qbQ (by omega)]; exact (hT4_.move ((((((((((((al.trans ac).trans am).trans ax).trans bi).trans aX).trans bj).trans aZ).trans cZ).trans c5).trans c6).trans da).trans db).step immM ((((((((((((al.trans ac).trans am).trans ax).trans bi).trans aX).trans bj).trans aZ).trans cZ).trans c5).trans c6).trans da).trans db).to').snoc (x:=(fun i=>qaT ((D.f 4).f i)) k4_) (eN.move (((((aZ.trans cZ).trans c5).trans c6).trans da).trans db).step immM (((((aZ.trans cZ).trans c5).trans c6).trans da).trans db).to'),fV.pk,k5,(((((((((((((aQ.trans al).trans ac).trans am).trans ax).trans bi).trans aX).trans bj).trans aZ).trans cZ).trans c5).trans c6).trans da).trans db)⟩
 have nB:=zF ez
 refine wp_exit (qau (qau (qaI (qab (qaf [0,1,2,3,4] kz ?_)))))
 refine qai [0,1,2] [3,4] [(2,.p 1 0),(3,.p 3 0),(148,.p 0 6)] ai ey fun qr k7=>?_
 refine qal (qeD k7 (v:=.func (.func 60) #[] #[.pointer (some ⟨ba,0,none⟩)]) (d:=149) kz fun qs k8=>?_)
 refine qal (qak k8 (f:=59) (vs:=[.pointer (some ⟨b,o + 6,none⟩),.func (.func 60) #[] #[.pointer (some ⟨ba,0,none⟩)]]) (d:=150) kz Tryz.call59 (qeP (F:=(Imm F w mj [⟨b,o,(z8 v D),false⟩,⟨b7,0,z0,true⟩,⟨aa,0,(z33 ae D af A3_ k3_ c3_ A4_ k4_ c4_),true⟩,⟨ba,0,(z11 aa),true⟩] [⟨A3_,c3_,37,5,k3_,xs3_⟩,⟨A4_,c4_,37,5,k4_,xs4_⟩])) Tryz.call60 qcW ((hat.one 6 rfl).move ai.step nilM ai.imm) (g6.move ai.step nilM ai.imm) (Str.of ai 3 rfl) (qjG 3 rfl) g6l) ?_)
 rintro e_ qt ⟨rfl,ag,ah,gg,k9,la⟩
 obtain ⟨eQ,bk,lb⟩:=ai.wrote 3 [⟨b,o,(z8 v D),false⟩,⟨b7,0,z0,true⟩,⟨aa,0,(z33 ae D af A3_ k3_ c3_ A4_ k4_ c4_),true⟩,⟨ba,0,(z52 aa ag D ah),true⟩] rfl la gg
 have fW:=k9.move (Step.refl _ Nil) nilM (fun b_ o_ h_ hb_=>lb (G:=F) b_ o_ (.inr h_) hb_)
 refine ⟨_,rfl,fun qu lc=>?_⟩
 have ld:=(EnvOk.places (tb':=[⟨b,o,[.int .i16 v,.string ((D.f 0).s),.int .i64 ((D.f 1).n),.int .i16 ((D.f 2).n),.slice ((D.f 3).A) ((D.f 3).l) ((D.f 3).c),.slice ((D.f 4).A) ((D.f 4).l) ((D.f 4).c),.map D.m],false⟩,⟨b7,0,[.int .i64 0,.slice none 0 0,.bool false,.slice none 0 0,.slice none 0 0],true⟩,⟨aa,0,[.int .i64 0,.slice (some ⟨ae,0,none⟩) ((sb ((D.f 0).s)).length) af,.bool false,.slice none 0 0,.slice none 0 0,.int .i64 ((D.f 1).n),.slice none 0 0,.bool false,.slice none 0 0,.slice none 0 0,.int .i64 (IntKind.i64.wrap ((D.f 2).n)),.slice none 0 0,.bool false,.slice none 0 0,.slice none 0 0,.int .i64 0,.slice none 0 0,.bool (((D.f 3).A).isNone),.slice A3_ k3_ c3_,.slice none 0 0,.int .i64 0,.slice none 0 0,.bool (((D.f 4).A).isNone),.slice A4_ k4_ c4_,.slice none 0 0],true⟩,⟨ba,0,[.int .i64 0,.slice none 0 0,.bool false,.slice (some ⟨aa,0,none⟩) 5 5,.slice ag D.u.length ah],true⟩]) lc (show Pl [⟨b,o,[.int .i16 v,.string ((D.f 0).s),.int .i64 ((D.f 1).n),.int .i16 ((D.f 2).n),.slice ((D.f 3).A) ((D.f 3).l) ((D.f 3).c),.slice ((D.f 4).A) ((D.f 4).l) ((D.f 4).c),.map D.m],false⟩,⟨b7,0,[.int .i64 0,.slice none 0 0,.bool false,.slice none 0 0,.slice none 0 0],true⟩,⟨aa,0,[.int .i64 0,.slice (some ⟨ae,0,none⟩) ((sb ((D.f 0).s)).length) af,.bool false,.slice none 0 0,.slice none 0 0,.int .i64 ((D.f 1).n),.slice none 0 0,.bool false,.slice none 0 0,.slice none 0 0,.int .i64 (IntKind.i64.wrap ((D.f 2).n)),.slice none 0 0,.bool false,.slice none 0 0,.slice none 0 0,.int .i64 0,.slice none 0 0,.bool (((D.f 3).A).isNone),.slice A3_ k3_ c3_,.slice none 0 0,.int .i64 0,.slice none 0 0,.bool (((D.f 4).A).isNone),.slice A4_ k4_ c4_,.slice none 0 0],true⟩,⟨ba,0,[.int .i64 0,.slice none 0 0,.bool false,.slice (some ⟨aa,0,none⟩) 5 5,.slice none 0 0],true⟩] [⟨b,o,[.int .i16 v,.string ((D.f 0).s),.int .i64 ((D.f 1).n),.int .i16 ((D.f 2).n),.slice ((D.f 3).A) ((D.f 3).l) ((D.f 3).c),.slice ((D.f 4).A) ((D.f 4).l) ((D.f 4).c),.map D.m],false⟩,⟨b7,0,[.int .i64 0,.slice none 0 0,.bool false,.slice none 0 0,.slice none 0 0],true⟩,⟨aa,0,[.int .i64 0,.slice (some ⟨ae,0,none⟩) ((sb ((D.f 0).s)).length) af,.bool false,.slice none 0 0,.slice none 0 0,.int .i64 ((D.f 1).n),.slice none 0 0,.bool false,.slice none 0 0,.slice none 0 0,.int .i64 (IntKind.i64.wrap ((D.f 2).n)),.slice none 0 0,.bool false,.slice none 0 0,.slice none 0 0,.int .i64 0,.slice none 0 0,.bool (((D.f 3).A).isNone),.slice A3_ k3_ c3_,.slice none 0 0,.int .i64 0,.slice none 0 0,.bool (((D.f 4).A).isNone),.slice A4_ k4_ c4_,.slice none 0 0],true⟩,⟨ba,0,[.int .i64 0,.slice none 0 0,.bool false,.slice (some ⟨aa,0,none⟩) 5 5,.slice ag D.u.length ah],true⟩] from ⟨rfl,rfl,⟨rfl,rfl,⟨rfl,rfl,⟨rfl,rfl,trivial⟩⟩⟩⟩)).pk (env':=[(150,.v (.tuple #[])),(2,.p 1 0),(3,.p 3 0),(148,.p 0 6),(149,.v (.func (.func 60) #[] #[.pointer (some ⟨ba,0,none⟩)]))])
 refine qae (qab ?_)
 refine qaf [0,1,2] kz ?_
 refine qai [0,1] [2] [(2,.p 1 0),(3,.p 3 0),(152,.v (.slice ag D.u.length ah))] eQ ld fun qv lf=>?_
 refine qal (qak lf (f:=61) (vs:=[.slice ag D.u.length ah]) (d:=153) kz Tryz.call61 (qgC fW g6.sorted) ?_)
 rintro e_ qw ⟨rfl,fX⟩
 refine ⟨_,rfl,fun qx lg=>?_⟩
 have fY:=eQ.next_nil fX
 have aB:=eQ.frN fX
 refine qae (qab ?_)
 refine qaf [0,1] kz ?_
 refine qai [0] [1] [(2,.p 1 0),(154,.v (.agg #[.int .i64 0,.slice none 0 0,.bool false,.slice (some ⟨aa,0,none⟩) 5 5,.slice ag D.u.length ah]))] fY lg fun qy lh=>?_
 refine qal (qao fY lh (oi:=1) (cs:=(z52 aa ag D ah)) kz fun eW aC dA li=>?_)
 refine qae (qab ?_)
 refine wp_ret (qaM li dA.cells (v:=.agg #[.int .i64 0,.slice none 0 0,.bool false,.slice (some ⟨aa,0,none⟩) 5 5,.slice ag D.u.length ah]) kz ?_)
 have fZ:=(hT3_.move ((((((dp.trans dq).trans dr).trans aQ).trans bk).trans aB).trans aC).step immM ((((((dp.trans dq).trans dr).trans aQ).trans bk).trans aB).trans aC).to')
 rw [qeQ (by omega)] at fZ
 have f5:=(hT4_.move ((bk.trans aB).trans aC).step immM ((bk.trans aB).trans aC).to')
 rw [qeQ (by omega)] at f5
 exact qfq (u:=D.u) (l:=[.mk 0 (sb (D.f 0).s) false [] [],.mk ((D.f 1).n) [] false [] [],.mk (IntKind.i64.wrap (D.f 2).n) [] false [] [],.mk 0 [] (D.f 3).A.isNone ((List.range (D.f 3).l).map fun i=>qa3 ((D.f 3).f i)) [],.mk 0 [] (D.f 4).A.isNone ((List.range (D.f 4).l).map fun i=>qaT ((D.f 4).f i)) []]) (css:=[[.int .i64 0,.slice (some ⟨ae,0,none⟩) ((sb ((D.f 0).s)).length) af,.bool false,.slice none 0 0,.slice none 0 0],[.int .i64 ((D.f 1).n),.slice none 0 0,.bool false,.slice none 0 0,.slice none 0 0],[.int .i64 (IntKind.i64.wrap ((D.f 2).n)),.slice none 0 0,.bool false,.slice none 0 0,.slice none 0 0],[.int .i64 0,.slice none 0 0,.bool (((D.f 3).A).isNone),.slice A3_ k3_ c3_,.slice none 0 0],[.int .i64 0,.slice none 0 0,.bool (((D.f 4).A).isNone),.slice A4_ k4_ c4_,.slice none 0 0]]) dA 2 rfl ⟨(show TreeR _ (Imm F w eW [⟨b,o,[.int .i16 v,.string ((D.f 0).s),.int .i64 ((D.f 1).n),.int .i16 ((D.f 2).n),.slice ((D.f 3).A) ((D.f 3).l) ((D.f 3).c),.slice ((D.f 4).A) ((D.f 4).l) ((D.f 4).c),.map D.m],false⟩,⟨b7,0,[.int .i64 0,.slice none 0 0,.bool false,.slice (some ⟨aa,0,none⟩) 5 5,.slice ag D.u.length ah],true⟩,⟨aa,0,[.int .i64 0,.slice (some ⟨ae,0,none⟩) ((sb ((D.f 0).s)).length) af,.bool false,.slice none 0 0,.slice none 0 0,.int .i64 ((D.f 1).n),.slice none 0 0,.bool false,.slice none 0 0,.slice none 0 0,.int .i64 (IntKind.i64.wrap ((D.f 2).n)),.slice none 0 0,.bool false,.slice none 0 0,.slice none 0 0,.int .i64 0,.slice none 0 0,.bool (((D.f 3).A).isNone),.slice A3_ k3_ c3_,.slice none 0 0,.int .i64 0,.slice none 0 0,.bool (((D.f 4).A).isNone),.slice A4_ k4_ c4_,.slice none 0 0],true⟩,⟨ba,0,[.int .i64 0,.slice none 0 0,.bool false,.slice (some ⟨aa,0,none⟩) 5 5,.slice ag D.u.length ah],true⟩] [⟨A3_,c3_,37,5,k3_,xs3_⟩,⟨A4_,c4_,37,5,k4_,xs4_⟩]) _ _ from (TreeR.mk (n:=0) (b:=false) (s:=(sb ((D.f 0).s))) (l:=[]) (u:=[]) (fun _=>[]) (lB.move (((((((((((((((gj.trans gk).trans gm).trans gn).trans gq).trans gt).trans eX).trans eZ).trans cA).trans dp).trans dq).trans dr).trans aQ).trans bk).trans aB).trans aC).step immM (((((((((((((((gj.trans gk).trans gm).trans gn).trans gq).trans gt).trans eX).trans eZ).trans cA).trans dp).trans dq).trans dr).trans aQ).trans bk).trans aB).trans aC).to') (Slots.nil _ _ _ _) (fun i_ x_ h_=>by simp at h_) (TagsR.nil _ _))).move (Step.refl _ Nil) nilM qca,(show TreeR _ (Imm F w eW [⟨b,o,[.int .i16 v,.string ((D.f 0).s),.int .i64 ((D.f 1).n),.int .i16 ((D.f 2).n),.slice ((D.f 3).A) ((D.f 3).l) ((D.f 3).c),.slice ((D.f 4).A) ((D.f 4).l) ((D.f 4).c),.map D.m],false⟩,⟨b7,0,[.int .i64 0,.slice none 0 0,.bool false,.slice (some ⟨aa,0,none⟩) 5 5,.slice ag D.u.length ah],true⟩,⟨aa,0,[.int .i64 0,.slice (some ⟨ae,0,none⟩) ((sb ((D.f 0).s)).length) af,.bool false,.slice none 0 0,.slice none 0 0,.int .i64 ((D.f 1).n),.slice none 0 0,.bool false,.slice none 0 0,.slice none 0 0,.int .i64 (IntKind.i64.wrap ((D.f 2).n)),.slice none 0 0,.bool false,.slice none 0 0,.slice none 0 0,.int .i64 0,.slice none 0 0,.bool (((D.f 3).A).isNone),.slice A3_ k3_ c3_,.slice none 0 0,.int .i64 0,.slice none 0 0,.bool (((D.f 4).A).isNone),.slice A4_ k4_ c4_,.slice none 0 0],true⟩,⟨ba,0,[.int .i64 0,.slice none 0 0,.bool false,.slice (some ⟨aa,0,none⟩) 5 5,.slice ag D.u.length ah],true⟩] [⟨A3_,c3_,37,5,k3_,xs3_⟩,⟨A4_,c4_,37,5,k4_,xs4_⟩]) _ _ from (TreeR.mk (n:=(D.f 1).n) (b:=false) (s:=[]) (l:=[]) (u:=[]) (fun _=>[]) (Octs.nil _ _) (Slots.nil _ _ _ _) (fun i_ x_ h_=>by simp at h_) (TagsR.nil _ _))).move (Step.refl _ Nil) nilM qca,(show TreeR _ (Imm F w eW [⟨b,o,[.int .i16 v,.string ((D.f 0).s),.int .i64 ((D.f 1).n),.int .i16 ((D.f 2).n),.slice ((D.f 3).A) ((D.f 3).l) ((D.f 3).c),.slice ((D.f 4).A) ((D.f 4).l) ((D.f 4).c),.map D.m],false⟩,⟨b7,0,[.int .i64 0,.slice none 0 0,.bool false,.slice (some ⟨aa,0,none⟩) 5 5,.slice ag D.u.length ah],true⟩,⟨aa,0,[.int .i64 0,.slice (some ⟨ae,0,none⟩) ((sb ((D.f 0).s)).length) af,.bool false,.slice none 0 0,.slice none 0 0,.int .i64 ((D.f 1).n),.slice none 0 0,.bool false,.slice none 0 0,.slice none 0 0,.int .i64 (IntKind.i64.wrap ((D.f 2).n)),.slice none 0 0,.bool false,.slice none 0 0,.slice none 0 0,.int .i64 0,.slice none 0 0,.bool (((D.f 3).A).isNone),.slice A3_ k3_ c3_,.slice none 0 0,.int .i64 0,.slice none 0 0,.bool (((D.f 4).A).isNone),.slice A4_ k4_ c4_,.slice none 0 0],true⟩,⟨ba,0,[.int .i64 0,.slice none 0 0,.bool false,.slice (some ⟨aa,0,none⟩) 5 5,.slice ag D.u.length ah],true⟩] [⟨A3_,c3_,37,5,k3_,xs3_⟩,⟨A4_,c4_,37,5,k4_,xs4_⟩]) _ _ from (TreeR.mk (n:=IntKind.i64.wrap ((D.f 2).n)) (b:=false) (s:=[]) (l:=[]) (u:=[]) (fun _=>[]) (Octs.nil _ _) (Slots.nil _ _ _ _) (fun i_ x_ h_=>by simp at h_) (TagsR.nil _ _))).move (Step.refl _ Nil) nilM qca,qdQ dA (k:=0) rfl fZ (by rw [qbG]; omega) (by rw [qbG]; omega),qdQ dA (k:=1) rfl f5 (by rw [qbG]; omega) (by rw [qbG]; omega),trivial⟩ ((show TagsR _ (Imm F w eW [⟨b,o,[.int .i16 v,.string ((D.f 0).s),.int .i64 ((D.f 1).n),.int .i16 ((D.f 2).n),.slice ((D.f 3).A) ((D.f 3).l) ((D.f 3).c),.slice ((D.f 4).A) ((D.f 4).l) ((D.f 4).c),.map D.m],false⟩,⟨b7,0,[.int .i64 0,.slice none 0 0,.bool false,.slice (some ⟨aa,0,none⟩) 5 5,.slice ag D.u.length ah],true⟩,⟨aa,0,[.int .i64 0,.slice (some ⟨ae,0,none⟩) ((sb ((D.f 0).s)).length) af,.bool false,.slice none 0 0,.slice none 0 0,.int .i64 ((D.f 1).n),.slice none 0 0,.bool false,.slice none 0 0,.slice none 0 0,.int .i64 (IntKind.i64.wrap ((D.f 2).n)),.slice none 0 0,.bool false,.slice none 0 0,.slice none 0 0,.int .i64 0,.slice none 0 0,.bool (((D.f 3).A).isNone),.slice A3_ k3_ c3_,.slice none 0 0,.int .i64 0,.slice none 0 0,.bool (((D.f 4).A).isNone),.slice A4_ k4_ c4_,.slice none 0 0],true⟩,⟨ba,0,[.int .i64 0,.slice none 0 0,.bool false,.slice (some ⟨aa,0,none⟩) 5 5,.slice ag D.u.length ah],true⟩] [⟨A3_,c3_,37,5,k3_,xs3_⟩,⟨A4_,c4_,37,5,k4_,xs4_⟩]) _ _ _ from (fW.move (aB.trans aC).step immM (aB.trans aC).to')).move (Step.refl _ Nil) nilM qca)
theorem ql8 {x:Int} (h:-9223372036854775808 ≤ x ∧ x ≤ 9223372036854775807):IntKind.i64.wrap x = x:=by rw [n64w]; omega
theorem qlR {t:Tree} (h:t.i64s):IntKind.i64.wrap t.N = t.N:=by
 cases t
 exact ql8 h.1
theorem qhk {t:Tree} (h:t.i64s) (i:Nat):(t.at_ i).i64s:=by
 cases t with
 | mk n s b l u =>
  have h1:∀ x ∈ l,x.i64s:=qfF h.2
  show (l.getD i .zero).i64s
  rw [List.getD_eq_getElem?_getD]
  cases hx:l[i]? with
  | none=>exact ⟨by decide,trivial⟩
  | some x=>exact h1 x (List.mem_of_getElem? hx)
theorem qfQ {t x:Tree} (h:t.i64s) {i:Nat} (hx:(qaq t.L)[i]? = some x):x.i64s:=by
 cases t with
 | mk n s b l u =>
  have h1:∀ x ∈ l,x.i64s:=qfF h.2
  exact h1 x (List.mem_of_mem_take (List.mem_of_getElem? hx))
theorem qbP {k x1 x2 x3 x5 x6 v:Int} {s:List Fld} {flex:Bool} {x:Tree}:Fld.pres (.mk k x1 x2 x3 (-1) x5 x6 s) v flex x = (decide (x1 ≤ v) && (decide (x2 < 0) || decide (v ≤ x2))):=by simp [Fld.pres,Fld.tag,Fld.has]
section
variable {T:List Fld → Tree → Tree → Prop} {U:List Fld → Tree → Prop} {v k x1 x2 x3 x4 x5 x6 n:Int} {sub:List Fld} {x T':Tree} {A:Option Addr} {s:ByteArray} {o:Bs} {b:Bool}
theorem qhM (hn:n = qbx k x.N) (hk:k < 7:=by decide):ToF0 T v (.mk k x1 x2 (-1) x4 x5 x6 sub) x (.mk n [] false [] []):=by
 cases x
 exact ⟨fun h=>by omega,fun _ h=>by omega,fun _ h=>by omega,fun _ h=>by omega,fun _ _ _ _ _ _=>hn⟩
theorem qhl (hn:n = qbx k x.N) (hk:k < 7:=by decide):ToF T v (.mk k x1 x2 (-1) x4 x5 x6 sub) x (.mk n [] false [] []):=⟨qhM hn hk,fun h=>absurd (show k = 11 from h) (by omega)⟩
theorem qlk (hb:b = decide (T'.N % 2 = 1)) (h1:T'.N = x.N):ToF T v (.mk 0 x1 x2 (-1) x4 x5 x6 sub) x (qko b):=by
 refine qhl ?_
 subst hb
 rw [h1]
 show (if decide (x.N % 2 = 1) = true then (1:Int) else 0) = qbx 0 x.N
 simp only [qbx,if_true,decide_eq_true_eq]
 split <;> omega
theorem qkp (hs:o = qaH x.S):ToF0 T v (.mk 8 x1 x2 (-1) x4 x5 x6 sub) x (.mk 0 o false [] []):=by
 cases x with
 | mk a1 a2 a3 a4 a5 =>
  exact ⟨fun _=>nul_no.symm,fun _ _=>hs,fun _ h=>by omega,fun _ h=>by omega,fun _ _ h=>absurd rfl h⟩
theorem qgJ (h:s = bs T'.S) (h1:T'.S = qaH x.S):ToF T v (.mk 8 x1 x2 (-1) x4 x5 x6 sub) x (.mk 0 (sb s) false [] []) :=
 ⟨qkp (by rw [h,qlW,h1]),fun h=>absurd (show (8:Int) = 11 from h) (by decide)⟩
theorem qgK {g:Tree} (hg:g.null = false) (h:T sub x g):ToF0 T v (.mk 10 x1 x2 (-1) x4 x5 x6 sub) x g:=by
 cases x with
 | mk a1 a2 a3 a4 a5 =>
  cases g with
  | mk g1 g2 g3 g4 g5 =>
   exact ⟨fun _=>by rw [nul_no]; exact hg,fun _ h=>by omega,fun _ h=>by omega,fun _ _=>h,fun _ _ _ _ h=>absurd rfl h⟩
theorem qfR {l:Nat} {g:Nat → Tree} {W:Tree → Tree} (hb:x3 ≥ 0 ∧ v ≥ x3 → b = Fld.nul (.mk 11 x1 x2 x3 x4 x5 x6 sub) v x) (hl:l = (lst T').length) (hlst:lst T' = (if Fld.nul (.mk 11 x1 x2 x3 (-1) x5 x6 sub) v x = true then [] else qaq x.L).map W)
  (he:∀ i y,i < l → (lst T').getD i .zero = W y → (qaq x.L)[i]? = some y → ToF0 T v (.mk x6 x1 x2 (-1) (-1) x5 x6 sub) y (g i)):ToF T v (.mk 11 x1 x2 x3 x4 x5 x6 sub) x (.mk 0 [] b ((List.range l).map g) []):=by
 have hn:Fld.nul (.mk 11 x1 x2 x3 (-1) x5 x6 sub) v x = Fld.nul (.mk 11 x1 x2 x3 x4 x5 x6 sub) v x:=by cases x; rfl
 refine ⟨?_,fun _ hnn=>?_⟩
 ·cases x with
  | mk a1 a2 a3 a4 a5 =>
   refine ⟨fun h=>hb ?_,fun _ h=>by omega,fun _ h=>by omega,fun _ h=>by omega,fun _ _ _ _ _ h=>absurd rfl h⟩
   rcases h with h | h | h
   ·omega
   ·omega
   exact h
 rw [hn,hnn,if_neg (by decide)] at hlst
 have hll:l = (qaq x.L).length:=by rw [hl,hlst,List.length_map]
 refine ⟨by show ((List.range l).map g).length = _; rw [List.length_map,List.length_range,hll],fun i y z hy hz=>?_⟩
 have hi:i < l:=by rw [hll]; exact (List.getElem?_eq_some_iff.1 hy).1
 have hz':((List.range l).map g)[i]? = some z:=hz
 rw [List.getElem?_map,List.getElem?_range hi] at hz'
 obtain rfl:=Option.some.inj hz'
 refine he i y hi ?_ hy
 rw [hlst,List.getD_eq_getElem?_getD,List.getElem?_map,hy]
 rfl
theorem us_num' (hn:n = qbx k x5) (hk:k < 7:=by decide):UsF U (.mk k x1 x2 x3 x4 x5 x6 sub) (.mk n [] false [] []):=⟨fun h=>by omega,fun h=>by omega,fun h=>by omega,fun h=>by omega,fun _ _ _ _ _=>hn⟩
theorem us_text' (h:s = ByteArray.empty) (h3:decide (x3 ≥ 0) = false:=by decide):UsF U (.mk 8 x1 x2 x3 x4 x5 x6 sub) (.mk 0 (sb s) false [] []):=by
 subst h
 exact ⟨fun _=>⟨h3.symm,rfl⟩,fun h=>by omega,fun h=>by omega,fun h=>by omega,fun _ h=>absurd rfl h⟩
theorem us_list' {l:Nat} {g:Nat → Tree} (h:l = 0):UsF U (.mk 11 x1 x2 x3 x4 x5 x6 sub) (.mk 0 [] b ((List.range l).map g) []):=by
 subst h
 exact ⟨fun h=>by omega,fun h=>by omega,fun _=>⟨rfl,rfl⟩,fun h=>by omega,fun _ _ _ _ h=>absurd rfl h⟩
end
theorem qcy (v:Int) (h0:0 ≤ v) (t Y:Tree) (hY:∀ i,Y.at_ i = (fitT v 7 [(Fld.mk 8 0 (-1) (-1) (-1) 0 0 []),(Fld.mk 11 0 (-1) (-1) (-1) 0 3 [])] t).at_ i) (hU:Y.U = (fitT v 7 [(Fld.mk 8 0 (-1) (-1) (-1) 0 0 []),(Fld.mk 11 0 (-1) (-1) (-1) 0 3 [])] t).U) (hi:t.i64s) (D:DV) (h:qa6 v D Y):qhL v (decide (v ≥ qah)) 7 [(Fld.mk 8 0 (-1) (-1) (-1) 0 0 []),(Fld.mk 11 0 (-1) (-1) (-1) 0 3 [])] t (qa3 D):=by
 unfold qa6 at h
 obtain ⟨r0,r1,rU,_⟩:=h
 refine ⟨rfl,fun i f y hf hy=>?_,?_⟩
 ·match i,hf,hy with
  | 0,hf,hy =>
   obtain rfl:=Option.some.inj hf
   obtain rfl:=Option.some.inj hy
   have e:=hY 0
   refine ⟨fun hp=>?_,fun hp=>?_⟩
   ·have hc:True:=trivial
    have r:=r0
    rw [e] at r
    exact qgJ r (qfg (v:=v) (d:=6) (t:=t) (show [(Fld.mk 8 0 (-1) (-1) (-1) 0 0 []),(Fld.mk 11 0 (-1) (-1) (-1) 0 3 [])][0]? = _ from rfl) (by decide))
   rw [qbP] at hp; simp at hp; omega
  | 1,hf,hy =>
   obtain rfl:=Option.some.inj hf
   obtain rfl:=Option.some.inj hy
   have e:=hY 1
   refine ⟨fun hp=>?_,fun hp=>?_⟩
   ·have hc:True:=trivial
    have r:=r1
    rw [e] at r
    obtain ⟨fn_,fl⟩:=qdE (v:=v) (d:=6) (t:=t) (show [(Fld.mk 8 0 (-1) (-1) (-1) 0 0 []),(Fld.mk 11 0 (-1) (-1) (-1) 0 3 [])][1]? = _ from rfl)
    refine qfR (fun h_=>absurd h_.1 (by decide)) r.1 fl fun i_ y_ hi_ hg_ hy_=>?_
    have q:=r.2 i_ hi_
    rw [hg_] at q
    exact qhM (by rw [q,qfe]; cases y_; simp [qbT,Fld.kind,Tree.N,qbx])
   rw [qbP] at hp; simp at hp; omega
  | n_ + 2,hf,hy=>exact absurd (List.getElem?_eq_some_iff.1 hf).1 (by show ¬ n_ + 2 < 2; omega)
 show D.u = if (decide (v ≥ qah)) = true then qcx (qag [(Fld.mk 8 0 (-1) (-1) (-1) 0 0 []),(Fld.mk 11 0 (-1) (-1) (-1) 0 3 [])] t.U) else []
 by_cases hc:(decide (v ≥ 3)) = true
 ·rw [if_pos (show (decide (v ≥ qah)) = true from hc),rU.1 hc,hU,qgm]
 rw [if_neg (show ¬ (decide (v ≥ qah)) = true from hc),rU.2 (by simpa using hc)]
theorem qb6 (v:Int) (h0:0 ≤ v) (t Y:Tree) (hY:∀ i,Y.at_ i = (fitT v 6 [(Fld.mk 8 0 (-1) (-1) (-1) 0 0 []),(Fld.mk 11 0 (-1) (-1) (-1) 0 3 [])] t).at_ i) (hU:Y.U = (fitT v 6 [(Fld.mk 8 0 (-1) (-1) (-1) 0 0 []),(Fld.mk 11 0 (-1) (-1) (-1) 0 3 [])] t).U) (hi:t.i64s) (D:DV) (h:qaY v D Y):qhL v (decide (v ≥ qah)) 6 [(Fld.mk 8 0 (-1) (-1) (-1) 0 0 []),(Fld.mk 11 0 (-1) (-1) (-1) 0 3 [])] t (qaK D):=by
 unfold qaY at h
 obtain ⟨r0,r1,rU,_⟩:=h
 refine ⟨rfl,fun i f y hf hy=>?_,?_⟩
 ·match i,hf,hy with
  | 0,hf,hy =>
   obtain rfl:=Option.some.inj hf
   obtain rfl:=Option.some.inj hy
   have e:=hY 0
   refine ⟨fun hp=>?_,fun hp=>?_⟩
   ·have hc:True:=trivial
    have r:=r0
    rw [e] at r
    exact qgJ r (qfg (v:=v) (d:=5) (t:=t) (show [(Fld.mk 8 0 (-1) (-1) (-1) 0 0 []),(Fld.mk 11 0 (-1) (-1) (-1) 0 3 [])][0]? = _ from rfl) (by decide))
   rw [qbP] at hp; simp at hp; omega
  | 1,hf,hy =>
   obtain rfl:=Option.some.inj hf
   obtain rfl:=Option.some.inj hy
   have e:=hY 1
   refine ⟨fun hp=>?_,fun hp=>?_⟩
   ·have hc:True:=trivial
    have r:=r1
    rw [e] at r
    obtain ⟨fn_,fl⟩:=qdE (v:=v) (d:=5) (t:=t) (show [(Fld.mk 8 0 (-1) (-1) (-1) 0 0 []),(Fld.mk 11 0 (-1) (-1) (-1) 0 3 [])][1]? = _ from rfl)
    refine qfR (fun h_=>absurd h_.1 (by decide)) r.1 fl fun i_ y_ hi_ hg_ hy_=>?_
    have q:=r.2 i_ hi_
    rw [hg_] at q
    exact qhM (by rw [q,qfe]; cases y_; simp [qbT,Fld.kind,Tree.N,qbx])
   rw [qbP] at hp; simp at hp; omega
  | n_ + 2,hf,hy=>exact absurd (List.getElem?_eq_some_iff.1 hf).1 (by show ¬ n_ + 2 < 2; omega)
 show D.u = if (decide (v ≥ qah)) = true then qcx (qag [(Fld.mk 8 0 (-1) (-1) (-1) 0 0 []),(Fld.mk 11 0 (-1) (-1) (-1) 0 3 [])] t.U) else []
 by_cases hc:(decide (v ≥ 3)) = true
 ·rw [if_pos (show (decide (v ≥ qah)) = true from hc),rU.1 hc,hU,qgm]
 rw [if_neg (show ¬ (decide (v ≥ qah)) = true from hc),rU.2 (by simpa using hc)]
theorem qci (v:Int) (h0:0 ≤ v) (t Y:Tree) (hY:∀ i,Y.at_ i = (fitT v 7 [(Fld.mk 8 0 (-1) (-1) (-1) 0 0 []),(Fld.mk 4 0 (-1) (-1) (-1) 0 0 []),(Fld.mk 2 0 (-1) (-1) (-1) 0 0 []),(Fld.mk 0 0 (-1) (-1) (-1) 0 0 []),(Fld.mk 11 0 (-1) (-1) (-1) 0 10 [(Fld.mk 8 0 (-1) (-1) (-1) 0 0 []),(Fld.mk 11 0 (-1) (-1) (-1) 0 3 [])])] t).at_ i) (hU:Y.U = (fitT v 7 [(Fld.mk 8 0 (-1) (-1) (-1) 0 0 []),(Fld.mk 4 0 (-1) (-1) (-1) 0 0 []),(Fld.mk 2 0 (-1) (-1) (-1) 0 0 []),(Fld.mk 0 0 (-1) (-1) (-1) 0 0 []),(Fld.mk 11 0 (-1) (-1) (-1) 0 10 [(Fld.mk 8 0 (-1) (-1) (-1) 0 0 []),(Fld.mk 11 0 (-1) (-1) (-1) 0 3 [])])] t).U) (hi:t.i64s) (D:DV) (h:qaZ v D Y):qhL v (decide (v ≥ qah)) 7 [(Fld.mk 8 0 (-1) (-1) (-1) 0 0 []),(Fld.mk 4 0 (-1) (-1) (-1) 0 0 []),(Fld.mk 2 0 (-1) (-1) (-1) 0 0 []),(Fld.mk 0 0 (-1) (-1) (-1) 0 0 []),(Fld.mk 11 0 (-1) (-1) (-1) 0 10 [(Fld.mk 8 0 (-1) (-1) (-1) 0 0 []),(Fld.mk 11 0 (-1) (-1) (-1) 0 3 [])])] t (qaT D):=by
 unfold qaZ at h
 obtain ⟨r0,r1,r2,r3,r4,rU,_⟩:=h
 refine ⟨rfl,fun i f y hf hy=>?_,?_⟩
 ·match i,hf,hy with
  | 0,hf,hy =>
   obtain rfl:=Option.some.inj hf
   obtain rfl:=Option.some.inj hy
   have e:=hY 0
   refine ⟨fun hp=>?_,fun hp=>?_⟩
   ·have hc:True:=trivial
    have r:=r0
    rw [e] at r
    exact qgJ r (qfg (v:=v) (d:=6) (t:=t) (show [(Fld.mk 8 0 (-1) (-1) (-1) 0 0 []),(Fld.mk 4 0 (-1) (-1) (-1) 0 0 []),(Fld.mk 2 0 (-1) (-1) (-1) 0 0 []),(Fld.mk 0 0 (-1) (-1) (-1) 0 0 []),(Fld.mk 11 0 (-1) (-1) (-1) 0 10 [(Fld.mk 8 0 (-1) (-1) (-1) 0 0 []),(Fld.mk 11 0 (-1) (-1) (-1) 0 3 [])])][0]? = _ from rfl) (by decide))
   rw [qbP] at hp; simp at hp; omega
  | 1,hf,hy =>
   obtain rfl:=Option.some.inj hf
   obtain rfl:=Option.some.inj hy
   have e:=hY 1
   refine ⟨fun hp=>?_,fun hp=>?_⟩
   ·have hc:True:=trivial
    have r:=r1
    rw [e] at r
    rw [(qfT (v:=v) (d:=6) (t:=t) (show [(Fld.mk 8 0 (-1) (-1) (-1) 0 0 []),(Fld.mk 4 0 (-1) (-1) (-1) 0 0 []),(Fld.mk 2 0 (-1) (-1) (-1) 0 0 []),(Fld.mk 0 0 (-1) (-1) (-1) 0 0 []),(Fld.mk 11 0 (-1) (-1) (-1) 0 10 [(Fld.mk 8 0 (-1) (-1) (-1) 0 0 []),(Fld.mk 11 0 (-1) (-1) (-1) 0 3 [])])][1]? = _ from rfl) (by decide))] at r
    exact qhl (by rw [r,qlR (qhk hi 1)]; rfl)
   rw [qbP] at hp; simp at hp; omega
  | 2,hf,hy =>
   obtain rfl:=Option.some.inj hf
   obtain rfl:=Option.some.inj hy
   have e:=hY 2
   refine ⟨fun hp=>?_,fun hp=>?_⟩
   ·have hc:True:=trivial
    have r:=r2
    rw [e] at r
    rw [(qfT (v:=v) (d:=6) (t:=t) (show [(Fld.mk 8 0 (-1) (-1) (-1) 0 0 []),(Fld.mk 4 0 (-1) (-1) (-1) 0 0 []),(Fld.mk 2 0 (-1) (-1) (-1) 0 0 []),(Fld.mk 0 0 (-1) (-1) (-1) 0 0 []),(Fld.mk 11 0 (-1) (-1) (-1) 0 10 [(Fld.mk 8 0 (-1) (-1) (-1) 0 0 []),(Fld.mk 11 0 (-1) (-1) (-1) 0 3 [])])][2]? = _ from rfl) (by decide))] at r
    exact qhl (by rw [r,qfd]; rfl)
   rw [qbP] at hp; simp at hp; omega
  | 3,hf,hy =>
   obtain rfl:=Option.some.inj hf
   obtain rfl:=Option.some.inj hy
   have e:=hY 3
   refine ⟨fun hp=>?_,fun hp=>?_⟩
   ·have hc:True:=trivial
    have r:=r3
    rw [e] at r
    exact qlk r (qfT (v:=v) (d:=6) (t:=t) (show [(Fld.mk 8 0 (-1) (-1) (-1) 0 0 []),(Fld.mk 4 0 (-1) (-1) (-1) 0 0 []),(Fld.mk 2 0 (-1) (-1) (-1) 0 0 []),(Fld.mk 0 0 (-1) (-1) (-1) 0 0 []),(Fld.mk 11 0 (-1) (-1) (-1) 0 10 [(Fld.mk 8 0 (-1) (-1) (-1) 0 0 []),(Fld.mk 11 0 (-1) (-1) (-1) 0 3 [])])][3]? = _ from rfl) (by decide))
   rw [qbP] at hp; simp at hp; omega
  | 4,hf,hy =>
   obtain rfl:=Option.some.inj hf
   obtain rfl:=Option.some.inj hy
   have e:=hY 4
   refine ⟨fun hp=>?_,fun hp=>?_⟩
   ·have hc:True:=trivial
    have r:=r4
    rw [e] at r
    obtain ⟨fn_,fl⟩:=qdE (v:=v) (d:=6) (t:=t) (show [(Fld.mk 8 0 (-1) (-1) (-1) 0 0 []),(Fld.mk 4 0 (-1) (-1) (-1) 0 0 []),(Fld.mk 2 0 (-1) (-1) (-1) 0 0 []),(Fld.mk 0 0 (-1) (-1) (-1) 0 0 []),(Fld.mk 11 0 (-1) (-1) (-1) 0 10 [(Fld.mk 8 0 (-1) (-1) (-1) 0 0 []),(Fld.mk 11 0 (-1) (-1) (-1) 0 3 [])])][4]? = _ from rfl)
    refine qfR (fun h_=>absurd h_.1 (by decide)) r.1 fl fun i_ y_ hi_ hg_ hy_=>?_
    have q:=r.2 i_ hi_
    rw [hg_] at q
    exact qgK rfl (qb6 v h0 y_ _ (fun i=>fit_10.1 i) fit_10.2 (qfQ (qhk hi 4) hy_) _ q)
   rw [qbP] at hp; simp at hp; omega
  | n_ + 5,hf,hy=>exact absurd (List.getElem?_eq_some_iff.1 hf).1 (by show ¬ n_ + 5 < 5; omega)
 show D.u = if (decide (v ≥ qah)) = true then qcx (qag [(Fld.mk 8 0 (-1) (-1) (-1) 0 0 []),(Fld.mk 4 0 (-1) (-1) (-1) 0 0 []),(Fld.mk 2 0 (-1) (-1) (-1) 0 0 []),(Fld.mk 0 0 (-1) (-1) (-1) 0 0 []),(Fld.mk 11 0 (-1) (-1) (-1) 0 10 [(Fld.mk 8 0 (-1) (-1) (-1) 0 0 []),(Fld.mk 11 0 (-1) (-1) (-1) 0 3 [])])] t.U) else []
 by_cases hc:(decide (v ≥ 3)) = true
 ·rw [if_pos (show (decide (v ≥ qah)) = true from hc),rU.1 hc,hU,qgm]
 rw [if_neg (show ¬ (decide (v ≥ qah)) = true from hc),rU.2 (by simpa using hc)]
theorem qcS (v:Int) (h0:0 ≤ v) (t Y:Tree) (hY:∀ i,Y.at_ i = (fitT v 8 sAddPartitionsToTxnRequestF t).at_ i) (hU:Y.U = (fitT v 8 sAddPartitionsToTxnRequestF t).U) (hi:t.i64s) (D:DV) (h:qbd v D Y):qhL v (decide (v ≥ qah)) 8 sAddPartitionsToTxnRequestF t (qbe D):=by
 unfold qbd at h
 obtain ⟨r0,r1,r2,r3,r4,rU,_⟩:=h
 refine ⟨rfl,fun i f y hf hy=>?_,?_⟩
 ·match i,hf,hy with
  | 0,hf,hy =>
   obtain rfl:=Option.some.inj hf
   obtain rfl:=Option.some.inj hy
   have e:=hY 0
   refine ⟨fun hp=>?_,fun hp=>?_⟩
   ·have hc:((if (decide (v ≥ 0)) = true then decide (v ≤ 3) else false)) = true:=by rw [qbP] at hp; simp at hp ⊢; try omega
    have r:=(r0.1 hc)
    rw [e] at r
    exact qgJ r (qfg (v:=v) (d:=7) (t:=t) (show sAddPartitionsToTxnRequestF[0]? = _ from rfl) (by decide))
   have hc:((if (decide (v ≥ 0)) = true then decide (v ≤ 3) else false)) = false:=by rw [qbP] at hp; simp at hp ⊢; try omega
   have r:=(r0.2 hc)
   exact us_text' r
  | 1,hf,hy =>
   obtain rfl:=Option.some.inj hf
   obtain rfl:=Option.some.inj hy
   have e:=hY 1
   refine ⟨fun hp=>?_,fun hp=>?_⟩
   ·have hc:((if (decide (v ≥ 0)) = true then decide (v ≤ 3) else false)) = true:=by rw [qbP] at hp; simp at hp ⊢; try omega
    have r:=(r1.1 hc)
    rw [e] at r
    rw [(qfT (v:=v) (d:=7) (t:=t) (show sAddPartitionsToTxnRequestF[1]? = _ from rfl) (by decide))] at r
    exact qhl (by rw [r,qlR (qhk hi 1)]; rfl)
   have hc:((if (decide (v ≥ 0)) = true then decide (v ≤ 3) else false)) = false:=by rw [qbP] at hp; simp at hp ⊢; try omega
   have r:=(r1.2 hc)
   exact us_num' (by rw [r]; first | rfl | decide)
  | 2,hf,hy =>
   obtain rfl:=Option.some.inj hf
   obtain rfl:=Option.some.inj hy
   have e:=hY 2
   refine ⟨fun hp=>?_,fun hp=>?_⟩
   ·have hc:((if (decide (v ≥ 0)) = true then decide (v ≤ 3) else false)) = true:=by rw [qbP] at hp; simp at hp ⊢; try omega
    have r:=(r2.1 hc)
    rw [e] at r
    rw [(qfT (v:=v) (d:=7) (t:=t) (show sAddPartitionsToTxnRequestF[2]? = _ from rfl) (by decide))] at r
    exact qhl (by rw [r,qfd]; rfl)
   have hc:((if (decide (v ≥ 0)) = true then decide (v ≤ 3) else false)) = false:=by rw [qbP] at hp; simp at hp ⊢; try omega
   have r:=(r2.2 hc)
   exact us_num' (by rw [r]; first | rfl | decide)
  | 3,hf,hy =>
   obtain rfl:=Option.some.inj hf
   obtain rfl:=Option.some.inj hy
   have e:=hY 3
   refine ⟨fun hp=>?_,fun hp=>?_⟩
   ·have hc:((if (decide (v ≥ 0)) = true then decide (v ≤ 3) else false)) = true:=by rw [qbP] at hp; simp at hp ⊢; try omega
    have r:=(r3.1 hc)
    rw [e] at r
    obtain ⟨fn_,fl⟩:=qdE (v:=v) (d:=7) (t:=t) (show sAddPartitionsToTxnRequestF[3]? = _ from rfl)
    refine qfR (fun h_=>absurd h_.1 (by decide)) r.1 fl fun i_ y_ hi_ hg_ hy_=>?_
    have q:=r.2 i_ hi_
    rw [hg_] at q
    exact qgK rfl (qcy v h0 y_ _ (fun i=>fit_10.1 i) fit_10.2 (qfQ (qhk hi 3) hy_) _ q)
   have hc:((if (decide (v ≥ 0)) = true then decide (v ≤ 3) else false)) = false:=by rw [qbP] at hp; simp at hp ⊢; try omega
   have r:=(r3.2 hc)
   exact us_list' r.2
  | 4,hf,hy =>
   obtain rfl:=Option.some.inj hf
   obtain rfl:=Option.some.inj hy
   have e:=hY 4
   refine ⟨fun hp=>?_,fun hp=>?_⟩
   ·have hc:(decide (v ≥ 4)) = true:=by rw [qbP] at hp; simp at hp ⊢; try omega
    have r:=(r4.1 hc)
    rw [e] at r
    obtain ⟨fn_,fl⟩:=qdE (v:=v) (d:=7) (t:=t) (show sAddPartitionsToTxnRequestF[4]? = _ from rfl)
    refine qfR (fun h_=>absurd h_.1 (by decide)) r.1 fl fun i_ y_ hi_ hg_ hy_=>?_
    have q:=r.2 i_ hi_
    rw [hg_] at q
    exact qgK rfl (qci v h0 y_ _ (fun i=>fit_10.1 i) fit_10.2 (qfQ (qhk hi 4) hy_) _ q)
   have hc:(decide (v ≥ 4)) = false:=by rw [qbP] at hp; simp at hp ⊢; try omega
   have r:=(r4.2 hc)
   exact us_list' r.2
  | n_ + 5,hf,hy=>exact absurd (List.getElem?_eq_some_iff.1 hf).1 (by show ¬ n_ + 5 < 5; omega)
 show D.u = if (decide (v ≥ qah)) = true then qcx (qag sAddPartitionsToTxnRequestF t.U) else []
 by_cases hc:(decide (v ≥ 3)) = true
 ·rw [if_pos (show (decide (v ≥ qah)) = true from hc),rU.1 hc,hU,qgm]
 rw [if_neg (show ¬ (decide (v ≥ qah)) = true from hc),rU.2 (by simpa using hc)]
abbrev z25 :=([.int .i16 0,.string zE,.int .i64 0,.int .i16 0,.slice none 0 0,.slice none 0 0,.map none]:List Value)
abbrev z71 (x0) (x1:DV):=([.int .i16 (IntKind.i16.wrap x0),.string ((x1.f 0).s),.int .i64 ((x1.f 1).n),.int .i16 ((x1.f 2).n),.slice ((x1.f 3).A) ((x1.f 3).l) ((x1.f 3).c),.slice ((x1.f 4).A) ((x1.f 4).l) ((x1.f 4).c),.map x1.m]:List Value)
abbrev z65 (x0) (x1) (x2) (x3:DV):=([⟨x0,0,z0,true⟩,⟨x1,0,[.int .i16 (IntKind.i16.wrap x2),.string ((x3.f 0).s),.int .i64 ((x3.f 1).n),.int .i16 ((x3.f 2).n),.slice ((x3.f 3).A) ((x3.f 3).l) ((x3.f 3).c),.slice ((x3.f 4).A) ((x3.f 4).l) ((x3.f 4).c),.map x3.m],true⟩]:Tb)
abbrev z91 (x0):=([.int .i16 (IntKind.i16.wrap x0),.string zE,.int .i64 0,.int .i16 0,.slice none 0 0,.slice none 0 0,.map none]:List Value)
set_option maxHeartbeats 4000000 in
theorem qdc (v:Int) (T:Tree) {A2:Option Addr} {c2:Nat} {w:World} {F:Nat → Nat → Prop} (hs_:Octs w F A2 c2 (qaj (IntKind.i16.wrap v) T)) (hc:qbc T) (hkey:T.ranged) (hroom:(qaj (IntKind.i16.wrap v) T).length + 16 ≤ 1099511627776) :
  Calls Tryz.prog 10 #[.int .i64 v,.slice A2 (qaj (IntKind.i16.wrap v) T).length c2] w (fun e w'=>∃ D cs,e = .returned (.tuple #[.agg cs.toArray,.bool true]) ∧ TreeR w' (Fp NoF w) cs (qbe D) ∧ qbd (IntKind.i16.wrap v) D T ∧ Step w w' Nil):=by
 refine enter (n:=20) Tryz.func10 rfl Tryz.ntmps10 kz fun a hE=>?_
 have hW:=WOk.start w Nil
 have hsm2:=Slots.small hs_
 refine qaf [0,1] kz ?_
 refine qal (qaQ hW hE (d:=4) (cs:=z0) kz fun b1 a2 w3 hb4 hz5 hF6 hW7 hE8=>?_)
 refine qai [1] [] [(0,.v (.int .i64 v)),(1,.v (.slice A2 ((qaj (IntKind.i16.wrap v) T).length) c2)),(4,.p 0 0)] hW7 hE8 fun a9 aT=>?_
 refine qae (qab ?_)
 refine qaf [0,1] kz ?_
 refine qal (qbR aT (f:=22) (vs:=[]) (d:=7) (n':=3) kz Tryz.call22 Tryz.func22 rfl Tryz.ntmps22 kz fun cI aU=>?_)
 refine qas [] hW7 aU fun cJ aV=>?_
 refine qaf [0] kz ?_
 refine qal (qaQ hW7 aV (d:=1) (cs:=z25) kz fun ab cK cL ce cm cq ac aW=>?_)
 refine qae (qab ?_)
 refine qaf [0] kz ?_
 refine qal (qbR aW (f:=54) (vs:=(z37 ab)) (d:=2) (n':=2) kz Tryz.call54 Tryz.func54 rfl Tryz.ntmps54 kz fun cM aX=>?_)
 have aY:=aX.recast 0 (.v (.pointer (some ⟨ab,0,none⟩))) (.p 1 0) rfl rfl (zN (n:=2) rfl)
 refine wp_skip (qbW aY ac.cells (v:=.tuple #[]) kz ?_)
 refine ⟨_,rfl,fun cN aZ=>?_⟩
 have ba:EnvOk 3 [⟨b1,0,z0,true⟩,⟨ab,0,z25,true⟩] [(2,.v (.tuple #[])),(1,.p 1 0)] _:=aZ.places (⟨rfl,rfl,⟨rfl,rfl,trivial⟩⟩)
 refine qae (qab ?_)
 refine qas [(0,.p 1 0)] ac ba fun cO bd=>?_
 refine wp_ret (qaM bd ac.cells (v:=.pointer (some ⟨ab,0,none⟩)) kz ?_)
 refine ⟨_,rfl,fun cP bf=>?_⟩
 have bg:EnvOk 20 [⟨b1,0,z0,true⟩,⟨ab,0,z25,true⟩] [(7,.v (.pointer (some ⟨ab,0,none⟩))),(0,.v (.int .i64 v)),(1,.v (.slice A2 ((qaj (IntKind.i16.wrap v) T).length) c2)),(4,.p 0 0)] _:=bf.places (⟨rfl,rfl,trivial⟩)
 have bh:=bg.recast 7 (.v (.pointer (some ⟨ab,0,none⟩))) (.p 1 0) rfl rfl (zN (n:=2) rfl)
 have bi:=bh.pick (ks:=[0,1,4,7]) (env':=[(0,.v (.int .i64 v)),(1,.v (.slice A2 ((qaj (IntKind.i16.wrap v) T).length) c2)),(4,.p 0 0),(7,.p 1 0)]) kz
 refine qai [1] [] [(0,.v (.int .i64 v)),(1,.v (.slice A2 ((qaj (IntKind.i16.wrap v) T).length) c2)),(4,.p 0 0),(6,.p 1 0)] ac bi fun cQ bj=>?_
 refine qae (qab ?_)
 refine qaf [0,1,2,3] kz ?_
 refine qai [0,1,2] [3] [(1,.v (.slice A2 ((qaj (IntKind.i16.wrap v) T).length) c2)),(4,.p 0 0),(6,.p 1 0),(8,.p 1 0),(10,.v (.int .i16 (IntKind.i16.wrap v)))] ac bj fun cR bk=>?_
 refine qal (qbR bk (f:=26) (vs:=[.pointer (some ⟨ab,0,none⟩),.int .i16 (IntKind.i16.wrap v)]) (d:=11) (n':=8) kz Tryz.call26 Tryz.func26 rfl Tryz.ntmps26 kz fun cS bn=>?_)
 have bo:=bn.recast 0 (.v (.pointer (some ⟨ab,0,none⟩))) (.p 1 0) rfl rfl (zN (n:=2) rfl)
 refine qap [0,1,2,3,4] kz ?_
 refine qai [0,1,2,3] [4] [(5,.v (.int .i16 (IntKind.i16.wrap v))),(7,.p 1 0)] ac bo fun cT bp=>?_
 refine qal (qao ac bp (oi:=1) (cs:=(z91 v)) kz fun cU cr ao bq=>?_)
 refine qae (qbW bq ao.cells (v:=.tuple #[]) kz ?_)
 refine ⟨_,rfl,fun cV bt=>?_⟩
 have bu:EnvOk 20 [⟨b1,0,z0,true⟩,⟨ab,0,(z91 v),true⟩] [(11,.v (.tuple #[])),(1,.v (.slice A2 ((qaj (IntKind.i16.wrap v) T).length) c2)),(4,.p 0 0),(6,.p 1 0),(8,.p 1 0),(10,.v (.int .i16 (IntKind.i16.wrap v)))] _:=bt.places (⟨rfl,rfl,⟨rfl,rfl,trivial⟩⟩)
 refine qae (qab ?_)
 refine wp_seq (qaf [0,1,2,3,4] kz ?_)
 refine qai [0,1] [2,3,4] [(4,.p 0 0),(6,.p 1 0),(12,.p 1 0),(13,.v (.slice A2 ((qaj (IntKind.i16.wrap v) T).length) c2))] ao bu fun cW bw=>?_
 have ah:=ao.addNil 5 1
 have cu:=ao.frNil 5 1
 refine qal (qaR ah bw (k:=0) (d:=14) (t:=22) (e:=5) (size:=1) (bytes:=1) (A:=none) (As:=A2) (m0:=0) (c:=0) (m:=((qaj (IntKind.i16.wrap v) T).length)) (cs:=c2) (xs:=[]) (news:=bc (qaj (IntKind.i16.wrap v) T)) kz kz rfl (hs_.move ah.step nilM ah.imm).src (hs_.move ah.step nilM ah.imm).cap (by first | omega | (simp only [List.length_nil]; omega) | (simp; omega)) fun af ag cX cY cw bx bz=>?_)
 have bA:(⟨af,ag,5,1,0 + (qaj (IntKind.i16.wrap v) T).length,[] ++ bc (qaj (IntKind.i16.wrap v) T)⟩:Rw) = brow af ag 5 (qaj (IntKind.i16.wrap v) T):=by rw [List.nil_append,Nat.zero_add]
 obtain ⟨ap,cz⟩:=bx.rowEq 0 [brow af ag 5 (qaj (IntKind.i16.wrap v) T)] bA
 have bB:=EnvOk.pick bz (ks:=[4,6,12,13,14]) (env':=[(4,.p 0 0),(6,.p 1 0),(12,.p 1 0),(13,.v (.slice A2 ((qaj (IntKind.i16.wrap v) T).length) c2)),(14,.v (.slice af (0 + (qaj (IntKind.i16.wrap v) T).length) ag))]) kz
 have bC:=bB.cast (env':=[(4,.p 0 0),(6,.p 1 0),(12,.p 1 0),(13,.v (.slice A2 ((qaj (IntKind.i16.wrap v) T).length) c2)),(14,.v (.slice af ((qaj (IntKind.i16.wrap v) T).length) ag))]) (by simp only [List.length_append,List.length_cons,List.length_nil,Nat.zero_add])
 refine qal (qbR bC (f:=27) (vs:=[.pointer (some ⟨ab,0,none⟩),.slice af ((qaj (IntKind.i16.wrap v) T).length) ag]) (d:=15) (n':=8) kz Tryz.call27 Tryz.func27 rfl Tryz.ntmps27 kz fun cZ bD=>?_)
 have bE:=bD.recast 0 (.v (.pointer (some ⟨ab,0,none⟩))) (.p 1 0) rfl rfl (zN (n:=2) rfl)
 refine qas [(0,.p 1 0),(1,.v (.slice af ((qaj (IntKind.i16.wrap v) T).length) ag))] ap bE fun c5 bF=>?_
 refine qaf [0,1,2,3] kz ?_
 refine qai [0,1] [2,3] [(5,.p 1 0),(6,.v (.slice af ((qaj (IntKind.i16.wrap v) T).length) ag))] ap bF fun c6 bG=>?_
 have bH:=ap.giveUp (G:=NoF) 0 [] (show _ = some (brow af ag 5 (qaj (IntKind.i16.wrap v) T)) from rfl) (by omega)
 obtain ⟨aH,cA⟩:=ap.cutR 0 []
 refine qal (qak bG (f:=56) (vs:=[.pointer (some ⟨ab,0,none⟩),.slice af ((qaj (IntKind.i16.wrap v) T).length) ag,.bool false]) (d:=7) kz Tryz.call56 (qda (IntKind.i16.wrap v) T (Str.of aH 1 rfl) bH (qjG 1 rfl) hc hkey) ?_)
 rintro e_ da ⟨aa,rfl,bI,bJ,bK,aI⟩
 obtain ⟨ae,cB,bL⟩:=aH.wrote 1 (z65 b1 ab v aa) rfl aI bI
 have bM:=qcm _ (Step.refl _ Nil) nilM bL bJ
 refine ⟨_,rfl,fun db bN=>?_⟩
 have bO:=(EnvOk.places (tb':=[⟨b1,0,[.int .i64 0,.slice none 0 0,.bool false,.slice none 0 0,.slice none 0 0],true⟩,⟨ab,0,[.int .i16 (IntKind.i16.wrap v),.string ((aa.f 0).s),.int .i64 ((aa.f 1).n),.int .i16 ((aa.f 2).n),.slice ((aa.f 3).A) ((aa.f 3).l) ((aa.f 3).c),.slice ((aa.f 4).A) ((aa.f 4).l) ((aa.f 4).c),.map aa.m],true⟩]) bN (show Pl [⟨b1,0,[.int .i64 0,.slice none 0 0,.bool false,.slice none 0 0,.slice none 0 0],true⟩,⟨ab,0,[.int .i16 (IntKind.i16.wrap v),.string ByteArray.empty,.int .i64 0,.int .i16 0,.slice none 0 0,.slice none 0 0,.map none],true⟩] [⟨b1,0,[.int .i64 0,.slice none 0 0,.bool false,.slice none 0 0,.slice none 0 0],true⟩,⟨ab,0,[.int .i16 (IntKind.i16.wrap v),.string ((aa.f 0).s),.int .i64 ((aa.f 1).n),.int .i16 ((aa.f 2).n),.slice ((aa.f 3).A) ((aa.f 3).l) ((aa.f 3).c),.slice ((aa.f 4).A) ((aa.f 4).l) ((aa.f 4).c),.map aa.m],true⟩] from ⟨rfl,rfl,⟨rfl,rfl,trivial⟩⟩)).pk (env':=[(7,.v (.nilIface)),(5,.p 1 0),(6,.v (.slice af ((qaj (IntKind.i16.wrap v) T).length) ag))])
 refine qai [3] [] [(4,.v (.nilIface))] ae bO fun dc bP=>?_
 refine qae (qab ?_)
 refine wp_ret (qaM bP ae.cells (v:=.nilIface) kz ?_)
 refine ⟨_,rfl,fun de bQ=>?_⟩
 have bR:EnvOk 20 (z65 b1 ab v aa) [(15,.v (.nilIface)),(4,.p 0 0),(6,.p 1 0),(12,.p 1 0),(13,.v (.slice A2 ((qaj (IntKind.i16.wrap v) T).length) c2)),(14,.v (.slice af ((qaj (IntKind.i16.wrap v) T).length) ag))] _:=bQ.places (⟨rfl,rfl,⟨rfl,rfl,trivial⟩⟩)
 refine qai [4] [] [(4,.p 0 0),(6,.p 1 0),(16,.v (.bool false))] ae bR fun df aJ=>?_
 refine qae (qab ?_)
 refine qan aJ (b:=false) kz rfl ?_
 refine wp_skip (qab (qaf [0,1,2,3] kz ?_))
 refine qai [0] [1,2,3] [(4,.p 0 0),(18,.p 1 0)] ae aJ fun dg bS=>?_
 have aK:=bS.recast 18 (.p 1 0) (.v (.pointer (some ⟨ab,0,none⟩))) rfl rfl trivial
 have aL:=aK.pk (env':=[(4,.p 0 0),(18,.v (.pointer (some ⟨ab,0,none⟩)))])
 have av:=WOk.strOut (G:=NoF) [⟨b1,0,z0,true⟩] ae
 obtain ⟨aM,ai,ar⟩:=ae.cutB aL 1 [⟨b1,0,z0,true⟩] [(4,.p 0 0),(18,.v (.pointer (some ⟨ab,0,none⟩)))]
 have aN:=qcm _ ar.step immM ar.to' bM
 refine qal (qak aM (f:=28) (vs:=(z37 ab)) (d:=19) kz Tryz.call28 (qdb (IntKind.i16.wrap v) aa ab 0 _ _ av aN) ?_)
 rintro e_ cC ⟨bY,rfl,aO,aj⟩
 have ak:=aO.move (Step.refl _ Nil) nilM (ai.laid (G:=NoF) aj)
 obtain ⟨aw,ax,ay,az,aA,aB,aC,aD,aE,aF,aG,bZ,b8,al,bT,bU,cD,cE⟩:=ak.open_
 rw [al] at ak
 have bV:=bT.small
 have bW:=bU.small
 rw [al]
 refine ⟨_,rfl,fun cG aP=>?_⟩
 have aQ:=ai.next_nil aj
 have cd:=ai.frN aj
 refine qal (qao aQ aP (oi:=0) (cs:=(z1 aw aB ax.length aC ay aD az.length aE aF aA.length aG)) kz fun bX au am aR=>?_)
 refine qai [3] [] [(4,.p 0 0),(5,.v (.bool true))] am aR fun cH aS=>?_
 refine qae (qab ?_)
 refine wp_ret (qaM aS am.cells (v:=.tuple #[.agg #[.int .i64 aw,.slice aB ax.length aC,.bool ay,.slice aD az.length aE,.slice aF aA.length aG],.bool true]) kz ?_)
 exact ⟨aa,_,rfl,(show TreeR _ (Imm NoF w bX [⟨b1,0,[.int .i64 aw,.slice aB ax.length aC,.bool ay,.slice aD az.length aE,.slice aF aA.length aG],true⟩] []) _ (qbe aa) from (ak.move au.step immM au.to')).move (Step.refl _ Nil) nilM qca,bK,am.step⟩
theorem qcY (v:Int) (T:Tree) (B:Bs) {A2:Option Addr} {c2:Nat} {w:World} {F:Nat → Nat → Prop} (hB:qaj (IntKind.i16.wrap v) T = B) (hs_:Octs w F A2 c2 B) (hc:qbc T) (hkey:T.ranged) (hroom:B.length + 16 ≤ 1099511627776) :
  Calls Tryz.prog 10 #[.int .i64 v,.slice A2 B.length c2] w (fun e w'=>∃ D cs,e = .returned (.tuple #[.agg cs.toArray,.bool true]) ∧ TreeR w' (Fp NoF w) cs (qbe D) ∧ qbd (IntKind.i16.wrap v) D T ∧ Step w w' Nil):=by
 subst hB
 exact qdc v T hs_ hc hkey hroom
end Go.Proofs.YtdlaobdadlmcdaaGreatDoor.ME