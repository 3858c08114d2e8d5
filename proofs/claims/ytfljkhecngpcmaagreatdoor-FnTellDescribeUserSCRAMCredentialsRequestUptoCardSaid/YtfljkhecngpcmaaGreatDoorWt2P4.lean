/- The texts of a claim, put together: the engine, the contracts, the law. Own work. -/
import Derived.Test.YtfljkhecngpcmaaGreatDoorWt2P3
namespace Go.Proofs.YtfljkhecngpcmaaGreatDoor.ME
open Go
open Go.RowKit
set_option linter.unusedVariables false
set_option linter.unusedSimpArgs false
set_option maxRecDepth 20000
theorem n8w (x:Int):IntKind.i8.wrap x = (x + 128) % 256 - 128:=by simp [IntKind.wrap,IntKind.signed,IntKind.bits]; omega
theorem n16w (x:Int):IntKind.i16.wrap x = (x + 32768) % 65536 - 32768:=by simp [IntKind.wrap,IntKind.signed,IntKind.bits]; omega
theorem n32w (x:Int):IntKind.i32.wrap x = (x + 2147483648) % 4294967296 - 2147483648:=by simp [IntKind.wrap,IntKind.signed,IntKind.bits]; omega
theorem n64w (x:Int):IntKind.i64.wrap x = (x + 9223372036854775808) % 18446744073709551616 - 9223372036854775808:=by simp [IntKind.wrap,IntKind.signed,IntKind.bits]; omega
theorem qhL (x:Int):IntKind.i64.wrap (IntKind.i8.wrap x) = IntKind.i8.wrap x:=by rw [n64w,n8w]; omega
theorem qfc (x:Int):IntKind.i64.wrap (IntKind.i16.wrap x) = IntKind.i16.wrap x:=by rw [n64w,n16w]; omega
theorem qfd (x:Int):IntKind.i64.wrap (IntKind.i32.wrap x) = IntKind.i32.wrap x:=by rw [n64w,n32w]; omega
theorem qek (x:Int):IntKind.i64.wrap (IntKind.u16.wrap x) = IntKind.u16.wrap x:=by rw [n64w,qbq]; omega
def qbr (k n:Int):Int:=if k = 0 then n % 2 else if k = 1 then IntKind.i8.wrap n else if k = 2 then IntKind.i16.wrap n else if k = 3 then IntKind.i32.wrap n else if k = 5 then IntKind.u16.wrap n else n
structure UsQ (U:List Fld → Tree → Prop) (k x1 x2 x3 x4 x5 x6:Int) (sub:List Fld) (n:Int) (s:Bs) (b:Bool) (l:List Tree) (u:List (Int × Bs)):Prop where
 text:k = 8 → b = decide (x3 ≥ 0) ∧ s = []
 uuid:k = 7 → s = List.replicate 16 0
 octs:k = 9 ∨ k = 11 → s = [] ∧ l = []
 part:k = 10 → (x3 ≥ 0 → b = true) ∧ (x3 < 0 → U sub (.mk n s b l u))
 num:k ≠ 7 → k ≠ 8 → k ≠ 9 → k ≠ 10 → k ≠ 11 → n = qbr k x5
def UsF (U:List Fld → Tree → Prop):Fld → Tree → Prop
 | .mk k x1 x2 x3 x4 x5 x6 sub,.mk n s b l u=>UsQ U k x1 x2 x3 x4 x5 x6 sub n s b l u
def UsP (U:List Fld → Tree → Prop) (l:List Fld) (g:Tree):Prop:=g.U = [] ∧ ∀ (i:Nat) (f:Fld),l[i]? = some f → UsF U f (g.at_ i)
def qiX:Nat → List Fld → Tree → Prop
 | 0=>UsP fun _ _=>False
 | d + 1=>UsP (qiX d)
structure ToQ (T:List Fld → Tree → Tree → Prop) (v:Int) (f:Fld) (k x3:Int) (sub:List Fld) (t:Tree) (tn:Int) (ts:Bs) (n:Int) (s:Bs) (b:Bool) (g:Tree):Prop where
 null:k = 8 ∨ k = 10 ∨ (x3 ≥ 0 ∧ v ≥ x3) → b = f.nul v t
 text:f.nul v t = false → k = 8 ∨ k = 9 → s = qaC ts
 uuid:f.nul v t = false → k = 7 → s = qbf ts
 part:f.nul v t = false → k = 10 → T sub t g
 num:f.nul v t = false → k ≠ 7 → k ≠ 8 → k ≠ 9 → k ≠ 10 → k ≠ 11 → n = qbr k tn
def ToF0 (T:List Fld → Tree → Tree → Prop) (v:Int):Fld → Tree → Tree → Prop
 | .mk k x1 x2 x3 x4 x5 x6 sub,.mk tn ts tb tl tu,.mk n s b l u=>ToQ T v (.mk k x1 x2 x3 x4 x5 x6 sub) k x3 sub (.mk tn ts tb tl tu) tn ts n s b (.mk n s b l u)
def ToF (T:List Fld → Tree → Tree → Prop) (v:Int) (f:Fld) (t g:Tree):Prop :=
 ToF0 T v f t g ∧ (f.kind = 11 → f.nul v t = false → g.L.length = (qam t.L).length ∧ ∀ (i:Nat) (x y:Tree),(qam t.L)[i]? = some x → g.L[i]? = some y → ToF0 T v f.elem x y)
def Fld.pres (f:Fld) (v:Int) (flex:Bool) (x:Tree):Bool:=(decide (f.tag < 0) && f.has v) || (decide (f.tag ≥ 0) && (flex && !f.usual x))
def ToP (T:List Fld → Tree → Tree → Prop) (U:List Fld → Tree → Prop) (l:List Fld) (v:Int) (flex:Bool) (t g:Tree):Prop :=
 g.L.length = l.length ∧ (∀ (i:Nat) (f:Fld) (y:Tree),l[i]? = some f → g.L[i]? = some y → (f.pres v flex (t.at_ i) = true → ToF T v f (t.at_ i) y) ∧ (f.pres v flex (t.at_ i) = false → UsF U f y)) ∧
  g.U = (if flex = true then qcl (qai l t.U) else [])
def qiY (v:Int) (flex:Bool):Nat → List Fld → Tree → Tree → Prop
 | 0=>fun l t g=>ToP (fun _ _ _=>False) (fun _ _=>False) l v flex t g
 | d + 1=>fun l t g=>ToP (qiY v flex d) (qiX d) l v flex t g
theorem qjY {U:List Fld → Tree → Prop} {f:Fld} {y:Tree} (h:UsF U f y):UsP U [f] (.mk 0 [] false [y] []):=by
 refine ⟨rfl,fun i g hg=>?_⟩
 cases i with
 | zero =>
  simp only [List.getElem?_cons_zero,Option.some.injEq] at hg
  subst hg
  exact h
 | succ i=>simp at hg
theorem qiZ {w:World} {e:Nat} {A:Option Addr} {c:Nat} {F:Nat → Nat → Prop} (h:w.ownsRow 0 e 1 (.slice A 16 c) 16 (List.replicate 16 (.int .u8 0))) (hF:∀ g,A.map (·.block) = some g → ∀ o,F g o):Octs w F A c (List.replicate 16 0) :=
 qce (s:=List.replicate 16 0) h (by decide) hF
section
variable {U:List Fld → Tree → Prop} {k x1 x2 x3 x4 x5 x6 n:Int} {sub:List Fld} {s:Bs} {b:Bool} {l:List Tree} {u:List (Int × Bs)}
abbrev UsH (U:List Fld → Tree → Prop) (k x1 x2 x3 x4 x5 x6:Int) (sub:List Fld) (n:Int) (s:Bs) (b:Bool) (l:List Tree) (u:List (Int × Bs)):Prop:=UsF U (.mk k x1 x2 x3 x4 x5 x6 sub) (.mk n s b l u)
theorem us_q (h:UsH U k x1 x2 x3 x4 x5 x6 sub n s b l u):UsQ U k x1 x2 x3 x4 x5 x6 sub n s b l u:=h
theorem qfB (h:UsH U k x1 x2 x3 x4 x5 x6 sub n s b l u) (hk:k = 8) (hc:(b != decide (x3 ≥ 0)) = true):False:=by
 have:=((us_q h).text hk).1
 rw [this] at hc; simp at hc
theorem qfC (h:UsH U k x1 x2 x3 x4 x5 x6 sub n s b l u) (hk:k = 8) (hc:((s.length:Nat):Int) > 0):False:=by
 have:=((us_q h).text hk).2
 rw [this] at hc; simp at hc
theorem us_7 (h:UsH U k x1 x2 x3 x4 x5 x6 sub n s b l u) (hk:k = 7) (hc:(!decide (s = (List.replicate 16 0:Bs))) = true):False:=by
 have:=(us_q h).uuid hk
 rw [this] at hc; simp at hc
theorem qfD (h:UsH U k x1 x2 x3 x4 x5 x6 sub n s b l u) (hk:k = 9) (hc:((s.length:Nat):Int) > 0):False:=by
 have:=((us_q h).octs (.inl hk)).1
 rw [this] at hc; simp at hc
theorem qfE (h:UsH U k x1 x2 x3 x4 x5 x6 sub n s b l u) (hk:k = 9) (hc:((l.length:Nat):Int) > 0):False:=by
 have:=((us_q h).octs (.inl hk)).2
 rw [this] at hc; simp at hc
theorem qd1 (h:UsH U k x1 x2 x3 x4 x5 x6 sub n s b l u) (hk:k = 11) (hc:((s.length:Nat):Int) > 0):False:=by
 have:=((us_q h).octs (.inr hk)).1
 rw [this] at hc; simp at hc
theorem qd2 (h:UsH U k x1 x2 x3 x4 x5 x6 sub n s b l u) (hk:k = 11) (hc:((l.length:Nat):Int) > 0):False:=by
 have:=((us_q h).octs (.inr hk)).2
 rw [this] at hc; simp at hc
theorem qfF (h:UsH U k x1 x2 x3 x4 x5 x6 sub n s b l u) (hk:k = 10) (h3:x3 ≥ 0) (hc:(!b) = true):False:=by
 have:=((us_q h).part hk).1 h3
 rw [this] at hc; simp at hc
theorem qjZ (h:UsH U k x1 x2 x3 x4 x5 x6 sub n s b l u) (hk:k = 10) (h3:x3 < 0):U sub (.mk n s b l u):=((us_q h).part hk).2 h3
theorem us_n (h:UsH U k x1 x2 x3 x4 x5 x6 sub n s b l u) (h7:k ≠ 7) (h8:k ≠ 8) (h9:k ≠ 9) (h10:k ≠ 10) (h11:k ≠ 11) (hc:n ≠ qbr k x5):False:=hc ((us_q h).num h7 h8 h9 h10 h11)
theorem us_u {g:Tree} (h:g.U = []) {u:List (Int × Bs)} (e:g.U = u) (hc:((u.length:Nat):Int) > 0):False:=by
 rw [← e,h] at hc; simp at hc
end
section
variable {T:List Fld → Tree → Tree → Prop} {v k x1 x2 x3 x4 x5 x6 tn n:Int} {sub:List Fld} {ts s:Bs} {tb b:Bool} {tl l:List Tree} {tu u:List (Int × Bs)}
abbrev ToH (T:List Fld → Tree → Tree → Prop) (v k x1 x2 x3 x4 x5 x6:Int) (sub:List Fld) (tn:Int) (ts:Bs) (tb:Bool) (tl:List Tree) (tu:List (Int × Bs)) (n:Int) (s:Bs) (b:Bool) (l:List Tree) (u:List (Int × Bs)):Prop:=ToF0 T v (.mk k x1 x2 x3 x4 x5 x6 sub) (.mk tn ts tb tl tu) (.mk n s b l u)
abbrev NulH (v k x1 x2 x3 x4 x5 x6:Int) (sub:List Fld) (tn:Int) (ts:Bs) (tb:Bool) (tl:List Tree) (tu:List (Int × Bs)):Bool:=Fld.nul (.mk k x1 x2 x3 x4 x5 x6 sub) v (.mk tn ts tb tl tu)
theorem to_q (h:ToH T v k x1 x2 x3 x4 x5 x6 sub tn ts tb tl tu n s b l u):ToQ T v (.mk k x1 x2 x3 x4 x5 x6 sub) k x3 sub (.mk tn ts tb tl tu) tn ts n s b (.mk n s b l u):=h
theorem qi0 (h:ToH T v k x1 x2 x3 x4 x5 x6 sub tn ts tb tl tu n s b l u) (hk:k = 8) (hc:(b != NulH v k x1 x2 x3 x4 x5 x6 sub tn ts tb tl tu) = true):False:=by
 rw [(to_q h).null (.inl hk)] at hc; simp at hc
theorem qgi (h:ToH T v k x1 x2 x3 x4 x5 x6 sub tn ts tb tl tu n s b l u) (hk:k = 10) (hc:(b != NulH v k x1 x2 x3 x4 x5 x6 sub tn ts tb tl tu) = true):False:=by
 rw [(to_q h).null (.inr (.inl hk))] at hc; simp at hc
theorem qfG (h:ToH T v k x1 x2 x3 x4 x5 x6 sub tn ts tb tl tu n s b l u) (h1:x3 ≥ 0) (h2:v ≥ x3) (hc:(b != NulH v k x1 x2 x3 x4 x5 x6 sub tn ts tb tl tu) = true):False:=by
 rw [(to_q h).null (.inr (.inr ⟨h1,h2⟩))] at hc; simp at hc
theorem qi1 (h:ToH T v k x1 x2 x3 x4 x5 x6 sub tn ts tb tl tu n s b l u) (hn:NulH v k x1 x2 x3 x4 x5 x6 sub tn ts tb tl tu = false) (hk:k = 10):T sub (.mk tn ts tb tl tu) (.mk n s b l u):=(to_q h).part hn hk
theorem qdL (h:ToH T v k x1 x2 x3 x4 x5 x6 sub tn ts tb tl tu n s b l u) (hn:NulH v k x1 x2 x3 x4 x5 x6 sub tn ts tb tl tu = false) (hk:k = 8):decide (s = qaC ts) = true:=decide_eq_true ((to_q h).text hn (.inl hk))
theorem qdM (h:ToH T v k x1 x2 x3 x4 x5 x6 sub tn ts tb tl tu n s b l u) (hn:NulH v k x1 x2 x3 x4 x5 x6 sub tn ts tb tl tu = false) (hk:k = 9):decide (s = qaC ts) = true:=decide_eq_true ((to_q h).text hn (.inr hk))
theorem to_u (h:ToH T v k x1 x2 x3 x4 x5 x6 sub tn ts tb tl tu n s b l u) (hn:NulH v k x1 x2 x3 x4 x5 x6 sub tn ts tb tl tu = false) (hk:k = 7):decide (s = qbf ts) = true:=decide_eq_true ((to_q h).uuid hn hk)
theorem to_m (h:ToH T v k x1 x2 x3 x4 x5 x6 sub tn ts tb tl tu n s b l u) (hn:NulH v k x1 x2 x3 x4 x5 x6 sub tn ts tb tl tu = false) (h8:k ≠ 8) (h9:k ≠ 9) (h7:k ≠ 7) (h10:k ≠ 10) (h11:k ≠ 11):(n == qbr k tn) = true:=by
 rw [(to_q h).num hn h7 h8 h9 h10 h11]; simp
theorem qg5 {a c:Nat} (h:a = c) (hc:((a:Nat):Int) ≠ ((c:Nat):Int)):False:=hc (by rw [h])
end
theorem qfH {P:Program} {ops:Array Oper} {Q:Exit → Act → World → Prop} {a:Act} {w:World} {T:World → Prop} {c i j fuel:Nat} {listed:Array Bool} (hr:Region.ready .any ops listed = [i,j]) (h:wpOp P ops Q i (fun a' w'=>(i ≠ c → T w') ∧ qbw P ops Q T c fuel (listed.setIfInBounds i true) a' w') a w)
  (h':wpOp P ops Q j (fun a' w'=>(j ≠ c → T w') ∧ qbw P ops Q T c fuel (listed.setIfInBounds j true) a' w') a w):qbw P ops Q T c (fuel + 1) listed a w:=by
 refine ⟨fun h0=>(by rw [hr] at h0; cases h0),fun q hq=>?_⟩
 rw [hr] at hq
 simp only [List.mem_cons,List.not_mem_nil,or_false] at hq
 rcases hq with rfl | rfl
 ·exact h
 exact h'
theorem qlk {k x1 x2 x3 x4 x5 x6 v:Int} {sub:List Fld} {flex:Bool} {x:Tree} (h:x4 < 0) (h2:Fld.has (.mk k x1 x2 x3 x4 x5 x6 sub) v = true):Fld.pres (.mk k x1 x2 x3 x4 x5 x6 sub) v flex x = true:=by
 simp [Fld.pres,Fld.tag,h,h2]
theorem qll {k x1 x2 x3 x4 x5 x6 v:Int} {sub:List Fld} {flex:Bool} {x:Tree} (h:x4 ≥ 0) (h2:flex = true) (h3:(!Fld.usual (.mk k x1 x2 x3 x4 x5 x6 sub) x) = true):Fld.pres (.mk k x1 x2 x3 x4 x5 x6 sub) v flex x = true:=by
 subst h2
 simp only [Bool.not_eq_true'] at h3
 simp [Fld.pres,Fld.tag,h,h3]
theorem qg6 {k x1 x2 x3 x4 x5 x6 v:Int} {sub:List Fld} {flex:Bool} {x:Tree} (h:x4 < 0) (h2:Fld.has (.mk k x1 x2 x3 x4 x5 x6 sub) v = false):Fld.pres (.mk k x1 x2 x3 x4 x5 x6 sub) v flex x = false:=by
 have:¬ x4 ≥ 0:=by omega
 simp [Fld.pres,Fld.tag,h2,this]
theorem qg7 {k x1 x2 x3 x4 x5 x6 v:Int} {sub:List Fld} {flex:Bool} {x:Tree} (h:¬ x4 < 0) (h2:flex = false):Fld.pres (.mk k x1 x2 x3 x4 x5 x6 sub) v flex x = false:=by
 subst h2
 simp [Fld.pres,Fld.tag,h]
theorem qg8 {k x1 x2 x3 x4 x5 x6 v:Int} {sub:List Fld} {flex:Bool} {x:Tree} (h:¬ x4 < 0) (h3:(!Fld.usual (.mk k x1 x2 x3 x4 x5 x6 sub) x) = false):Fld.pres (.mk k x1 x2 x3 x4 x5 x6 sub) v flex x = false:=by
 simp only [Bool.not_eq_false'] at h3
 simp [Fld.pres,Fld.tag,h,h3]
theorem qj0 {k x1 x2 x3 x4 x5 x6 v:Int} {sub:List Fld} {flex:Bool} {x:Tree} (h:¬ x4 < 0) (h2:flex = true):Fld.pres (.mk k x1 x2 x3 x4 x5 x6 sub) v flex x = !Fld.usual (.mk k x1 x2 x3 x4 x5 x6 sub) x:=by
 subst h2
 have:x4 ≥ 0:=by omega
 simp [Fld.pres,Fld.tag,h,this]
theorem qj1 {k x1 x2 x3 x4 x5 x6 v:Int} {sub:List Fld} {flex:Bool} {x:Tree} (h:x4 < 0):Fld.pres (.mk k x1 x2 x3 x4 x5 x6 sub) v flex x = Fld.has (.mk k x1 x2 x3 x4 x5 x6 sub) v:=by
 have:¬ x4 ≥ 0:=by omega
 simp [Fld.pres,Fld.tag,h,this]
section
variable {w:World} {F:Nat → Nat → Prop}
theorem qj2 {e size b c:Nat} {xs:List Value} {n:Nat} (h:w.ownsRow 0 e size (.slice (some ⟨b,0,none⟩) n c) n xs):AtF w (fun _ _=>True) b 0 xs:=fun j v hj=>⟨trivial,by
 have:=h.cells (g:=b) rfl j v hj
 rw [qbv] at this
 exact this⟩
theorem qg9 {e b c:Nat} {cf:List Value} {f:Fld} (h:w.ownsRow 0 e 8 (.slice (some ⟨b,0,none⟩) 1 c) 1 cf) (hf:FldR w F cf f) (hc:1 ≤ c):FldsR w (fun _ _=>True) (some ⟨b,0,none⟩) c [f]:=by
 refine ⟨fun _=>cf,⟨hc,(by show 1 ≤ 1099511627776; decide),fun h=>(by cases h),fun ad hA _=>?_⟩,fun i x hx=>?_⟩
 ·obtain rfl:=Option.some.inj hA
  refine ⟨b,0,rfl,fun i hi=>⟨hf.eight,?_⟩⟩
  have:i = 0:=by simp at hi; omega
  subst this
  simpa using qj2 h
 cases i with
 | zero =>
  simp only [List.getElem?_cons_zero,Option.some.injEq] at hx
  subst hx
  exact hf.move (Step.refl _ Nil) nilM fun _ _ _ _=>trivial
 | succ i=>simp at hx
theorem qha {e b c:Nat} {cy:List Value} {y:Tree} (h:w.ownsRow 0 e 5 (.slice (some ⟨b,0,none⟩) 1 c) 1 cy) (hy:TreeR w F cy y) (hc:1 ≤ c):TreeR w (fun _ _=>True) [.int .i64 0,.slice none 0 0,.bool false,.slice (some ⟨b,0,none⟩) 1 c,.slice none 0 0] (.mk 0 [] false [y] []):=by
 refine TreeR.mk (l:=[y]) (s:=[]) (u:=[]) (fun _=>cy) (Octs.nil _ _) ⟨hc,(by show 1 ≤ 1099511627776; decide),fun h=>(by cases h),fun ad hA _=>?_⟩ (fun i x hx=>?_) (TagsR.nil _ _)
 ·obtain rfl:=Option.some.inj hA
  refine ⟨b,0,rfl,fun i hi=>⟨hy.five,?_⟩⟩
  have:i = 0:=by simp at hi; omega
  subst this
  simpa using qj2 h
 cases i with
 | zero =>
  simp only [List.getElem?_cons_zero,Option.some.injEq] at hx
  subst hx
  exact hy.move (Step.refl _ Nil) nilM fun _ _ _ _=>trivial
 | succ i=>simp at hx
end
section
variable {gu tu:List (Int × Bs)} {l:List Fld} {flex:Bool} {i:Nat} {k k':Int} {s s':Bs}
theorem qd3 (h:gu = if flex = true then qcl (qai l tu) else []) (hf:(!flex) = false) (hc:((gu.length:Nat):Int) ≠ (((qai l tu).length:Nat):Int)):False:=by
 cases flex
 ·cases hf
 rw [if_pos rfl] at h
 rw [h,qcR] at hc
 exact hc rfl
theorem qde (h:gu = if flex = true then qcl (qai l tu) else []) (hf:(!flex) = true) (hc:((gu.length:Nat):Int) ≠ 0):False:=by
 cases flex
 ·rw [if_neg (by decide)] at h
  rw [h] at hc
  exact hc rfl
 cases hf
theorem qi2 (h:gu = if flex = true then qcl (qai l tu) else []) (hf:(!flex) = false) (hu:(qai l tu)[i]? = some (k,s)) (hg:gu[i]? = some (k',s')):k' = k ∧ s' = qaC s:=by
 cases flex
 ·cases hf
 rw [if_pos rfl] at h
 rw [h,qhw hu] at hg
 have:=Option.some.inj hg
 exact ⟨(Prod.mk.injEq .. ▸ this).1.symm,(Prod.mk.injEq .. ▸ this).2.symm⟩
theorem qd4 (h:gu = if flex = true then qcl (qai l tu) else []) (hf:(!flex) = false) (hu:(qai l tu)[i]? = some (k,s)) (hg:gu[i]? = some (k',s')) (hc:k' ≠ k):False:=hc (qi2 h hf hu hg).1
theorem qd5 (h:gu = if flex = true then qcl (qai l tu) else []) (hf:(!flex) = false) (hu:(qai l tu)[i]? = some (k,s)) (hg:gu[i]? = some (k',s')) (hc:(!decide (s' = qaC s)) = true):False:=by
 rw [(qi2 h hf hu hg).2] at hc; simp at hc
theorem qck (h:gu = if flex = true then qcl (qai l tu) else []) (hf:(!flex) = false):gu.length = (qai l tu).length:=by
 cases flex
 ·cases hf
 rw [if_pos rfl] at h
 rw [h,qcR]
end
def qaE (D:DV):Tree:=.mk 0 [] false [.mk 0 (sb (D.f 0).s) false [] []] D.u
def qaQ (D:DV):Tree:=.mk 0 [] false [.mk 0 [] (D.f 0).A.isNone ((List.range (D.f 0).l).map fun i=>qaE ((D.f 0).f i)) []] D.u
set_option maxHeartbeats 4000000 in
theorem qa9 (v:Int) (D:DV) (b o:Nat) (w:World) (F:Nat → Nat → Prop) (hat:AtF w F b o [.string ((D.f 0).s),.map D.m]) (hok:qaD w F D):Calls Tryz.prog 88 #[.pointer (some ⟨b,o,none⟩)] w (qe1 w F (qaE D)):=by
 refine enter (n:=24) Tryz.func88 rfl Tryz.ntmps88 kz fun a hE=>?_
 have hW:WOk w Nil w [⟨b,o,[.string ((D.f 0).s),.map D.m],false⟩] []:=(WOk.start w Nil).start1 hat rfl rfl
 unfold qaD at hok
 obtain ⟨g1,g2,g2l,g2x,_⟩:=hok
 have hE0:=(EnvOk.ptr0 (cs:=[.string ((D.f 0).s),.map D.m]) (r:=false) hE).pk (env':=[(0,.p 0 0)])
 refine qad [0] kz ?_
 refine qal (qaU hW hE0 (d:=2) (cs:=[.int .i64 0,.slice none 0 0,.bool false,.slice none 0 0,.slice none 0 0]) kz fun b3 a4 w5 hb6 hz7 hF8 hW9 az=>?_)
 refine qae (qab ?_)
 refine qad [0,1,2,3] kz ?_
 refine qal (qfb (t:=34) (e:=37) (size:=5) (bytes:=88) (d:=4) (j:=1) (.agg #[.int .i64 0,.slice none 0 0,.bool false,.slice none 0 0,.slice none 0 0]) [.int .i64 0,.slice none 0 0,.bool false,.slice none 0 0,.slice none 0 0] hW9 az fun aa bu bw bh bi bj am aA=>?_)
 refine qaj [1] [2,3] [(0,.p 0 0),(2,.p 1 0),(5,.v (.agg #[.int .i64 0,.slice none 0 0,.bool false,.slice (some ⟨aa,0,none⟩) 1 1,.slice none 0 0]))] am aA fun bx aB=>?_
 refine qal (qaU am aB (d:=3) (cs:=[.int .i64 0,.slice none 0 0,.bool false,.slice none 0 0,.slice none 0 0]) kz fun ah bz bA bk bn bo aC aD=>?_)
 refine qal (qaA aC aD (oi:=3) (cs:=[.int .i64 0,.slice none 0 0,.bool false,.slice (some ⟨aa,0,none⟩) 1 1,.slice none 0 0]) kz fun bB bp aE aF=>?_)
 refine qae (qab ?_)
 refine qaL 9 kz aE fun bC bq aG aH=>?_
 refine qaI [0,1,2,3,4,5] [(0,.p 0 0),(2,.p 1 0),(3,.p 3 0),(7,.v (.slice (some ⟨aa,0,none⟩) 1 1)),(11,.v (.string ((D.f 0).s)))] 4 (qaa qaf) (fun _ h=>h.cells) aH aF fun bD aI=>?_
 refine qay (i:=6) kz (qhI (d:=12) (src:=9) (dst:=22) (e:=5) (s:=((D.f 0).s)) aG aI (by omega) fun af ag bE bF aJ ao aK aL=>?_)
 have aM:=aK F
 have ak:=TT.ofW aJ ao
 refine ⟨fun _=>ak,?_⟩
 refine qaI [7] [(0,.p 0 0),(2,.p 1 0),(3,.p 3 0),(7,.v (.slice (some ⟨aa,0,none⟩) 1 1)),(13,.v (.agg #[.int .i64 0,.slice (some ⟨af,0,none⟩) ((sb ((D.f 0).s)).length) ag,.bool false,.slice none 0 0,.slice none 0 0]))] 2 (qaa qaf) (fun _ h=>h.cells) ak aL fun bG aN=>?_
 refine qaX aN (i:=8) (t:=34) (A:=(some ⟨aa,0,none⟩)) (m:=1) (q:=0) (d:=14) kz (e:=37) (size:=5) (bytes:=88) (j:=0) kz (b:=aa) (o:=0) rfl rfl (by decide) kz kz (qaa qaf) ak fun bH aO=>?_
 have aP:=aO.recast 14 (.v (.pointer (some ⟨aa,0 + 0 * 5,none⟩))) (.p 2 0) rfl rfl (Nat.le_of_ble_eq_true (n:=3) rfl)
 have aQ:=aP.pk (env':=[(0,.p 0 0),(2,.p 1 0),(3,.p 3 0),(7,.v (.slice (some ⟨aa,0,none⟩) 1 1)),(13,.v (.agg #[.int .i64 0,.slice (some ⟨af,0,none⟩) ((sb ((D.f 0).s)).length) ag,.bool false,.slice none 0 0,.slice none 0 0])),(14,.p 2 0)])
 refine qay (i:=9) kz (qaA ao aQ (oi:=2) (cs:=[.int .i64 0,.slice (some ⟨af,0,none⟩) ((sb ((D.f 0).s)).length) ag,.bool false,.slice none 0 0,.slice none 0 0]) kz fun bt ap ab aR=>?_)
 refine ⟨fun h=>absurd rfl h,?_⟩
 refine qaG kz ?_ _
 refine qab ?_
 refine qad [0,1,2,3,4] kz ?_
 refine qaj [0,1,2] [3,4] [(2,.p 1 0),(3,.p 3 0),(17,.p 0 1)] ab aR fun bI aS=>?_
 refine qal (qfm aS (v:=.func (.func 125) #[] #[.pointer (some ⟨ah,0,none⟩)]) (d:=18) kz fun bJ aT=>?_)
 refine qal (qak aT (f:=64) (vs:=[.pointer (some ⟨b,o + 1,none⟩),.func (.func 125) #[] #[.pointer (some ⟨ah,0,none⟩)]]) (d:=19) kz Tryz.call64 (qgh (F:=(Imm F w bt [⟨b,o,[.string ((D.f 0).s),.map D.m],false⟩,⟨b3,0,[.int .i64 0,.slice none 0 0,.bool false,.slice none 0 0,.slice none 0 0],true⟩,⟨aa,0,[.int .i64 0,.slice (some ⟨af,0,none⟩) ((sb ((D.f 0).s)).length) ag,.bool false,.slice none 0 0,.slice none 0 0],true⟩,⟨ah,0,[.int .i64 0,.slice none 0 0,.bool false,.slice (some ⟨aa,0,none⟩) 1 1,.slice none 0 0],true⟩] [])) Tryz.call125 qbI ((hat.one 1 rfl).move ab.step nilM ab.imm) (g2.move ab.step nilM ab.imm) (Str.of ab 3 rfl) (qku 3 rfl) g2l) ?_)
 rintro e_ bK ⟨rfl,ac,ae,ar,aU,aV⟩
 obtain ⟨al,au,aW⟩:=ab.wrote 3 [⟨b,o,[.string ((D.f 0).s),.map D.m],false⟩,⟨b3,0,[.int .i64 0,.slice none 0 0,.bool false,.slice none 0 0,.slice none 0 0],true⟩,⟨aa,0,[.int .i64 0,.slice (some ⟨af,0,none⟩) ((sb ((D.f 0).s)).length) ag,.bool false,.slice none 0 0,.slice none 0 0],true⟩,⟨ah,0,[.int .i64 0,.slice none 0 0,.bool false,.slice (some ⟨aa,0,none⟩) 1 1,.slice ac D.u.length ae],true⟩] rfl aV ar
 have av:=aU.move (Step.refl _ Nil) nilM (fun b_ o_ h_ hb_=>aW (G:=F) b_ o_ (.inr h_) hb_)
 refine ⟨_,rfl,fun bL aX=>?_⟩
 have aY:=(EnvOk.places (tb':=[⟨b,o,[.string ((D.f 0).s),.map D.m],false⟩,⟨b3,0,[.int .i64 0,.slice none 0 0,.bool false,.slice none 0 0,.slice none 0 0],true⟩,⟨aa,0,[.int .i64 0,.slice (some ⟨af,0,none⟩) ((sb ((D.f 0).s)).length) ag,.bool false,.slice none 0 0,.slice none 0 0],true⟩,⟨ah,0,[.int .i64 0,.slice none 0 0,.bool false,.slice (some ⟨aa,0,none⟩) 1 1,.slice ac D.u.length ae],true⟩]) aX (show Pl [⟨b,o,[.string ((D.f 0).s),.map D.m],false⟩,⟨b3,0,[.int .i64 0,.slice none 0 0,.bool false,.slice none 0 0,.slice none 0 0],true⟩,⟨aa,0,[.int .i64 0,.slice (some ⟨af,0,none⟩) ((sb ((D.f 0).s)).length) ag,.bool false,.slice none 0 0,.slice none 0 0],true⟩,⟨ah,0,[.int .i64 0,.slice none 0 0,.bool false,.slice (some ⟨aa,0,none⟩) 1 1,.slice none 0 0],true⟩] [⟨b,o,[.string ((D.f 0).s),.map D.m],false⟩,⟨b3,0,[.int .i64 0,.slice none 0 0,.bool false,.slice none 0 0,.slice none 0 0],true⟩,⟨aa,0,[.int .i64 0,.slice (some ⟨af,0,none⟩) ((sb ((D.f 0).s)).length) ag,.bool false,.slice none 0 0,.slice none 0 0],true⟩,⟨ah,0,[.int .i64 0,.slice none 0 0,.bool false,.slice (some ⟨aa,0,none⟩) 1 1,.slice ac D.u.length ae],true⟩] from ⟨rfl,rfl,⟨rfl,rfl,⟨rfl,rfl,⟨rfl,rfl,trivial⟩⟩⟩⟩)).pk (env':=[(19,.v (.tuple #[])),(2,.p 1 0),(3,.p 3 0),(17,.p 0 1),(18,.v (.func (.func 125) #[] #[.pointer (some ⟨ah,0,none⟩)]))])
 refine qae (qab ?_)
 refine qad [0,1,2] kz ?_
 refine qaj [0,1] [2] [(2,.p 1 0),(3,.p 3 0),(21,.v (.slice ac D.u.length ae))] al aY fun bM aZ=>?_
 refine qal (qak aZ (f:=66) (vs:=[.slice ac D.u.length ae]) (d:=22) kz Tryz.call66 (qiW av g2.sorted) ?_)
 rintro e_ bN ⟨rfl,aw⟩
 refine ⟨_,rfl,fun bO ba=>?_⟩
 have ax:=al.next_nil aw
 have ai:=al.frN aw
 refine qae (qab ?_)
 refine qad [0,1] kz ?_
 refine qaj [0] [1] [(2,.p 1 0),(23,.v (.agg #[.int .i64 0,.slice none 0 0,.bool false,.slice (some ⟨aa,0,none⟩) 1 1,.slice ac D.u.length ae]))] ax ba fun bP bd=>?_
 refine qal (qaA ax bd (oi:=1) (cs:=[.int .i64 0,.slice none 0 0,.bool false,.slice (some ⟨aa,0,none⟩) 1 1,.slice ac D.u.length ae]) kz fun bg aj ay bf=>?_)
 refine qae (qab ?_)
 refine wp_ret ?_
 refine qaH bf ay.cells (v:=.agg #[.int .i64 0,.slice none 0 0,.bool false,.slice (some ⟨aa,0,none⟩) 1 1,.slice ac D.u.length ae]) kz ?_
 exact qg4 (u:=D.u) (l:=[.mk 0 (sb (D.f 0).s) false [] []]) (css:=[[.int .i64 0,.slice (some ⟨af,0,none⟩) ((sb ((D.f 0).s)).length) ag,.bool false,.slice none 0 0,.slice none 0 0]]) ay 2 rfl ⟨(show TreeR _ (Imm F w bg [⟨b,o,[.string ((D.f 0).s),.map D.m],false⟩,⟨b3,0,[.int .i64 0,.slice none 0 0,.bool false,.slice (some ⟨aa,0,none⟩) 1 1,.slice ac D.u.length ae],true⟩,⟨aa,0,[.int .i64 0,.slice (some ⟨af,0,none⟩) ((sb ((D.f 0).s)).length) ag,.bool false,.slice none 0 0,.slice none 0 0],true⟩,⟨ah,0,[.int .i64 0,.slice none 0 0,.bool false,.slice (some ⟨aa,0,none⟩) 1 1,.slice ac D.u.length ae],true⟩] []) _ _ from (TreeR.mk (n:=0) (b:=false) (s:=(sb ((D.f 0).s))) (l:=[]) (u:=[]) (fun _=>[]) (aM.move (((ap.trans au).trans ai).trans aj).step immM (((ap.trans au).trans ai).trans aj).to') (Slots.nil _ _ _ _) (fun i_ x_ h_=>by simp at h_) (TagsR.nil _ _))).move (Step.refl _ Nil) nilM qcN,trivial⟩ ((show TagsR _ (Imm F w bg [⟨b,o,[.string ((D.f 0).s),.map D.m],false⟩,⟨b3,0,[.int .i64 0,.slice none 0 0,.bool false,.slice (some ⟨aa,0,none⟩) 1 1,.slice ac D.u.length ae],true⟩,⟨aa,0,[.int .i64 0,.slice (some ⟨af,0,none⟩) ((sb ((D.f 0).s)).length) ag,.bool false,.slice none 0 0,.slice none 0 0],true⟩,⟨ah,0,[.int .i64 0,.slice none 0 0,.bool false,.slice (some ⟨aa,0,none⟩) 1 1,.slice ac D.u.length ae],true⟩] []) _ _ _ from (av.move (ai.trans aj).step immM (ai.trans aj).to')).move (Step.refl _ Nil) nilM qcN)
set_option maxHeartbeats 4000000 in
theorem qb4 (v:Int) (D:DV) (b o:Nat) (w:World) (F:Nat → Nat → Prop) (hat:AtF w F b o [.int .i16 v,.slice ((D.f 0).A) ((D.f 0).l) ((D.f 0).c),.map D.m]) (hok:qaV w F D):Calls Tryz.prog 58 #[.pointer (some ⟨b,o,none⟩)] w (qe1 w F (qaQ D)):=by
 refine enter (n:=72) Tryz.func58 rfl Tryz.ntmps58 kz fun a hE=>?_
 have hW:WOk w Nil w [⟨b,o,[.int .i16 v,.slice ((D.f 0).A) ((D.f 0).l) ((D.f 0).c),.map D.m],false⟩] []:=(WOk.start w Nil).start1 hat rfl rfl
 unfold qaV at hok
 obtain ⟨⟨g1,g1l,g1e⟩,g2,g2l,g2x,_⟩:=hok
 have hE0:=(EnvOk.ptr0 (cs:=[.int .i16 v,.slice ((D.f 0).A) ((D.f 0).l) ((D.f 0).c),.map D.m]) (r:=false) hE).pk (env':=[(0,.p 0 0)])
 refine qad [0] kz ?_
 refine qal (qaU hW hE0 (d:=2) (cs:=[.int .i64 0,.slice none 0 0,.bool false,.slice none 0 0,.slice none 0 0]) kz fun b3 a4 w5 hb6 hz7 hF8 hW9 fr=>?_)
 refine qae (qab ?_)
 refine qad [0,1,2,3] kz ?_
 refine qal (qfb (t:=34) (e:=37) (size:=5) (bytes:=88) (d:=5) (j:=1) (.agg #[.int .i64 0,.slice none 0 0,.bool false,.slice none 0 0,.slice none 0 0]) [.int .i64 0,.slice none 0 0,.bool false,.slice none 0 0,.slice none 0 0] hW9 fr fun aa iU iV gz gA gB dp ft=>?_)
 refine qaj [1] [2,3] [(0,.p 0 0),(2,.p 1 0),(6,.v (.agg #[.int .i64 0,.slice none 0 0,.bool false,.slice (some ⟨aa,0,none⟩) 1 1,.slice none 0 0]))] dp ft fun iW fu=>?_
 refine qal (qaU dp fu (d:=3) (cs:=[.int .i64 0,.slice none 0 0,.bool false,.slice none 0 0,.slice none 0 0]) kz fun bu iX iY gC gD gE fv fw=>?_)
 refine qal (qaA fv fw (oi:=3) (cs:=[.int .i64 0,.slice none 0 0,.bool false,.slice (some ⟨aa,0,none⟩) 1 1,.slice none 0 0]) kz fun iZ gF fx fy=>?_)
 refine qae (qab ?_)
 refine qaL 9 kz fx fun i6 gG fz c6=>?_
 refine qaI [0,1,2,3,4,5,6] [(0,.p 0 0),(2,.p 1 0),(3,.p 3 0),(8,.v (.slice (some ⟨aa,0,none⟩) 1 1)),(13,.v (.bool (((D.f 0).A).isNone)))] 3 (qaa qaf) (fun _ h=>h.cells) c6 fy fun i7 fA=>?_
 refine qay (i:=7) kz (qaB fA (t:=34) (A:=(some ⟨aa,0,none⟩)) (m:=1) (q:=0) (d:=14) kz (e:=37) (size:=5) (bytes:=88) (j:=0) kz (b:=aa) (o:=0) rfl rfl (by decide) fun ja fB=>?_)
 have fC:=fB.recast 14 (.v (.pointer (some ⟨aa,0 + 0 * 5,none⟩))) (.p 2 0) rfl rfl (Nat.le_of_ble_eq_true (n:=3) rfl)
 have fD:=fC.pk (env':=[(0,.p 0 0),(2,.p 1 0),(3,.p 3 0),(8,.v (.slice (some ⟨aa,0,none⟩) 1 1)),(13,.v (.bool (((D.f 0).A).isNone))),(14,.p 2 0)])
 refine ⟨fun _=>c6,?_⟩
 refine qaI [8] [(0,.p 0 0),(2,.p 1 0),(3,.p 3 0),(13,.v (.bool (((D.f 0).A).isNone))),(15,.p 2 2)] 1 (qaa qaf) (fun _ h=>h.cells) c6 fD fun jb fE=>?_
 refine qay (i:=9) kz (qaA fz fE (oi:=2) (cs:=[.int .i64 0,.slice none 0 0,.bool (((D.f 0).A).isNone),.slice none 0 0,.slice none 0 0]) kz fun jc gH da fF=>?_)
 refine ⟨fun h=>absurd rfl h,?_⟩
 refine qaG kz ?_ _
 refine qab ?_
 refine wp_seq ?_
 refine qao [(0,.p 0 0),(2,.p 1 0),(3,.p 3 0),(20,.v (.int .i64 (((D.f 0).l:Nat):Int))),(21,.v (.int .i64 0))] da fF fun jd fG=>?_
 refine wp_block ?_
 have dq:=da.addNil 37 5
 have gI:=da.frNil 37 5
 refine wp_loop_ghost (fun n_ a_ w_=>∃ (k0_:Nat) (A0_:Option Addr) (c0_:Nat) (xs0_:List Value) (css0_:List (List Value)),n_ = (D.f 0).l - k0_ ∧ k0_ ≤ (D.f 0).l ∧ (Trees w_ (Imm F w w_ [⟨b,o,[.int .i16 v,.slice ((D.f 0).A) ((D.f 0).l) ((D.f 0).c),.map D.m],false⟩,⟨b3,0,[.int .i64 0,.slice none 0 0,.bool false,.slice none 0 0,.slice none 0 0],true⟩,⟨aa,0,[.int .i64 0,.slice none 0 0,.bool (((D.f 0).A).isNone),.slice A0_ k0_ c0_,.slice none 0 0],true⟩,⟨bu,0,[.int .i64 0,.slice none 0 0,.bool false,.slice (some ⟨aa,0,none⟩) 1 1,.slice none 0 0],true⟩] [⟨A0_,c0_,37,5,k0_,xs0_⟩]) xs0_ (((List.range (D.f 0).l).map (fun i=>qaE ((D.f 0).f i))).take k0_) css0_) ∧ LInv dq 72 [⟨b,o,[.int .i16 v,.slice ((D.f 0).A) ((D.f 0).l) ((D.f 0).c),.map D.m],false⟩,⟨b3,0,[.int .i64 0,.slice none 0 0,.bool false,.slice none 0 0,.slice none 0 0],true⟩,⟨aa,0,[.int .i64 0,.slice none 0 0,.bool (((D.f 0).A).isNone),.slice A0_ k0_ c0_,.slice none 0 0],true⟩,⟨bu,0,[.int .i64 0,.slice none 0 0,.bool false,.slice (some ⟨aa,0,none⟩) 1 1,.slice none 0 0],true⟩] [⟨A0_,c0_,37,5,k0_,xs0_⟩] [(0,.p 0 0),(2,.p 1 0),(3,.p 3 0),(20,.v (.int .i64 (((D.f 0).l:Nat):Int))),(21,.v (.int .i64 ((k0_:Nat):Int)))] a_ w_) ((D.f 0).l) ⟨0,none,0,[],[],by omega,by omega,Trees.nil _ _,fG.pk,dq,Fr.refl _ _ _⟩ ?_
 rintro je jf gJ ⟨k0_,A0_,c0_,xs0_,css0_,gK,gL,hT0_,fH,ax,db⟩
 refine qao [(0,.p 0 0),(2,.p 1 0),(3,.p 3 0),(20,.v (.int .i64 (((D.f 0).l:Nat):Int))),(21,.v (.int .i64 ((k0_:Nat):Int))),(22,.v (.bool (decide (((k0_:Nat):Int) < (((D.f 0).l:Nat):Int)))))] ax fH fun jg dc=>?_
 refine wp_seq ?_
 refine qau dc (b:=decide (((k0_:Nat):Int) < (((D.f 0).l:Nat):Int))) kz (fun de=>?_) (fun de=>?_)
 ·
  have gM:=of_decide_eq_true de
  refine wp_skip ?_
  refine qab ?_
  refine wp_seq ?_
  refine wp_block ?_
  refine qao [(0,.p 0 0),(2,.p 1 0),(3,.p 3 0),(4,.v (.int .i64 ((k0_:Nat):Int))),(20,.v (.int .i64 (((D.f 0).l:Nat):Int))),(21,.v (.int .i64 ((k0_:Nat):Int)))] ax dc fun jh fI=>?_
  refine qaL 4 kz ax fun ji aC fJ gN=>?_
  refine qay (i:=0) kz (qaU fJ fI (d:=24) (cs:=[.bool false]) kz fun jj jk jl gO gP ab df dr=>?_)
  have fK:=TT.ofW ab df
  refine ⟨fun _=>fK,?_⟩
  refine qfH (i:=1) (j:=2) kz ?_ ?_
  ·
   refine (qaA df dr (oi:=4) (cs:=[.bool true]) kz fun jm bE dt fL=>?_)
   have fM:=TT.ofW (ab.trans bE) dt
   refine ⟨fun _=>fM,?_⟩
   refine qay (i:=2) kz (qaA dt fL (oi:=4) (cs:=[.bool false]) kz fun jn bS cz fN=>?_)
   have fO:=TT.ofW ((ab.trans bE).trans bS) cz
   refine ⟨fun _=>fO,?_⟩
   refine qay (i:=3) kz (qbd [0,2,3,4,20,21,25] cz.cells fN (env':=[(0,.p 0 0),(2,.p 1 0),(3,.p 3 0),(4,.v (.int .i64 ((k0_:Nat):Int))),(20,.v (.int .i64 (((D.f 0).l:Nat):Int))),(21,.v (.int .i64 ((k0_:Nat):Int))),(25,.v (.bool false))]) kz fun jo du=>?_)
   have fP:=TT.ofW ((ab.trans bE).trans bS) cz
   refine ⟨fun _=>fP,?_⟩
   refine qaG kz ?_ _
   refine qab ?_
   refine qap du (b:=false) kz rfl ?_
   refine qcV 18 kz cz fun jp dg bt cA=>?_
   refine qaI [0,1,2,3,7,8,9,10,11] [(0,.p 0 0),(2,.p 1 0),(3,.p 3 0),(20,.v (.int .i64 (((D.f 0).l:Nat):Int))),(21,.v (.int .i64 ((k0_:Nat):Int))),(45,.v (.slice (some ⟨aa,0,none⟩) 1 1)),(47,.v (.slice (some ⟨aa,0,none⟩) 1 1)),(54,.v (.slice ((D.f 0).A) ((D.f 0).l) ((D.f 0).c))),(55,.v (.int .i64 ((k0_:Nat):Int)))] 10 (qac (qaa (qaa (qac (qaa qaf))))) (fun _ h=>h.cells) cA du fun jq fQ=>?_
   refine qaX fQ (i:=4) (t:=34) (A:=(some ⟨aa,0,none⟩)) (m:=1) (q:=0) (d:=48) kz (e:=37) (size:=5) (bytes:=88) (j:=0) kz (b:=aa) (o:=0) rfl rfl (by decide) kz kz (qac (qaa (qaa (qac (qaa qaf))))) cA fun gQ dv=>?_
   have dw:=dv.recast 48 (.v (.pointer (some ⟨aa,0 + 0 * 5,none⟩))) (.p 2 0) rfl rfl (Nat.le_of_ble_eq_true (n:=3) rfl)
   have dx:=dw.pk (env':=[(0,.p 0 0),(2,.p 1 0),(3,.p 3 0),(20,.v (.int .i64 (((D.f 0).l:Nat):Int))),(21,.v (.int .i64 ((k0_:Nat):Int))),(45,.v (.slice (some ⟨aa,0,none⟩) 1 1)),(47,.v (.slice (some ⟨aa,0,none⟩) 1 1)),(54,.v (.slice ((D.f 0).A) ((D.f 0).l) ((D.f 0).c))),(55,.v (.int .i64 ((k0_:Nat):Int))),(48,.p 2 0)])
   refine qaI [5,6] [(0,.p 0 0),(2,.p 1 0),(3,.p 3 0),(20,.v (.int .i64 (((D.f 0).l:Nat):Int))),(21,.v (.int .i64 ((k0_:Nat):Int))),(45,.v (.slice (some ⟨aa,0,none⟩) 1 1)),(50,.v (.slice A0_ k0_ c0_)),(54,.v (.slice ((D.f 0).A) ((D.f 0).l) ((D.f 0).c))),(55,.v (.int .i64 ((k0_:Nat):Int)))] 7 (qac (qaa (qaa (qac (qaa qaf))))) (fun _ h=>h.cells) cA dx fun gR dy=>?_
   obtain ⟨dz,dA,dB,gc,dh⟩:=Slots.get g1 (i:=k0_) (by omega)
   refine qaX dy (i:=12) (t:=123) (A:=(D.f 0).A) (m:=((D.f 0).l)) (q:=((k0_:Nat):Int)) (d:=56) kz (e:=129) (size:=2) (bytes:=24) kz dB rfl (by omega) kz kz (qac (qaa (qaa (qac (qaa qaf))))) cA fun gS dC=>?_
   refine qay (i:=13) kz (qak dC (f:=88) (vs:=[.pointer (some ⟨dz,dA + k0_ * 2,none⟩)]) (d:=57) kz Tryz.call88 (qa9 0 ((D.f 0).f k0_) _ _ _ _ (dh.move bt.step nilM bt.imm) (qaJ _ bt.step nilM bt.imm (g1e k0_ (by omega)))) ?_)
   rintro e_ gT ⟨gd,rfl,dD,bT⟩
   have bU:=dD.move (Step.refl _ Nil) nilM (bt.laid (G:=F) bT)
   obtain ⟨bF,bG,bH,bI,bJ,bK,bL,bM,bN,bO,bP,ge,gg,bV,fR,fS,gU,gV⟩:=bU.open_
   rw [bV] at bU
   have fT:=fR.small
   have fU:=fS.small
   rw [bV]
   refine ⟨_,rfl,fun gW dE=>?_⟩
   have cD:=bt.next_nil bT
   have al:=bt.frN bT
   have dF:=TT.ofW al cD
   refine ⟨fun _=>dF,?_⟩
   refine qay (i:=14) kz (qbD cD dE (e:=37) (size:=5) (len:=1) (cs:=[.int .i64 bF,.slice bK bG.length bL,.bool bH,.slice bM bI.length bN,.slice bO bJ.length bP]) (d:=58) kz kz fun dG gX gY gh gi ae bw dH=>?_)
   have dI:=TT.ofW (al.trans ae) bw
   refine ⟨fun _=>dI,?_⟩
   refine qay (i:=15) kz (qaY bw dH (k:=0) (d:=59) (t:=34) (e:=37) (size:=5) (bytes:=88) (A:=A0_) (As:=(some ⟨dG,0,none⟩)) (m0:=k0_) (c:=c0_) (m:=1) (cs:=1) (xs:=xs0_) (news:=[.int .i64 bF,.slice bK bG.length bL,.bool bH,.slice bM bI.length bN,.slice bO bJ.length bP]) kz kz rfl (qbC (bw.own 1 _ rfl) (qbO kz)) (qbR (bw.own 1 _ rfl)) (by omega) fun bQ bR gZ g6 am bW dJ=>?_)
   have dK:=TT.ofW ((al.trans ae).trans am) bW
   refine ⟨fun _=>dK,?_⟩
   refine qay (i:=16) kz (qaB dJ (t:=34) (A:=(some ⟨aa,0,none⟩)) (m:=1) (q:=0) (d:=60) kz (e:=37) (size:=5) (bytes:=88) (j:=0) kz (b:=aa) (o:=0) rfl rfl (by decide) fun g7 dL=>?_)
   have dM:=dL.recast 60 (.v (.pointer (some ⟨aa,0 + 0 * 5,none⟩))) (.p 2 0) rfl rfl (Nat.le_of_ble_eq_true (n:=3) rfl)
   have dN:=dM.pk (env':=[(0,.p 0 0),(2,.p 1 0),(3,.p 3 0),(20,.v (.int .i64 (((D.f 0).l:Nat):Int))),(21,.v (.int .i64 ((k0_:Nat):Int))),(45,.v (.slice (some ⟨aa,0,none⟩) 1 1)),(50,.v (.slice A0_ k0_ c0_)),(54,.v (.slice ((D.f 0).A) ((D.f 0).l) ((D.f 0).c))),(55,.v (.int .i64 ((k0_:Nat):Int))),(56,.v (.pointer (some ⟨dz,dA + k0_ * 2,none⟩))),(57,.v (.agg #[.int .i64 bF,.slice bK bG.length bL,.bool bH,.slice bM bI.length bN,.slice bO bJ.length bP])),(58,.v (.slice (some ⟨dG,0,none⟩) 1 1)),(59,.v (.slice bQ (k0_ + 1) bR)),(60,.p 2 0)])
   have cE:=TT.ofW ((al.trans ae).trans am) bW
   refine ⟨fun _=>cE,?_⟩
   refine qaI [17] [(0,.p 0 0),(2,.p 1 0),(3,.p 3 0),(20,.v (.int .i64 (((D.f 0).l:Nat):Int))),(21,.v (.int .i64 ((k0_:Nat):Int))),(59,.v (.slice bQ (k0_ + 1) bR)),(61,.p 2 3)] 1 (qac (qaa (qaa (qac (qaa qaf))))) (fun _ h=>h.cells) cE dN fun g8 dO=>?_
   refine qay (i:=18) kz (qaA bW dO (oi:=2) (cs:=[.int .i64 0,.slice none 0 0,.bool (((D.f 0).A).isNone),.slice bQ (k0_ + 1) bR,.slice none 0 0]) kz fun g9 aZ cG dP=>?_)
   refine ⟨fun h=>absurd rfl h,?_⟩
   refine qaG kz ?_ _
   refine qaq ?_
   refine qab ?_
   refine qar [0,1] kz ?_
   refine qaj [0,1] [] [(0,.p 0 0),(2,.p 1 0),(3,.p 3 0),(20,.v (.int .i64 (((D.f 0).l:Nat):Int))),(21,.v (.int .i64 (IntKind.i64.wrap (((k0_:Nat):Int) + 1))))] cG dP fun hC dQ=>?_
   refine qae (qab ?_)
   obtain ⟨cH,dR,ba⟩:=cG.cutB dQ 4 [⟨b,o,[.int .i16 v,.slice ((D.f 0).A) ((D.f 0).l) ((D.f 0).c),.map D.m],false⟩,⟨b3,0,[.int .i64 0,.slice none 0 0,.bool false,.slice none 0 0,.slice none 0 0],true⟩,⟨aa,0,[.int .i64 0,.slice none 0 0,.bool (((D.f 0).A).isNone),.slice bQ (k0_ + 1) bR,.slice none 0 0],true⟩,⟨bu,0,[.int .i64 0,.slice none 0 0,.bool false,.slice (some ⟨aa,0,none⟩) 1 1,.slice none 0 0],true⟩] [(0,.p 0 0),(2,.p 1 0),(3,.p 3 0),(20,.v (.int .i64 (((D.f 0).l:Nat):Int))),(21,.v (.int .i64 (IntKind.i64.wrap (((k0_:Nat):Int) + 1))))]
   obtain ⟨dS,bd⟩:=dR.cutR 1 [⟨bQ,bR,37,5,k0_ + 1,xs0_ ++ [.int .i64 bF,.slice bK bG.length bL,.bool bH,.slice bM bI.length bN,.slice bO bJ.length bP]⟩]
   have dT:IntKind.i64.wrap (((k0_:Nat):Int) + 1) = ((k0_ + 1:Nat):Int):=qaN (by omega)
   rw [dT] at cH
   exact ⟨(D.f 0).l - (k0_ + 1),by omega,k0_ + 1,bQ,bR,xs0_ ++ [Value.int .i64 bF,.slice bK bG.length bL,.bool bH,.slice bM bI.length bN,.slice bO bJ.length bP],(css0_ ++ [[Value.int .i64 bF,.slice bK bG.length bL,.bool bH,.slice bM bI.length bN,.slice bO bJ.length bP]]),rfl,by omega,by rw [qei (by omega)]; exact (hT0_.move ((((((((((aC.trans ab).trans bE).trans bS).trans dg).trans al).trans ae).trans am).trans aZ).trans ba).trans bd).step immM ((((((((((aC.trans ab).trans bE).trans bS).trans dg).trans al).trans ae).trans am).trans aZ).trans ba).trans bd).to').snoc (x:=(fun i=>qaE ((D.f 0).f i)) k0_) (bU.move ((((ae.trans am).trans aZ).trans ba).trans bd).step immM ((((ae.trans am).trans aZ).trans ba).trans bd).to'),cH.pk,dS,(((((((((((db.trans aC).trans ab).trans bE).trans bS).trans dg).trans al).trans ae).trans am).trans aZ).trans ba).trans bd)⟩
  refine (qaA df dr (oi:=4) (cs:=[.bool false]) kz fun hJ ac cI dU=>?_)
  have dV:=TT.ofW (ab.trans ac) cI
  refine ⟨fun _=>dV,?_⟩
  refine qay (i:=1) kz (qaA cI dU (oi:=4) (cs:=[.bool true]) kz fun hK af bx dW=>?_)
  have dX:=TT.ofW ((ab.trans ac).trans af) bx
  refine ⟨fun _=>dX,?_⟩
  refine qay (i:=3) kz (qbd [0,2,3,4,20,21,25] bx.cells dW (env':=[(0,.p 0 0),(2,.p 1 0),(3,.p 3 0),(4,.v (.int .i64 ((k0_:Nat):Int))),(20,.v (.int .i64 (((D.f 0).l:Nat):Int))),(21,.v (.int .i64 ((k0_:Nat):Int))),(25,.v (.bool true))]) kz fun hZ cJ=>?_)
  have dY:=TT.ofW ((ab.trans ac).trans af) bx
  refine ⟨fun _=>dY,?_⟩
  refine qaG kz ?_ _
  refine qab ?_
  refine qa4 cJ (b:=true) kz rfl ?_
  refine qaL 17 kz bx fun ia aA ag bz=>?_
  refine qaI [0,1,5,6,7,8,9] [(0,.p 0 0),(2,.p 1 0),(3,.p 3 0),(20,.v (.int .i64 (((D.f 0).l:Nat):Int))),(21,.v (.int .i64 ((k0_:Nat):Int))),(27,.v (.slice (some ⟨aa,0,none⟩) 1 1)),(34,.v (.slice ((D.f 0).A) ((D.f 0).l) ((D.f 0).c))),(35,.v (.int .i64 ((k0_:Nat):Int)))] 11 (qaa (qac (qaa (qaa (qac (qaa qaf)))))) (fun _ h=>h.cells) bz cJ fun ib dZ=>?_
  refine qaX dZ (i:=2) (t:=34) (A:=(some ⟨aa,0,none⟩)) (m:=1) (q:=0) (d:=28) kz (e:=37) (size:=5) (bytes:=88) (j:=0) kz (b:=aa) (o:=0) rfl rfl (by decide) kz kz (qaa (qac (qaa (qaa (qac (qaa qaf)))))) bz fun ic d5=>?_
  have d6:=d5.recast 28 (.v (.pointer (some ⟨aa,0 + 0 * 5,none⟩))) (.p 2 0) rfl rfl (Nat.le_of_ble_eq_true (n:=3) rfl)
  have d7:=d6.pk (env':=[(0,.p 0 0),(2,.p 1 0),(3,.p 3 0),(20,.v (.int .i64 (((D.f 0).l:Nat):Int))),(21,.v (.int .i64 ((k0_:Nat):Int))),(27,.v (.slice (some ⟨aa,0,none⟩) 1 1)),(34,.v (.slice ((D.f 0).A) ((D.f 0).l) ((D.f 0).c))),(35,.v (.int .i64 ((k0_:Nat):Int))),(28,.p 2 0)])
  refine qaI [3,4,12] [(0,.p 0 0),(2,.p 1 0),(3,.p 3 0),(20,.v (.int .i64 (((D.f 0).l:Nat):Int))),(21,.v (.int .i64 ((k0_:Nat):Int))),(27,.v (.slice (some ⟨aa,0,none⟩) 1 1)),(30,.v (.slice A0_ k0_ c0_)),(34,.v (.slice ((D.f 0).A) ((D.f 0).l) ((D.f 0).c))),(35,.v (.int .i64 ((k0_:Nat):Int))),(38,.v (.int .i64 ((k0_:Nat):Int)))] 7 (qaa (qac (qaa (qaa (qac (qaa qaf)))))) (fun _ h=>h.cells) bz d7 fun ig d8=>?_
  obtain ⟨cB,cC,d9,gj,bX⟩:=Slots.get g1 (i:=k0_) (by omega)
  refine qaX d8 (i:=10) (t:=123) (A:=(D.f 0).A) (m:=((D.f 0).l)) (q:=((k0_:Nat):Int)) (d:=36) kz (e:=129) (size:=2) (bytes:=24) kz d9 rfl (by omega) kz kz (qaa (qac (qaa (qaa (qac (qaa qaf)))))) bz fun ii cK=>?_
  refine qfH (i:=11) (j:=13) kz ?_ ?_
  ·
   refine (qak cK (f:=88) (vs:=[.pointer (some ⟨cB,cC + k0_ * 2,none⟩)]) (d:=37) kz Tryz.call88 (qa9 0 ((D.f 0).f k0_) _ _ _ _ (bX.move ag.step nilM ag.imm) (qaJ _ ag.step nilM ag.imm (g1e k0_ (by omega)))) ?_)
   rintro e_ ij ⟨gk,rfl,ea,bY⟩
   have bZ:=ea.move (Step.refl _ Nil) nilM (ag.laid (G:=F) bY)
   obtain ⟨aD,aE,aF,aG,aH,aI,aJ,aK,aL,aM,aN,gl,gm,b8,fV,fW,ik,il⟩:=bZ.open_
   rw [b8] at bZ
   have fX:=fV.small
   have fY:=fW.small
   rw [b8]
   refine ⟨_,rfl,fun im eb=>?_⟩
   have cL:=ag.next_nil bY
   have ao:=ag.frN bY
   have ec:=TT.ofW ao cL
   refine ⟨fun _=>ec,?_⟩
   refine qay (i:=13) kz (qbD cL eb (e:=37) (size:=5) (len:=1) (cs:=[.int .i64 0,.slice none 0 0,.bool false,.slice none 0 0,.slice none 0 0]) (d:=39) kz kz fun di io ip gn gp ah bA ee=>?_)
   have ef:=TT.ofW (ao.trans ah) bA
   refine ⟨fun _=>ef,?_⟩
   refine qay (i:=14) kz (qaY bA ee (k:=0) (d:=40) (t:=34) (e:=37) (size:=5) (bytes:=88) (A:=A0_) (As:=(some ⟨di,0,none⟩)) (m0:=k0_) (c:=c0_) (m:=1) (cs:=1) (xs:=xs0_) (news:=[.int .i64 0,.slice none 0 0,.bool false,.slice none 0 0,.slice none 0 0]) kz kz rfl (qbC (bA.own 1 _ rfl) (qbO kz)) (qbR (bA.own 1 _ rfl)) (by omega) fun aj ap iq ir ar cd eg=>?_)
   have eh:=TT.ofW ((ao.trans ah).trans ar) cd
   refine ⟨fun _=>eh,?_⟩
   refine qay (i:=15) kz (qaB eg (t:=34) (A:=(some ⟨aa,0,none⟩)) (m:=1) (q:=0) (d:=41) kz (e:=37) (size:=5) (bytes:=88) (j:=0) kz (b:=aa) (o:=0) rfl rfl (by decide) fun iu ei=>?_)
   have ej:=ei.recast 41 (.v (.pointer (some ⟨aa,0 + 0 * 5,none⟩))) (.p 2 0) rfl rfl (Nat.le_of_ble_eq_true (n:=3) rfl)
   have ek:=ej.pk (env':=[(0,.p 0 0),(2,.p 1 0),(3,.p 3 0),(20,.v (.int .i64 (((D.f 0).l:Nat):Int))),(21,.v (.int .i64 ((k0_:Nat):Int))),(27,.v (.slice (some ⟨aa,0,none⟩) 1 1)),(30,.v (.slice A0_ k0_ c0_)),(34,.v (.slice ((D.f 0).A) ((D.f 0).l) ((D.f 0).c))),(35,.v (.int .i64 ((k0_:Nat):Int))),(38,.v (.int .i64 ((k0_:Nat):Int))),(36,.v (.pointer (some ⟨cB,cC + k0_ * 2,none⟩))),(37,.v (.agg #[.int .i64 aD,.slice aI aE.length aJ,.bool aF,.slice aK aG.length aL,.slice aM aH.length aN])),(39,.v (.slice (some ⟨di,0,none⟩) 1 1)),(40,.v (.slice aj (k0_ + 1) ap)),(41,.p 2 0)])
   have cM:=TT.ofW ((ao.trans ah).trans ar) cd
   refine ⟨fun _=>cM,?_⟩
   refine qaI [16] [(0,.p 0 0),(2,.p 1 0),(3,.p 3 0),(20,.v (.int .i64 (((D.f 0).l:Nat):Int))),(21,.v (.int .i64 ((k0_:Nat):Int))),(37,.v (.agg #[.int .i64 aD,.slice aI aE.length aJ,.bool aF,.slice aK aG.length aL,.slice aM aH.length aN])),(38,.v (.int .i64 ((k0_:Nat):Int))),(40,.v (.slice aj (k0_ + 1) ap)),(42,.p 2 3)] 1 (qaa (qac (qaa (qaa (qac (qaa qaf)))))) (fun _ h=>h.cells) cM ek fun iv em=>?_
   refine qay (i:=17) kz (qaA cd em (oi:=2) (cs:=[.int .i64 0,.slice none 0 0,.bool (((D.f 0).A).isNone),.slice aj (k0_ + 1) ap,.slice none 0 0]) kz fun fZ bf cN eo=>?_)
   refine ⟨fun h=>absurd rfl h,?_⟩
   refine qaG kz ?_ _
   refine qab ?_
   refine qar [0,1] kz ?_
   have ep:World.ownsRow fZ 0 37 5 (.slice aj (k0_ + 1) ap) (k0_ + 1) (xs0_ ++ [.int .i64 0,.slice none 0 0,.bool false,.slice none 0 0,.slice none 0 0]):=cN.own 0 _ rfl
   obtain ⟨eu,cO⟩:=qcf ep (by omega)
   refine qal (qaB eo (t:=34) (A:=aj) (m:=(k0_ + 1)) (q:=((k0_:Nat):Int)) (d:=43) kz (e:=37) (size:=5) (bytes:=88) kz (b:=eu) (o:=0) (j:=k0_) cO (rfl) (by omega) fun iw ev=>?_)
   refine qal (qco cN ev (k:=0) (g:=eu) (o:=k0_ * 5) (c:=ap) (m:=(k0_ + 1)) (size:=5) (e:=37) (A:=aj) (xs:=(xs0_ ++ [.int .i64 0,.slice none 0 0,.bool false,.slice none 0 0,.slice none 0 0])) (vs:=[.int .i64 aD,.slice aI aE.length aJ,.bool aF,.slice aK aG.length aL,.slice aM aH.length aN]) kz rfl cO (by simp only [List.length_cons,List.length_nil]; omega) fun ix bg ew ey=>?_)
   have ez:(⟨aj,ap,37,5,k0_ + 1,qbe (xs0_ ++ [.int .i64 0,.slice none 0 0,.bool false,.slice none 0 0,.slice none 0 0]) (k0_ * 5) [.int .i64 aD,.slice aI aE.length aJ,.bool aF,.slice aK aG.length aL,.slice aM aH.length aN]⟩:Rw) = ⟨aj,ap,37,5,k0_ + 1,xs0_ ++ [.int .i64 aD,.slice aI aE.length aJ,.bool aF,.slice aK aG.length aL,.slice aM aH.length aN]⟩:=by rw [qeS (by rw [hT0_.xslen,List.length_take,qd0]; omega)]
   obtain ⟨cP,bh⟩:=ew.rowEq 0 [⟨aj,ap,37,5,k0_ + 1,xs0_ ++ [.int .i64 aD,.slice aI aE.length aJ,.bool aF,.slice aK aG.length aL,.slice aM aH.length aN]⟩,⟨some ⟨di,0,none⟩,1,37,5,1,[.int .i64 0,.slice none 0 0,.bool false,.slice none 0 0,.slice none 0 0]⟩] ez
   refine qae ?_
   refine qaq ?_
   refine qab ?_
   refine qar [0,1] kz ?_
   refine qaj [0,1] [] [(0,.p 0 0),(2,.p 1 0),(3,.p 3 0),(20,.v (.int .i64 (((D.f 0).l:Nat):Int))),(21,.v (.int .i64 (IntKind.i64.wrap (((k0_:Nat):Int) + 1))))] cP ey fun iy eB=>?_
   refine qae (qab ?_)
   obtain ⟨cQ,eC,bi⟩:=cP.cutB eB 4 [⟨b,o,[.int .i16 v,.slice ((D.f 0).A) ((D.f 0).l) ((D.f 0).c),.map D.m],false⟩,⟨b3,0,[.int .i64 0,.slice none 0 0,.bool false,.slice none 0 0,.slice none 0 0],true⟩,⟨aa,0,[.int .i64 0,.slice none 0 0,.bool (((D.f 0).A).isNone),.slice aj (k0_ + 1) ap,.slice none 0 0],true⟩,⟨bu,0,[.int .i64 0,.slice none 0 0,.bool false,.slice (some ⟨aa,0,none⟩) 1 1,.slice none 0 0],true⟩] [(0,.p 0 0),(2,.p 1 0),(3,.p 3 0),(20,.v (.int .i64 (((D.f 0).l:Nat):Int))),(21,.v (.int .i64 (IntKind.i64.wrap (((k0_:Nat):Int) + 1))))]
   obtain ⟨eD,bj⟩:=eC.cutR 1 [⟨aj,ap,37,5,k0_ + 1,xs0_ ++ [.int .i64 aD,.slice aI aE.length aJ,.bool aF,.slice aK aG.length aL,.slice aM aH.length aN]⟩]
   have eE:IntKind.i64.wrap (((k0_:Nat):Int) + 1) = ((k0_ + 1:Nat):Int):=qaN (by omega)
   rw [eE] at cQ
   exact ⟨(D.f 0).l - (k0_ + 1),by omega,k0_ + 1,aj,ap,xs0_ ++ [Value.int .i64 aD,.slice aI aE.length aJ,.bool aF,.slice aK aG.length aL,.slice aM aH.length aN],(css0_ ++ [[Value.int .i64 aD,.slice aI aE.length aJ,.bool aF,.slice aK aG.length aL,.slice aM aH.length aN]]),rfl,by omega,by rw [qei (by omega)]; exact (hT0_.move ((((((((((((aC.trans ab).trans ac).trans af).trans aA).trans ao).trans ah).trans ar).trans bf).trans bg).trans bh).trans bi).trans bj).step immM ((((((((((((aC.trans ab).trans ac).trans af).trans aA).trans ao).trans ah).trans ar).trans bf).trans bg).trans bh).trans bi).trans bj).to').snoc (x:=(fun i=>qaE ((D.f 0).f i)) k0_) (bZ.move ((((((ah.trans ar).trans bf).trans bg).trans bh).trans bi).trans bj).step immM ((((((ah.trans ar).trans bf).trans bg).trans bh).trans bi).trans bj).to'),cQ.pk,eD,(((((((((((((db.trans aC).trans ab).trans ac).trans af).trans aA).trans ao).trans ah).trans ar).trans bf).trans bg).trans bh).trans bi).trans bj)⟩
  refine (qbD ag cK (e:=37) (size:=5) (len:=1) (cs:=[.int .i64 0,.slice none 0 0,.bool false,.slice none 0 0,.slice none 0 0]) (d:=39) kz kz fun dj iz iA gq gt au ai eF=>?_)
  have eG:=TT.ofW au ai
  refine ⟨fun _=>eG,?_⟩
  refine qay (i:=11) kz (qak eF (f:=88) (vs:=[.pointer (some ⟨cB,cC + k0_ * 2,none⟩)]) (d:=37) kz Tryz.call88 (qa9 0 ((D.f 0).f k0_) _ _ _ _ (bX.move ai.step nilM ai.imm) (qaJ _ ai.step nilM ai.imm (g1e k0_ (by omega)))) ?_)
  rintro e_ iB ⟨gv,rfl,eH,ce⟩
  have cm:=eH.move (Step.refl _ Nil) nilM (ai.laid (G:=F) ce)
  obtain ⟨aO,aP,aQ,aR,aS,aT,aU,aV,aW,aX,aY,gw,gx,cq,f5,f7,iC,iD⟩:=cm.open_
  rw [cq] at cm
  have f8:=f5.small
  have f9:=f7.small
  rw [cq]
  refine ⟨_,rfl,fun iE eI=>?_⟩
  have bB:=ai.next_nil ce
  have aB:=ai.frN ce
  have eJ:=TT.ofW (au.trans aB) bB
  refine ⟨fun _=>eJ,?_⟩
  refine qay (i:=14) kz (qaY bB eI (k:=0) (d:=40) (t:=34) (e:=37) (size:=5) (bytes:=88) (A:=A0_) (As:=(some ⟨dj,0,none⟩)) (m0:=k0_) (c:=c0_) (m:=1) (cs:=1) (xs:=xs0_) (news:=[.int .i64 0,.slice none 0 0,.bool false,.slice none 0 0,.slice none 0 0]) kz kz rfl (qbC (bB.own 1 _ rfl) (qbO kz)) (qbR (bB.own 1 _ rfl)) (by omega) fun ak av iF iG aw cr eK=>?_)
  have eL:=TT.ofW ((au.trans aB).trans aw) cr
  refine ⟨fun _=>eL,?_⟩
  refine qay (i:=15) kz (qaB eK (t:=34) (A:=(some ⟨aa,0,none⟩)) (m:=1) (q:=0) (d:=41) kz (e:=37) (size:=5) (bytes:=88) (j:=0) kz (b:=aa) (o:=0) rfl rfl (by decide) fun iH eM=>?_)
  have eN:=eM.recast 41 (.v (.pointer (some ⟨aa,0 + 0 * 5,none⟩))) (.p 2 0) rfl rfl (Nat.le_of_ble_eq_true (n:=3) rfl)
  have eO:=eN.pk (env':=[(0,.p 0 0),(2,.p 1 0),(3,.p 3 0),(20,.v (.int .i64 (((D.f 0).l:Nat):Int))),(21,.v (.int .i64 ((k0_:Nat):Int))),(27,.v (.slice (some ⟨aa,0,none⟩) 1 1)),(30,.v (.slice A0_ k0_ c0_)),(34,.v (.slice ((D.f 0).A) ((D.f 0).l) ((D.f 0).c))),(35,.v (.int .i64 ((k0_:Nat):Int))),(38,.v (.int .i64 ((k0_:Nat):Int))),(36,.v (.pointer (some ⟨cB,cC + k0_ * 2,none⟩))),(39,.v (.slice (some ⟨dj,0,none⟩) 1 1)),(37,.v (.agg #[.int .i64 aO,.slice aT aP.length aU,.bool aQ,.slice aV aR.length aW,.slice aX aS.length aY])),(40,.v (.slice ak (k0_ + 1) av)),(41,.p 2 0)])
  have cR:=TT.ofW ((au.trans aB).trans aw) cr
  refine ⟨fun _=>cR,?_⟩
  refine qaI [16] [(0,.p 0 0),(2,.p 1 0),(3,.p 3 0),(20,.v (.int .i64 (((D.f 0).l:Nat):Int))),(21,.v (.int .i64 ((k0_:Nat):Int))),(37,.v (.agg #[.int .i64 aO,.slice aT aP.length aU,.bool aQ,.slice aV aR.length aW,.slice aX aS.length aY])),(38,.v (.int .i64 ((k0_:Nat):Int))),(40,.v (.slice ak (k0_ + 1) av)),(42,.p 2 3)] 1 (qaa (qac (qaa (qaa (qac (qaa qaf)))))) (fun _ h=>h.cells) cR eO fun iI eP=>?_
  refine qay (i:=17) kz (qaA cr eP (oi:=2) (cs:=[.int .i64 0,.slice none 0 0,.bool (((D.f 0).A).isNone),.slice ak (k0_ + 1) av,.slice none 0 0]) kz fun ga bk cS eQ=>?_)
  refine ⟨fun h=>absurd rfl h,?_⟩
  refine qaG kz ?_ _
  refine qab ?_
  refine qar [0,1] kz ?_
  have eR:World.ownsRow ga 0 37 5 (.slice ak (k0_ + 1) av) (k0_ + 1) (xs0_ ++ [.int .i64 0,.slice none 0 0,.bool false,.slice none 0 0,.slice none 0 0]):=cS.own 0 _ rfl
  obtain ⟨eS,cT⟩:=qcf eR (by omega)
  refine qal (qaB eQ (t:=34) (A:=ak) (m:=(k0_ + 1)) (q:=((k0_:Nat):Int)) (d:=43) kz (e:=37) (size:=5) (bytes:=88) kz (b:=eS) (o:=0) (j:=k0_) cT (rfl) (by omega) fun iJ eU=>?_)
  refine qal (qco cS eU (k:=0) (g:=eS) (o:=k0_ * 5) (c:=av) (m:=(k0_ + 1)) (size:=5) (e:=37) (A:=ak) (xs:=(xs0_ ++ [.int .i64 0,.slice none 0 0,.bool false,.slice none 0 0,.slice none 0 0])) (vs:=[.int .i64 aO,.slice aT aP.length aU,.bool aQ,.slice aV aR.length aW,.slice aX aS.length aY]) kz rfl cT (by simp only [List.length_cons,List.length_nil]; omega) fun iK bn eV eW=>?_)
  have eX:(⟨ak,av,37,5,k0_ + 1,qbe (xs0_ ++ [.int .i64 0,.slice none 0 0,.bool false,.slice none 0 0,.slice none 0 0]) (k0_ * 5) [.int .i64 aO,.slice aT aP.length aU,.bool aQ,.slice aV aR.length aW,.slice aX aS.length aY]⟩:Rw) = ⟨ak,av,37,5,k0_ + 1,xs0_ ++ [.int .i64 aO,.slice aT aP.length aU,.bool aQ,.slice aV aR.length aW,.slice aX aS.length aY]⟩:=by rw [qeS (by rw [hT0_.xslen,List.length_take,qd0]; omega)]
  obtain ⟨cU,bo⟩:=eV.rowEq 0 [⟨ak,av,37,5,k0_ + 1,xs0_ ++ [.int .i64 aO,.slice aT aP.length aU,.bool aQ,.slice aV aR.length aW,.slice aX aS.length aY]⟩,⟨some ⟨dj,0,none⟩,1,37,5,1,[.int .i64 0,.slice none 0 0,.bool false,.slice none 0 0,.slice none 0 0]⟩] eX
  refine qae ?_
  refine qaq ?_
  refine qab ?_
  refine qar [0,1] kz ?_
  refine qaj [0,1] [] [(0,.p 0 0),(2,.p 1 0),(3,.p 3 0),(20,.v (.int .i64 (((D.f 0).l:Nat):Int))),(21,.v (.int .i64 (IntKind.i64.wrap (((k0_:Nat):Int) + 1))))] cU eW fun iL eY=>?_
  refine qae (qab ?_)
  obtain ⟨cV,eZ,bp⟩:=cU.cutB eY 4 [⟨b,o,[.int .i16 v,.slice ((D.f 0).A) ((D.f 0).l) ((D.f 0).c),.map D.m],false⟩,⟨b3,0,[.int .i64 0,.slice none 0 0,.bool false,.slice none 0 0,.slice none 0 0],true⟩,⟨aa,0,[.int .i64 0,.slice none 0 0,.bool (((D.f 0).A).isNone),.slice ak (k0_ + 1) av,.slice none 0 0],true⟩,⟨bu,0,[.int .i64 0,.slice none 0 0,.bool false,.slice (some ⟨aa,0,none⟩) 1 1,.slice none 0 0],true⟩] [(0,.p 0 0),(2,.p 1 0),(3,.p 3 0),(20,.v (.int .i64 (((D.f 0).l:Nat):Int))),(21,.v (.int .i64 (IntKind.i64.wrap (((k0_:Nat):Int) + 1))))]
  obtain ⟨e9,bq⟩:=eZ.cutR 1 [⟨ak,av,37,5,k0_ + 1,xs0_ ++ [.int .i64 aO,.slice aT aP.length aU,.bool aQ,.slice aV aR.length aW,.slice aX aS.length aY]⟩]
  have fa:IntKind.i64.wrap (((k0_:Nat):Int) + 1) = ((k0_ + 1:Nat):Int):=qaN (by omega)
  rw [fa] at cV
  exact ⟨(D.f 0).l - (k0_ + 1),by omega,k0_ + 1,ak,av,xs0_ ++ [Value.int .i64 aO,.slice aT aP.length aU,.bool aQ,.slice aV aR.length aW,.slice aX aS.length aY],(css0_ ++ [[Value.int .i64 aO,.slice aT aP.length aU,.bool aQ,.slice aV aR.length aW,.slice aX aS.length aY]]),rfl,by omega,by rw [qei (by omega)]; exact (hT0_.move ((((((((((((aC.trans ab).trans ac).trans af).trans aA).trans au).trans aB).trans aw).trans bk).trans bn).trans bo).trans bp).trans bq).step immM ((((((((((((aC.trans ab).trans ac).trans af).trans aA).trans au).trans aB).trans aw).trans bk).trans bn).trans bo).trans bp).trans bq).to').snoc (x:=(fun i=>qaE ((D.f 0).f i)) k0_) (cm.move (((((aw.trans bk).trans bn).trans bo).trans bp).trans bq).step immM (((((aw.trans bk).trans bn).trans bo).trans bp).trans bq).to'),cV.pk,e9,(((((((((((((db.trans aC).trans ab).trans ac).trans af).trans aA).trans au).trans aB).trans aw).trans bk).trans bn).trans bo).trans bp).trans bq)⟩
 have gy:=of_decide_eq_false de
 refine wp_exit ?_
 refine qax ?_
 refine qax ?_
 refine qaM ?_
 refine qab ?_
 refine qad [0,1,2,3,4] kz ?_
 refine qaj [0,1,2] [3,4] [(2,.p 1 0),(3,.p 3 0),(65,.p 0 2)] ax dc fun iM fb=>?_
 refine qal (qfm fb (v:=.func (.func 89) #[] #[.pointer (some ⟨bu,0,none⟩)]) (d:=66) kz fun iN fe=>?_)
 refine qal (qak fe (f:=64) (vs:=[.pointer (some ⟨b,o + 2,none⟩),.func (.func 89) #[] #[.pointer (some ⟨bu,0,none⟩)]]) (d:=67) kz Tryz.call64 (qgh (F:=(Imm F w gJ [⟨b,o,[.int .i16 v,.slice ((D.f 0).A) ((D.f 0).l) ((D.f 0).c),.map D.m],false⟩,⟨b3,0,[.int .i64 0,.slice none 0 0,.bool false,.slice none 0 0,.slice none 0 0],true⟩,⟨aa,0,[.int .i64 0,.slice none 0 0,.bool (((D.f 0).A).isNone),.slice A0_ k0_ c0_,.slice none 0 0],true⟩,⟨bu,0,[.int .i64 0,.slice none 0 0,.bool false,.slice (some ⟨aa,0,none⟩) 1 1,.slice none 0 0],true⟩] [⟨A0_,c0_,37,5,k0_,xs0_⟩])) Tryz.call89 qbZ ((hat.one 2 rfl).move ax.step nilM ax.imm) (g2.move ax.step nilM ax.imm) (Str.of ax 3 rfl) (qku 3 rfl) g2l) ?_)
 rintro e_ iO ⟨rfl,ay,az,dl,ff,fg⟩
 obtain ⟨cu,cW,fh⟩:=ax.wrote 3 [⟨b,o,[.int .i16 v,.slice ((D.f 0).A) ((D.f 0).l) ((D.f 0).c),.map D.m],false⟩,⟨b3,0,[.int .i64 0,.slice none 0 0,.bool false,.slice none 0 0,.slice none 0 0],true⟩,⟨aa,0,[.int .i64 0,.slice none 0 0,.bool (((D.f 0).A).isNone),.slice A0_ k0_ c0_,.slice none 0 0],true⟩,⟨bu,0,[.int .i64 0,.slice none 0 0,.bool false,.slice (some ⟨aa,0,none⟩) 1 1,.slice ay D.u.length az],true⟩] rfl fg dl
 have cX:=ff.move (Step.refl _ Nil) nilM (fun b_ o_ h_ hb_=>fh (G:=F) b_ o_ (.inr h_) hb_)
 refine ⟨_,rfl,fun iP fi=>?_⟩
 have fj:=(EnvOk.places (tb':=[⟨b,o,[.int .i16 v,.slice ((D.f 0).A) ((D.f 0).l) ((D.f 0).c),.map D.m],false⟩,⟨b3,0,[.int .i64 0,.slice none 0 0,.bool false,.slice none 0 0,.slice none 0 0],true⟩,⟨aa,0,[.int .i64 0,.slice none 0 0,.bool (((D.f 0).A).isNone),.slice A0_ k0_ c0_,.slice none 0 0],true⟩,⟨bu,0,[.int .i64 0,.slice none 0 0,.bool false,.slice (some ⟨aa,0,none⟩) 1 1,.slice ay D.u.length az],true⟩]) fi (show Pl [⟨b,o,[.int .i16 v,.slice ((D.f 0).A) ((D.f 0).l) ((D.f 0).c),.map D.m],false⟩,⟨b3,0,[.int .i64 0,.slice none 0 0,.bool false,.slice none 0 0,.slice none 0 0],true⟩,⟨aa,0,[.int .i64 0,.slice none 0 0,.bool (((D.f 0).A).isNone),.slice A0_ k0_ c0_,.slice none 0 0],true⟩,⟨bu,0,[.int .i64 0,.slice none 0 0,.bool false,.slice (some ⟨aa,0,none⟩) 1 1,.slice none 0 0],true⟩] [⟨b,o,[.int .i16 v,.slice ((D.f 0).A) ((D.f 0).l) ((D.f 0).c),.map D.m],false⟩,⟨b3,0,[.int .i64 0,.slice none 0 0,.bool false,.slice none 0 0,.slice none 0 0],true⟩,⟨aa,0,[.int .i64 0,.slice none 0 0,.bool (((D.f 0).A).isNone),.slice A0_ k0_ c0_,.slice none 0 0],true⟩,⟨bu,0,[.int .i64 0,.slice none 0 0,.bool false,.slice (some ⟨aa,0,none⟩) 1 1,.slice ay D.u.length az],true⟩] from ⟨rfl,rfl,⟨rfl,rfl,⟨rfl,rfl,⟨rfl,rfl,trivial⟩⟩⟩⟩)).pk (env':=[(67,.v (.tuple #[])),(2,.p 1 0),(3,.p 3 0),(65,.p 0 2),(66,.v (.func (.func 89) #[] #[.pointer (some ⟨bu,0,none⟩)]))])
 refine qae (qab ?_)
 refine qad [0,1,2] kz ?_
 refine qaj [0,1] [2] [(2,.p 1 0),(3,.p 3 0),(69,.v (.slice ay D.u.length az))] cu fj fun iQ fk=>?_
 refine qal (qak fk (f:=66) (vs:=[.slice ay D.u.length az]) (d:=70) kz Tryz.call66 (qiW cX g2.sorted) ?_)
 rintro e_ iR ⟨rfl,cY⟩
 refine ⟨_,rfl,fun iS fm=>?_⟩
 have cZ:=cu.next_nil cY
 have bC:=cu.frN cY
 refine qae (qab ?_)
 refine qad [0,1] kz ?_
 refine qaj [0] [1] [(2,.p 1 0),(71,.v (.agg #[.int .i64 0,.slice none 0 0,.bool false,.slice (some ⟨aa,0,none⟩) 1 1,.slice ay D.u.length az]))] cZ fm fun iT fo=>?_
 refine qal (qaA cZ fo (oi:=1) (cs:=[.int .i64 0,.slice none 0 0,.bool false,.slice (some ⟨aa,0,none⟩) 1 1,.slice ay D.u.length az]) kz fun gb bD cw fq=>?_)
 refine qae (qab ?_)
 refine wp_ret ?_
 refine qaH fq cw.cells (v:=.agg #[.int .i64 0,.slice none 0 0,.bool false,.slice (some ⟨aa,0,none⟩) 1 1,.slice ay D.u.length az]) kz ?_
 have c5:=(hT0_.move ((cW.trans bC).trans bD).step immM ((cW.trans bC).trans bD).to')
 rw [qjA (by omega)] at c5
 exact qg4 (u:=D.u) (l:=[.mk 0 [] (D.f 0).A.isNone ((List.range (D.f 0).l).map fun i=>qaE ((D.f 0).f i)) []]) (css:=[[.int .i64 0,.slice none 0 0,.bool (((D.f 0).A).isNone),.slice A0_ k0_ c0_,.slice none 0 0]]) cw 2 rfl ⟨qiU cw (k:=0) rfl c5 (by rw [qd0]; omega) (by rw [qd0]; omega),trivial⟩ ((show TagsR _ (Imm F w gb [⟨b,o,[.int .i16 v,.slice ((D.f 0).A) ((D.f 0).l) ((D.f 0).c),.map D.m],false⟩,⟨b3,0,[.int .i64 0,.slice none 0 0,.bool false,.slice (some ⟨aa,0,none⟩) 1 1,.slice ay D.u.length az],true⟩,⟨aa,0,[.int .i64 0,.slice none 0 0,.bool (((D.f 0).A).isNone),.slice A0_ k0_ c0_,.slice none 0 0],true⟩,⟨bu,0,[.int .i64 0,.slice none 0 0,.bool false,.slice (some ⟨aa,0,none⟩) 1 1,.slice ay D.u.length az],true⟩] [⟨A0_,c0_,37,5,k0_,xs0_⟩]) _ _ _ from (cX.move (bC.trans bD).step immM (bC.trans bD).to')).move (Step.refl _ Nil) nilM qcN)
theorem qlm {t:Tree} (h:t.i64s) (i:Nat):(t.at_ i).i64s:=by
 cases t with
 | mk n s b l u =>
  have h1:∀ x ∈ l,x.i64s:=qeL h.2
  show (l.getD i .zero).i64s
  rw [List.getD_eq_getElem?_getD]
  cases hx:l[i]? with
  | none=>exact ⟨by decide,trivial⟩
  | some x=>exact h1 x (List.mem_of_getElem? hx)
theorem qi3 {t x:Tree} (h:t.i64s) {i:Nat} (hx:(qam t.L)[i]? = some x):x.i64s:=by
 cases t with
 | mk n s b l u =>
  have h1:∀ x ∈ l,x.i64s:=qeL h.2
  exact h1 x (List.mem_of_mem_take (List.mem_of_getElem? hx))
theorem qhb {k x1 x2 x3 x5 x6 v:Int} {s:List Fld} {flex:Bool} {x:Tree}:Fld.pres (.mk k x1 x2 x3 (-1) x5 x6 s) v flex x = (decide (x1 ≤ v) && (decide (x2 < 0) || decide (v ≤ x2))):=by simp [Fld.pres,Fld.tag,Fld.has]
section
variable {T:List Fld → Tree → Tree → Prop} {U:List Fld → Tree → Prop} {v k x1 x2 x3 x4 x5 x6 n:Int} {sub:List Fld} {x T':Tree} {A:Option Addr} {s:ByteArray} {o:Bs} {b:Bool}
theorem qjB (hs:o = qaC x.S):ToF0 T v (.mk 8 x1 x2 (-1) x4 x5 x6 sub) x (.mk 0 o false [] []):=by
 cases x with
 | mk a1 a2 a3 a4 a5 =>
  exact ⟨fun _=>nul_no.symm,fun _ _=>hs,fun _ h=>by omega,fun _ h=>by omega,fun _ _ h=>absurd rfl h⟩
theorem qkF (h:s = bs T'.S) (h1:T'.S = qaC x.S):ToF T v (.mk 8 x1 x2 (-1) x4 x5 x6 sub) x (.mk 0 (sb s) false [] []) :=
 ⟨qjB (by rw [h,qlr,h1]),fun h=>absurd (show (8:Int) = 11 from h) (by decide)⟩
theorem qjC {g:Tree} (hg:g.null = false) (h:T sub x g):ToF0 T v (.mk 10 x1 x2 (-1) x4 x5 x6 sub) x g:=by
 cases x with
 | mk a1 a2 a3 a4 a5 =>
  cases g with
  | mk g1 g2 g3 g4 g5 =>
   exact ⟨fun _=>by rw [nul_no]; exact hg,fun _ h=>by omega,fun _ h=>by omega,fun _ _=>h,fun _ _ _ _ h=>absurd rfl h⟩
theorem qkG {l:Nat} {g:Nat → Tree} {W:Tree → Tree} (hb:x3 ≥ 0 ∧ v ≥ x3 → b = Fld.nul (.mk 11 x1 x2 x3 x4 x5 x6 sub) v x) (hl:l = (lst T').length) (hlst:lst T' = (if Fld.nul (.mk 11 x1 x2 x3 (-1) x5 x6 sub) v x = true then [] else qam x.L).map W)
  (he:∀ i y,i < l → (lst T').getD i .zero = W y → (qam x.L)[i]? = some y → ToF0 T v (.mk x6 x1 x2 (-1) (-1) x5 x6 sub) y (g i)):ToF T v (.mk 11 x1 x2 x3 x4 x5 x6 sub) x (.mk 0 [] b ((List.range l).map g) []):=by
 have hn:Fld.nul (.mk 11 x1 x2 x3 (-1) x5 x6 sub) v x = Fld.nul (.mk 11 x1 x2 x3 x4 x5 x6 sub) v x:=by cases x; rfl
 refine ⟨?_,fun _ hnn=>?_⟩
 ·cases x with
  | mk a1 a2 a3 a4 a5 =>
   refine ⟨fun h=>hb ?_,fun _ h=>by omega,fun _ h=>by omega,fun _ h=>by omega,fun _ _ _ _ _ h=>absurd rfl h⟩
   rcases h with h | h | h
   ·omega
   ·omega
   exact h
 rw [hn,hnn,if_neg (by decide)] at hlst
 have hll:l = (qam x.L).length:=by rw [hl,hlst,List.length_map]
 refine ⟨by show ((List.range l).map g).length = _; rw [List.length_map,List.length_range,hll],fun i y z hy hz=>?_⟩
 have hi:i < l:=by rw [hll]; exact (List.getElem?_eq_some_iff.1 hy).1
 have hz':((List.range l).map g)[i]? = some z:=hz
 rw [List.getElem?_map,List.getElem?_range hi] at hz'
 obtain rfl:=Option.some.inj hz'
 refine he i y hi ?_ hy
 rw [hlst,List.getD_eq_getElem?_getD,List.getElem?_map,hy]
 rfl
end
theorem qbG (v:Int) (h0:0 ≤ v) (t Y:Tree) (hY:∀ i,Y.at_ i = (fitT v 7 [(Fld.mk 8 0 (-1) (-1) (-1) 0 0 [])] t).at_ i) (hU:Y.U = (fitT v 7 [(Fld.mk 8 0 (-1) (-1) (-1) 0 0 [])] t).U) (hi:t.i64s) (D:DV) (h:qaR v D Y):qiY v (decide (v ≥ qah)) 7 [(Fld.mk 8 0 (-1) (-1) (-1) 0 0 [])] t (qaE D):=by
 unfold qaR at h
 obtain ⟨r0,rU,_⟩:=h
 refine ⟨rfl,fun i f y hf hy=>?_,?_⟩
 ·match i,hf,hy with
  | 0,hf,hy =>
   obtain rfl:=Option.some.inj hf
   obtain rfl:=Option.some.inj hy
   have e:=hY 0
   refine ⟨fun hp=>?_,fun hp=>?_⟩
   ·have hc:True:=trivial
    have r:=r0
    rw [e] at r
    exact qkF r (qkl (v:=v) (d:=6) (t:=t) (show [(Fld.mk 8 0 (-1) (-1) (-1) 0 0 [])][0]? = _ from rfl) (by decide))
   rw [qhb] at hp; simp at hp; omega
  | n_ + 1,hf,hy=>exact absurd (List.getElem?_eq_some_iff.1 hf).1 (by show ¬ n_ + 1 < 1; omega)
 show D.u = if (decide (v ≥ qah)) = true then qcl (qai [(Fld.mk 8 0 (-1) (-1) (-1) 0 0 [])] t.U) else []
 by_cases hc:(decide (v ≥ 0)) = true
 ·rw [if_pos (show (decide (v ≥ qah)) = true from hc),rU.1 hc,hU,qiq]
 rw [if_neg (show ¬ (decide (v ≥ qah)) = true from hc),rU.2 (by simpa using hc)]
theorem qbW (v:Int) (h0:0 ≤ v) (t Y:Tree) (hY:∀ i,Y.at_ i = (fitT v 8 sDescribeUserSCRAMCredentialsRequestF t).at_ i) (hU:Y.U = (fitT v 8 sDescribeUserSCRAMCredentialsRequestF t).U) (hi:t.i64s) (D:DV) (h:qaP v D Y):qiY v (decide (v ≥ qah)) 8 sDescribeUserSCRAMCredentialsRequestF t (qaQ D):=by
 unfold qaP at h
 obtain ⟨r0,rU,_⟩:=h
 refine ⟨rfl,fun i f y hf hy=>?_,?_⟩
 ·match i,hf,hy with
  | 0,hf,hy =>
   obtain rfl:=Option.some.inj hf
   obtain rfl:=Option.some.inj hy
   have e:=hY 0
   refine ⟨fun hp=>?_,fun hp=>?_⟩
   ·have hc:True:=trivial
    have r:=r0
    rw [e] at r
    obtain ⟨fn_,fl⟩:=qgZ (v:=v) (d:=7) (t:=t) (show sDescribeUserSCRAMCredentialsRequestF[0]? = _ from rfl)
    refine qkG (fun h_=>(r.1 (decide_eq_true h_.2)).trans fn_) r.2.1 fl fun i_ y_ hi_ hg_ hy_=>?_
    have q:=r.2.2 i_ hi_
    rw [hg_] at q
    exact qjC rfl (qbG v h0 y_ _ (fun i=>fit_10.1 i) fit_10.2 (qi3 (qlm hi 0) hy_) _ q)
   rw [qhb] at hp; simp at hp; omega
  | n_ + 1,hf,hy=>exact absurd (List.getElem?_eq_some_iff.1 hf).1 (by show ¬ n_ + 1 < 1; omega)
 show D.u = if (decide (v ≥ qah)) = true then qcl (qai sDescribeUserSCRAMCredentialsRequestF t.U) else []
 by_cases hc:(decide (v ≥ 0)) = true
 ·rw [if_pos (show (decide (v ≥ qah)) = true from hc),rU.1 hc,hU,qiq]
 rw [if_neg (show ¬ (decide (v ≥ qah)) = true from hc),rU.2 (by simpa using hc)]
set_option maxHeartbeats 4000000 in
theorem qb5 (v:Int) (T:Tree) {A2:Option Addr} {c2:Nat} {w:World} {F:Nat → Nat → Prop} (hs_:Octs w F A2 c2 (qag (IntKind.i16.wrap v) T)) (hc:qaO T) (hkey:T.ranged) (hroom:(qag (IntKind.i16.wrap v) T).length + 16 ≤ 1099511627776) :
  Calls Tryz.prog 24 #[.int .i64 v,.slice A2 (qag (IntKind.i16.wrap v) T).length c2] w (fun e w'=>∃ D cs,e = .returned (.tuple #[.agg cs.toArray,.bool true]) ∧ TreeR w' (Fp NoF w) cs (qaQ D) ∧ qaP (IntKind.i16.wrap v) D T ∧ Step w w' Nil):=by
 refine enter (n:=20) Tryz.func24 rfl Tryz.ntmps24 kz fun a hE=>?_
 have hW:=WOk.start w Nil
 have hsm2:=Slots.small hs_
 refine qad [0,1] kz ?_
 refine qal (qaU hW hE (d:=4) (cs:=[.int .i64 0,.slice none 0 0,.bool false,.slice none 0 0,.slice none 0 0]) kz fun b1 a2 w3 hb4 hz5 hF6 hW7 hE8=>?_)
 refine qaj [1] [] [(0,.v (.int .i64 v)),(1,.v (.slice A2 ((qag (IntKind.i16.wrap v) T).length) c2)),(4,.p 0 0)] hW7 hE8 fun a9 aT=>?_
 refine qae (qab ?_)
 refine qad [0,1] kz ?_
 refine qal (qbF aT (f:=53) (vs:=[]) (d:=7) (n':=3) kz Tryz.call53 Tryz.func53 rfl Tryz.ntmps53 kz fun cI aU=>?_)
 refine qao [] hW7 aU fun cJ aV=>?_
 refine qad [0] kz ?_
 refine qal (qaU hW7 aV (d:=1) (cs:=[.int .i16 0,.slice none 0 0,.map none]) kz fun aa cK cL ce cm cq ac aW=>?_)
 refine qae (qab ?_)
 refine qad [0] kz ?_
 refine qal (qbF aW (f:=86) (vs:=[.pointer (some ⟨aa,0,none⟩)]) (d:=2) (n':=2) kz Tryz.call86 Tryz.func86 rfl Tryz.ntmps86 kz fun cM aX=>?_)
 have aY:=aX.recast 0 (.v (.pointer (some ⟨aa,0,none⟩))) (.p 1 0) rfl rfl (Nat.le_of_ble_eq_true (n:=2) rfl)
 refine wp_skip ?_
 refine qbP aY ac.cells (v:=.tuple #[]) kz ?_
 refine ⟨_,rfl,fun cN aZ=>?_⟩
 have ba:EnvOk 3 [⟨b1,0,[.int .i64 0,.slice none 0 0,.bool false,.slice none 0 0,.slice none 0 0],true⟩,⟨aa,0,[.int .i16 0,.slice none 0 0,.map none],true⟩] [(2,.v (.tuple #[])),(1,.p 1 0)] _:=aZ.places (⟨rfl,rfl,⟨rfl,rfl,trivial⟩⟩)
 refine qae (qab ?_)
 refine qao [(0,.p 1 0)] ac ba fun cO bd=>?_
 refine wp_ret ?_
 refine qaH bd ac.cells (v:=.pointer (some ⟨aa,0,none⟩)) kz ?_
 refine ⟨_,rfl,fun cP bf=>?_⟩
 have bg:EnvOk 20 [⟨b1,0,[.int .i64 0,.slice none 0 0,.bool false,.slice none 0 0,.slice none 0 0],true⟩,⟨aa,0,[.int .i16 0,.slice none 0 0,.map none],true⟩] [(7,.v (.pointer (some ⟨aa,0,none⟩))),(0,.v (.int .i64 v)),(1,.v (.slice A2 ((qag (IntKind.i16.wrap v) T).length) c2)),(4,.p 0 0)] _:=bf.places (⟨rfl,rfl,trivial⟩)
 have bh:=bg.recast 7 (.v (.pointer (some ⟨aa,0,none⟩))) (.p 1 0) rfl rfl (Nat.le_of_ble_eq_true (n:=2) rfl)
 have bi:=bh.pick (ks:=[0,1,4,7]) (env':=[(0,.v (.int .i64 v)),(1,.v (.slice A2 ((qag (IntKind.i16.wrap v) T).length) c2)),(4,.p 0 0),(7,.p 1 0)]) kz
 refine qaj [1] [] [(0,.v (.int .i64 v)),(1,.v (.slice A2 ((qag (IntKind.i16.wrap v) T).length) c2)),(4,.p 0 0),(6,.p 1 0)] ac bi fun cQ bj=>?_
 refine qae (qab ?_)
 refine qad [0,1,2,3] kz ?_
 refine qaj [0,1,2] [3] [(1,.v (.slice A2 ((qag (IntKind.i16.wrap v) T).length) c2)),(4,.p 0 0),(6,.p 1 0),(8,.p 1 0),(10,.v (.int .i16 (IntKind.i16.wrap v)))] ac bj fun cR bk=>?_
 refine qal (qbF bk (f:=56) (vs:=[.pointer (some ⟨aa,0,none⟩),.int .i16 (IntKind.i16.wrap v)]) (d:=11) (n':=8) kz Tryz.call56 Tryz.func56 rfl Tryz.ntmps56 kz fun cS bn=>?_)
 have bo:=bn.recast 0 (.v (.pointer (some ⟨aa,0,none⟩))) (.p 1 0) rfl rfl (Nat.le_of_ble_eq_true (n:=2) rfl)
 refine qar [0,1,2,3,4] kz ?_
 refine qaj [0,1,2,3] [4] [(5,.v (.int .i16 (IntKind.i16.wrap v))),(7,.p 1 0)] ac bo fun cT bp=>?_
 refine qal (qaA ac bp (oi:=1) (cs:=[.int .i16 (IntKind.i16.wrap v),.slice none 0 0,.map none]) kz fun cU cr ao bq=>?_)
 refine qae ?_
 refine qbP bq ao.cells (v:=.tuple #[]) kz ?_
 refine ⟨_,rfl,fun cV bt=>?_⟩
 have bu:EnvOk 20 [⟨b1,0,[.int .i64 0,.slice none 0 0,.bool false,.slice none 0 0,.slice none 0 0],true⟩,⟨aa,0,[.int .i16 (IntKind.i16.wrap v),.slice none 0 0,.map none],true⟩] [(11,.v (.tuple #[])),(1,.v (.slice A2 ((qag (IntKind.i16.wrap v) T).length) c2)),(4,.p 0 0),(6,.p 1 0),(8,.p 1 0),(10,.v (.int .i16 (IntKind.i16.wrap v)))] _:=bt.places (⟨rfl,rfl,⟨rfl,rfl,trivial⟩⟩)
 refine qae (qab ?_)
 refine wp_seq ?_
 refine qad [0,1,2,3,4] kz ?_
 refine qaj [0,1] [2,3,4] [(4,.p 0 0),(6,.p 1 0),(12,.p 1 0),(13,.v (.slice A2 ((qag (IntKind.i16.wrap v) T).length) c2))] ao bu fun cW bw=>?_
 have ah:=ao.addNil 5 1
 have cu:=ao.frNil 5 1
 refine qal (qaY ah bw (k:=0) (d:=14) (t:=22) (e:=5) (size:=1) (bytes:=1) (A:=none) (As:=A2) (m0:=0) (c:=0) (m:=((qag (IntKind.i16.wrap v) T).length)) (cs:=c2) (xs:=[]) (news:=bc (qag (IntKind.i16.wrap v) T)) kz kz rfl (hs_.move ah.step nilM ah.imm).src (hs_.move ah.step nilM ah.imm).cap (by first | omega | (simp only [List.length_nil]; omega) | (simp; omega)) fun af ag cX cY cw bx bz=>?_)
 have bA:(⟨af,ag,5,1,0 + (qag (IntKind.i16.wrap v) T).length,[] ++ bc (qag (IntKind.i16.wrap v) T)⟩:Rw) = brow af ag 5 (qag (IntKind.i16.wrap v) T):=by rw [List.nil_append,Nat.zero_add]
 obtain ⟨ap,cz⟩:=bx.rowEq 0 [brow af ag 5 (qag (IntKind.i16.wrap v) T)] bA
 have bB:=EnvOk.pick bz (ks:=[4,6,12,13,14]) (env':=[(4,.p 0 0),(6,.p 1 0),(12,.p 1 0),(13,.v (.slice A2 ((qag (IntKind.i16.wrap v) T).length) c2)),(14,.v (.slice af (0 + (qag (IntKind.i16.wrap v) T).length) ag))]) kz
 have bC:=bB.cast (env':=[(4,.p 0 0),(6,.p 1 0),(12,.p 1 0),(13,.v (.slice A2 ((qag (IntKind.i16.wrap v) T).length) c2)),(14,.v (.slice af ((qag (IntKind.i16.wrap v) T).length) ag))]) (by simp only [List.length_append,List.length_cons,List.length_nil,Nat.zero_add])
 refine qal (qbF bC (f:=57) (vs:=[.pointer (some ⟨aa,0,none⟩),.slice af ((qag (IntKind.i16.wrap v) T).length) ag]) (d:=15) (n':=8) kz Tryz.call57 Tryz.func57 rfl Tryz.ntmps57 kz fun cZ bD=>?_)
 have bE:=bD.recast 0 (.v (.pointer (some ⟨aa,0,none⟩))) (.p 1 0) rfl rfl (Nat.le_of_ble_eq_true (n:=2) rfl)
 refine qao [(0,.p 1 0),(1,.v (.slice af ((qag (IntKind.i16.wrap v) T).length) ag))] ap bE fun c5 bF=>?_
 refine qad [0,1,2,3] kz ?_
 refine qaj [0,1] [2,3] [(5,.p 1 0),(6,.v (.slice af ((qag (IntKind.i16.wrap v) T).length) ag))] ap bF fun c6 bG=>?_
 have bH:=ap.giveUp (G:=NoF) 0 [] (show _ = some (brow af ag 5 (qag (IntKind.i16.wrap v) T)) from rfl) (by omega)
 obtain ⟨aH,cA⟩:=ap.cutR 0 []
 refine qal (qak bG (f:=87) (vs:=[.pointer (some ⟨aa,0,none⟩),.slice af ((qag (IntKind.i16.wrap v) T).length) ag,.bool false]) (d:=7) kz Tryz.call87 (qb3 (IntKind.i16.wrap v) T (Str.of aH 1 rfl) bH (qku 1 rfl) hc hkey) ?_)
 rintro e_ da ⟨ab,rfl,bI,bJ,bK,aI⟩
 obtain ⟨ae,cB,bL⟩:=aH.wrote 1 [⟨b1,0,[.int .i64 0,.slice none 0 0,.bool false,.slice none 0 0,.slice none 0 0],true⟩,⟨aa,0,[.int .i16 (IntKind.i16.wrap v),.slice ((ab.f 0).A) ((ab.f 0).l) ((ab.f 0).c),.map ab.m],true⟩] rfl aI bI
 have bM:=qbo _ (Step.refl _ Nil) nilM bL bJ
 refine ⟨_,rfl,fun db bN=>?_⟩
 have bO:=(EnvOk.places (tb':=[⟨b1,0,[.int .i64 0,.slice none 0 0,.bool false,.slice none 0 0,.slice none 0 0],true⟩,⟨aa,0,[.int .i16 (IntKind.i16.wrap v),.slice ((ab.f 0).A) ((ab.f 0).l) ((ab.f 0).c),.map ab.m],true⟩]) bN (show Pl [⟨b1,0,[.int .i64 0,.slice none 0 0,.bool false,.slice none 0 0,.slice none 0 0],true⟩,⟨aa,0,[.int .i16 (IntKind.i16.wrap v),.slice none 0 0,.map none],true⟩] [⟨b1,0,[.int .i64 0,.slice none 0 0,.bool false,.slice none 0 0,.slice none 0 0],true⟩,⟨aa,0,[.int .i16 (IntKind.i16.wrap v),.slice ((ab.f 0).A) ((ab.f 0).l) ((ab.f 0).c),.map ab.m],true⟩] from ⟨rfl,rfl,⟨rfl,rfl,trivial⟩⟩)).pk (env':=[(7,.v (.nilIface)),(5,.p 1 0),(6,.v (.slice af ((qag (IntKind.i16.wrap v) T).length) ag))])
 refine qaj [3] [] [(4,.v (.nilIface))] ae bO fun dc bP=>?_
 refine qae (qab ?_)
 refine wp_ret ?_
 refine qaH bP ae.cells (v:=.nilIface) kz ?_
 refine ⟨_,rfl,fun de bQ=>?_⟩
 have bR:EnvOk 20 [⟨b1,0,[.int .i64 0,.slice none 0 0,.bool false,.slice none 0 0,.slice none 0 0],true⟩,⟨aa,0,[.int .i16 (IntKind.i16.wrap v),.slice ((ab.f 0).A) ((ab.f 0).l) ((ab.f 0).c),.map ab.m],true⟩] [(15,.v (.nilIface)),(4,.p 0 0),(6,.p 1 0),(12,.p 1 0),(13,.v (.slice A2 ((qag (IntKind.i16.wrap v) T).length) c2)),(14,.v (.slice af ((qag (IntKind.i16.wrap v) T).length) ag))] _:=bQ.places (⟨rfl,rfl,⟨rfl,rfl,trivial⟩⟩)
 refine qaj [4] [] [(4,.p 0 0),(6,.p 1 0),(16,.v (.bool false))] ae bR fun df aJ=>?_
 refine qae (qab ?_)
 refine qap aJ (b:=false) kz rfl ?_
 refine wp_skip ?_
 refine qab ?_
 refine qad [0,1,2,3] kz ?_
 refine qaj [0] [1,2,3] [(4,.p 0 0),(18,.p 1 0)] ae aJ fun dg bS=>?_
 have aK:=bS.recast 18 (.p 1 0) (.v (.pointer (some ⟨aa,0,none⟩))) rfl rfl trivial
 have aL:=aK.pk (env':=[(4,.p 0 0),(18,.v (.pointer (some ⟨aa,0,none⟩)))])
 have av:=WOk.strOut (G:=NoF) [⟨b1,0,[.int .i64 0,.slice none 0 0,.bool false,.slice none 0 0,.slice none 0 0],true⟩] ae
 obtain ⟨aM,ai,ar⟩:=ae.cutB aL 1 [⟨b1,0,[.int .i64 0,.slice none 0 0,.bool false,.slice none 0 0,.slice none 0 0],true⟩] [(4,.p 0 0),(18,.v (.pointer (some ⟨aa,0,none⟩)))]
 have aN:=qbo _ ar.step immM ar.to' bM
 refine qal (qak aM (f:=58) (vs:=[.pointer (some ⟨aa,0,none⟩)]) (d:=19) kz Tryz.call58 (qb4 (IntKind.i16.wrap v) ab aa 0 _ _ av aN) ?_)
 rintro e_ cC ⟨bY,rfl,aO,aj⟩
 have ak:=aO.move (Step.refl _ Nil) nilM (ai.laid (G:=NoF) aj)
 obtain ⟨aw,ax,ay,az,aA,aB,aC,aD,aE,aF,aG,bZ,b8,al,bT,bU,cD,cE⟩:=ak.open_
 rw [al] at ak
 have bV:=bT.small
 have bW:=bU.small
 rw [al]
 refine ⟨_,rfl,fun cG aP=>?_⟩
 have aQ:=ai.next_nil aj
 have cd:=ai.frN aj
 refine qal (qaA aQ aP (oi:=0) (cs:=[.int .i64 aw,.slice aB ax.length aC,.bool ay,.slice aD az.length aE,.slice aF aA.length aG]) kz fun bX au am aR=>?_)
 refine qaj [3] [] [(4,.p 0 0),(5,.v (.bool true))] am aR fun cH aS=>?_
 refine qae (qab ?_)
 refine wp_ret ?_
 refine qaH aS am.cells (v:=.tuple #[.agg #[.int .i64 aw,.slice aB ax.length aC,.bool ay,.slice aD az.length aE,.slice aF aA.length aG],.bool true]) kz ?_
 exact ⟨ab,_,rfl,(show TreeR _ (Imm NoF w bX [⟨b1,0,[.int .i64 aw,.slice aB ax.length aC,.bool ay,.slice aD az.length aE,.slice aF aA.length aG],true⟩] []) _ (qaQ ab) from (ak.move au.step immM au.to')).move (Step.refl _ Nil) nilM qcN,bK,am.step⟩
theorem qb0 (v:Int) (T:Tree) (B:Bs) {A2:Option Addr} {c2:Nat} {w:World} {F:Nat → Nat → Prop} (hB:qag (IntKind.i16.wrap v) T = B) (hs_:Octs w F A2 c2 B) (hc:qaO T) (hkey:T.ranged) (hroom:B.length + 16 ≤ 1099511627776) :
  Calls Tryz.prog 24 #[.int .i64 v,.slice A2 B.length c2] w (fun e w'=>∃ D cs,e = .returned (.tuple #[.agg cs.toArray,.bool true]) ∧ TreeR w' (Fp NoF w) cs (qaQ D) ∧ qaP (IntKind.i16.wrap v) D T ∧ Step w w' Nil):=by
 subst hB
 exact qb5 v T hs_ hc hkey hroom
end Go.Proofs.YtfljkhecngpcmaaGreatDoor.ME