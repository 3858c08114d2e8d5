/- The texts of a claim, put together: the engine, the contracts, the law. Own work. -/
import Derived.Test.YtdlaobdadlmcdabDoorWt0P0
import Derived.Test.YtdlaobdadlmcdabDoorRows
import Derived.WalkKit
import Derived.ProofKit
import Derived.OpenShut
import Derived.JoinedCond
import Derived.WideKeyArgs
import Derived.ChangeSame
import Derived.Laws.BytesArg
import Derived.Test.YtdlaobdadlmcdabDoorProg
namespace Go.Proofs.YtdlaobdadlmcdabDoor.ME
open Go
open Go.RowKit
set_option linter.unusedVariables false
set_option linter.unusedSimpArgs false
set_option maxRecDepth 20000
theorem qdn:∀ {l:List Fld} {i:Nat} {f:Fld},l[i]? = some f → f.depth ≤ depths l
 | [],i,f,h=>by simp at h
 | a :: r,0,f,h=>by
  simp only [List.getElem?_cons_zero,Option.some.injEq] at h
  subst h
  exact Nat.le_max_left _ _
 | a :: r,i + 1,f,h=>by
  have:=qdn (l:=r) (i:=i) (f:=f) (by simpa using h)
  exact Nat.le_trans this (Nat.le_max_right _ _)
theorem qew (k x1 x2 x3 x4 x5 x6:Int) (l:List Fld):(Fld.mk k x1 x2 x3 x4 x5 x6 l).depth = depths l + 1:=by rw [Fld.depth]
section
variable {k x1 x2 x3 x4 x5 x6 n:Int} {l:List Fld} {s:Bs} {b:Bool} {ll:List Tree} {u:List (Int × Bs)}
theorem qco (h:k = 0):Fld.usual (.mk k x1 x2 x3 x4 x5 x6 l) (.mk n s b ll u) = (n % 2 == x5):=by
 subst h; rw [Fld.usual,if_pos rfl]; simp [Tree.N]; rfl
theorem qbl (h0:k ≠ 0) (h:k = 7):Fld.usual (.mk k x1 x2 x3 x4 x5 x6 l) (.mk n s b ll u) = (s.take 16).all (· == 0):=by
 rw [Fld.usual,if_neg h0,if_pos h]; rfl
theorem qbG (h0:k ≠ 0) (h7:k ≠ 7) (h:k = 8 ∨ k = 9) (hn:x3 ≥ 0):Fld.usual (.mk k x1 x2 x3 x4 x5 x6 l) (.mk n s b ll u) = b:=by
 rw [Fld.usual,if_neg h0,if_neg h7,if_pos h,if_pos hn]; rfl
theorem qbV (h0:k ≠ 0) (h7:k ≠ 7) (h:k = 8 ∨ k = 9) (hn:¬ x3 ≥ 0):Fld.usual (.mk k x1 x2 x3 x4 x5 x6 l) (.mk n s b ll u) = (((s.length:Nat):Int) == 0):=by
 rw [Fld.usual,if_neg h0,if_neg h7,if_pos h,if_neg hn,Bool.eq_iff_iff,decide_eq_true_iff,beq_iff_eq]
 show s.length = 0 ↔ _
 omega
theorem qbW (h0:k ≠ 0) (h7:k ≠ 7) (h8:k ≠ 8) (h9:k ≠ 9) (h:k = 11):Fld.usual (.mk k x1 x2 x3 x4 x5 x6 l) (.mk n s b ll u) = (((ll.length:Nat):Int) == 0):=by
 rw [Fld.usual,if_neg h0,if_neg h7,if_neg (by rintro (h | h); exact h8 h; exact h9 h),if_pos h,Bool.eq_iff_iff,decide_eq_true_iff,beq_iff_eq]
 show ll.length = 0 ↔ _
 omega
theorem qbM (h0:k ≠ 0) (h7:k ≠ 7) (h8:k ≠ 8) (h9:k ≠ 9) (h11:k ≠ 11) (h:k = 10):Fld.usual (.mk k x1 x2 x3 x4 x5 x6 l) (.mk n s b ll u) = (usuals l (.mk n s b ll u) 0 && (((qai l u).length:Nat):Int) == 0):=by
 rw [Fld.usual,if_neg h0,if_neg h7,if_neg (by rintro (h | h); exact h8 h; exact h9 h),if_neg h11,if_pos h]
 congr 1
 rw [Bool.eq_iff_iff,decide_eq_true_iff,beq_iff_eq]
 show (qai l u).length = 0 ↔ _
 omega
theorem qbq (h0:k ≠ 0) (h7:k ≠ 7) (h8:k ≠ 8) (h9:k ≠ 9) (h11:k ≠ 11) (h10:k ≠ 10):Fld.usual (.mk k x1 x2 x3 x4 x5 x6 l) (.mk n s b ll u) = decide (be (qbg k) n = be (qbg k) x5):=by
 rw [Fld.usual,if_neg h0,if_neg h7,if_neg (by rintro (h | h); exact h8 h; exact h9 h),if_neg h11,if_neg h10]; rfl
end
theorem qbj {s:Bs} {k:Nat} (h:∀ q,q < k → q < 16 → (((s.getD q 0).toNat:Nat):Int) = 0) (hk:s.length ≤ k):true = (s.take 16).all (· == 0):=by
 symm
 rw [List.all_eq_true]
 intro x hx
 obtain ⟨i,hi,rfl⟩:=List.getElem_of_mem hx
 rw [List.length_take] at hi
 have:=h i (by omega) (by omega)
 rw [List.getD_eq_getElem?_getD,List.getElem?_eq_getElem (show i < s.length by omega)] at this
 rw [List.getElem_take]
 simp only [Option.getD_some] at this
 have h0:s[i].toNat = 0:=by omega
 have:s[i] = 0:=UInt8.toNat.inj h0
 simp [this]
theorem qbf {s:Bs} {k:Nat} (hk:k < s.length) (h:k < 16) (hn:(((s.getD k 0).toNat:Nat):Int) ≠ 0):false = (s.take 16).all (· == 0):=by
 symm
 rw [← Bool.not_eq_true,List.all_eq_true]
 intro hall
 have:=hall s[k] (by
  rw [List.mem_iff_getElem?]
  exact ⟨k,by rw [List.getElem?_take,if_pos h,List.getElem?_eq_getElem hk]⟩)
 rw [List.getD_eq_getElem?_getD,List.getElem?_eq_getElem hk] at hn
 simp only [beq_iff_eq] at this
 rw [this] at hn
 exact hn rfl
theorem qbN {α:Type} {l:List α} {k:Nat} {x:α} (h:l[k]? = some x):l.drop k = x :: l.drop (k + 1):=by
 obtain ⟨hk,rfl⟩:=List.getElem?_eq_some_iff.1 h
 exact List.drop_eq_getElem_cons hk
theorem qgs {l:List Fld} {k:Nat} {f:Fld} {T:Tree} (h:l[k]? = some f) (hu:f.usual (T.at_ k) = true):usuals (l.drop k) T k = usuals (l.drop (k + 1)) T (k + 1):=by
 rw [qbN h]
 show (f.usual (T.at_ k) && usuals (l.drop (k + 1)) T (k + 1)) = _
 rw [hu,Bool.true_and]
theorem qgt {l:List Fld} {k:Nat} {f:Fld} {T:Tree} (h:l[k]? = some f) (hu:f.usual (T.at_ k) = false):usuals (l.drop k) T k = false:=by
 rw [qbN h]
 show (f.usual (T.at_ k) && usuals (l.drop (k + 1)) T (k + 1)) = _
 rw [hu,Bool.false_and]
theorem qbr {l:List Fld} {k:Nat} {T:Tree} (h:l.length ≤ k):usuals (l.drop k) T k = true:=by
 rw [List.drop_eq_nil_of_le h]; rfl
section
variable {W:Fld → Tree → Bs} {l:List Fld} {k:Nat} {a x1 x2 x3 x4 x5 x6 v:Int} {s:List Fld} {t:Tree} {m:Nat}
theorem qd1 (h:l[k]? = some (.mk a x1 x2 x3 x4 x5 x6 s)) (h1:x4 < 0) (h2:Fld.has (.mk a x1 x2 x3 x4 x5 x6 s) v = true):qaP W (l.drop k) v t k = W (.mk a x1 x2 x3 x4 x5 x6 s) (t.at_ k) ++ qaP W (l.drop (k + 1)) v t (k + 1):=by
 rw [qbN h,qaP,if_pos ⟨h1,h2⟩]
theorem qhB (h:l[k]? = some (.mk a x1 x2 x3 x4 x5 x6 s)) (h1:¬ x4 < 0):qaP W (l.drop k) v t k = qaP W (l.drop (k + 1)) v t (k + 1):=by
 rw [qbN h,qaP,if_neg (fun h=>h1 h.1),List.nil_append]
theorem qhC (h:l[k]? = some (.mk a x1 x2 x3 x4 x5 x6 s)) (h2:Fld.has (.mk a x1 x2 x3 x4 x5 x6 s) v = false):qaP W (l.drop k) v t k = qaP W (l.drop (k + 1)) v t (k + 1):=by
 rw [qbN h,qaP,if_neg (fun h=>by rw [h2] at h; cases h.2),List.nil_append]
theorem qfY (h:l.length ≤ k):qaP W (l.drop k) v t k = []:=by rw [List.drop_eq_nil_of_le h]; rfl
theorem qdo (h:l[k]? = some (.mk a x1 x2 x3 x4 x5 x6 s)) (h1:x4 = (m:Int)) (h2:Fld.usual (.mk a x1 x2 x3 x4 x5 x6 s) (t.at_ k) = false):tagB W (l.drop k) m t k = uv m ++ uv (W (.mk a x1 x2 x3 x4 x5 x6 s) (t.at_ k)).length ++ W (.mk a x1 x2 x3 x4 x5 x6 s) (t.at_ k) ++ tagB W (l.drop (k + 1)) m t (k + 1):=by
 rw [qbN h,tagB,if_pos ⟨h1,h2⟩]
theorem qio (h:l[k]? = some (.mk a x1 x2 x3 x4 x5 x6 s)) (h1:x4 ≠ (m:Int)):tagB W (l.drop k) m t k = tagB W (l.drop (k + 1)) m t (k + 1):=by
 rw [qbN h,tagB,if_neg (fun h=>h1 h.1),List.nil_append]
theorem qip (h:l[k]? = some (.mk a x1 x2 x3 x4 x5 x6 s)) (h2:Fld.usual (.mk a x1 x2 x3 x4 x5 x6 s) (t.at_ k) = true):tagB W (l.drop k) m t k = tagB W (l.drop (k + 1)) m t (k + 1):=by
 rw [qbN h,tagB,if_neg (fun h=>by rw [h2] at h; cases h.2),List.nil_append]
theorem qjw (h:l.length ≤ k):tagB W (l.drop k) m t k = []:=by rw [List.drop_eq_nil_of_le h]; rfl
theorem qjx (h:l[k]? = some (.mk a x1 x2 x3 x4 x5 x6 s)) (h1:x4 = (m:Int)) (h2:Fld.usual (.mk a x1 x2 x3 x4 x5 x6 s) (t.at_ k) = false):tagN W (l.drop k) m t k = 1 + tagN W (l.drop (k + 1)) m t (k + 1):=by
 rw [qbN h,tagN,if_pos ⟨h1,h2⟩]
theorem qiq (h:l[k]? = some (.mk a x1 x2 x3 x4 x5 x6 s)) (h1:x4 ≠ (m:Int)):tagN W (l.drop k) m t k = tagN W (l.drop (k + 1)) m t (k + 1):=by
 rw [qbN h,tagN,if_neg (fun h=>h1 h.1),Nat.zero_add]
theorem qir (h:l[k]? = some (.mk a x1 x2 x3 x4 x5 x6 s)) (h2:Fld.usual (.mk a x1 x2 x3 x4 x5 x6 s) (t.at_ k) = true):tagN W (l.drop k) m t k = tagN W (l.drop (k + 1)) m t (k + 1):=by
 rw [qbN h,tagN,if_neg (fun h=>by rw [h2] at h; cases h.2),Nat.zero_add]
theorem qjy (h:l.length ≤ k):tagN W (l.drop k) m t k = 0:=by rw [List.drop_eq_nil_of_le h]; rfl
theorem qlt (n:Nat):0 < (uv n).length:=by
 rw [uv]; split <;> simp
theorem qgu (W:Fld → Tree → Bs) (m:Nat) (t:Tree):∀ (l:List Fld) (i:Nat),tagN W l m t i ≤ (tagB W l m t i).length
 | [],i=>Nat.zero_le _
 | f :: r,i=>by
  have:=qgu W m t r (i + 1)
  rw [tagN,tagB,List.length_append]
  split
  ·have h1:=qlt m
   simp only [List.length_append]; omega
  simp; omega
theorem qgO (W:Fld → Tree → Bs) (l:List Fld) (t:Tree):∀ k,qaS W l t k ≤ (qaI W l t k).length
 | 0=>Nat.zero_le _
 | k + 1=>by
  have h1:=qgO W l t k
  have h2:=qgu W k t l 0
  rw [qaS,qaI,List.length_append]; omega
theorem qhD (W:Fld → Tree → Bs) (l:List Fld) (t:Tree) {i j:Nat} (h:i ≤ j):(qaI W l t i).length ≤ (qaI W l t j).length:=by
 induction j with
 | zero=>rw [Nat.le_zero.1 h]; omega
 | succ j ih =>
  rcases Nat.eq_or_lt_of_le h with he | he
  ·rw [he]; omega
  have:=ih (by omega)
  rw [qaI,List.length_append]; omega
end
theorem qe8 (W:Fld → Tree → Bs) (l:List Fld) (v:Int) (n:Int) (s:Bs) (b:Bool) (ll:List Tree) (u:List (Int × Bs)):qes W l v true (.mk n s b ll u) =
  qaP W l v (.mk n s b ll u) 0 ++ uv (qaS W l (.mk n s b ll u) (qaz l).toNat + (qai l u).length) ++ (qaI W l (.mk n s b ll u) (qaz l).toNat ++ qa0 (qai l u)):=by
 rw [qes,if_pos rfl,List.append_assoc]; rfl
theorem qis (W:Fld → Tree → Bs) (l:List Fld) (v:Int) (t:Tree):qes W l v false t = qaP W l v t 0:=by
 rw [qes]; simp
theorem qit (l:List Fld):IntKind.i64.wrap (qaz l) = (((qaz l).toNat:Nat):Int):=by
 have:=qdI l
 rw [wrap_i64 (by omega) (by omega)]; omega
theorem qdp {l:List (Int × Bs)} {k:Nat} {i:Int} {s:Bs} (h:l[k]? = some (i,s)):qa0 (l.take (k + 1)) = qa0 (l.take k) ++ (uv i.toNat ++ uv (qaE s).length ++ qaE s):=by
 unfold qa0; exact qcI h
theorem qfp {l:List (Int × Bs)} (k:Nat):(qa0 (l.take k)).length ≤ (qa0 l).length:=by
 unfold qa0; exact qcn l _ k
theorem qgP:∀ {l:List Tree} {i:Nat} {x:Tree},l[i]? = some x → x.depth ≤ deep l
 | [],i,x,h=>by simp at h
 | a :: r,0,x,h=>by
  simp only [List.getElem?_cons_zero,Option.some.injEq] at h
  subst h
  exact Nat.le_max_left _ _
 | a :: r,i + 1,x,h=>Nat.le_trans (qgP (l:=r) (i:=i) (by simpa using h)) (Nat.le_max_right _ _)
theorem qfZ (n:Int) (s:Bs) (b:Bool) (l:List Tree) (u:List (Int × Bs)):(Tree.mk n s b l u).depth = deep l + 1:=by rw [Tree.depth]
theorem qcv {α:Type} {l:List α} {k:Nat} {x:α} (h:l[k]? = some x):l.take (k + 1) = l.take k ++ [x]:=by rw [List.take_add_one,h]; rfl
section
variable {F:Nat → Nat → Prop} {w0 w:World} {tb:Tb} {rs:List Rw}
theorem qiu (hW:WOk w0 Nil w tb rs) {k:Nat} {r:Rw} (hk:rs[k]? = some r):∀ g,r.A.map (·.block) = some g → ∀ o,Fp F w0 g o:=by
 intro g hg o
 rcases hW.ownM k r hk g hg with h | h
 ·exact .inr h
 exact (h 0).elim
theorem qgQ (hW:WOk w0 Nil w tb rs) {k:Nat} {A:Option Addr} {c e n:Nat} {xs:List Value} {l:List Tree} {css:List (List Value)} (hk:rs[k]? = some ⟨A,c,e,5,n,xs⟩) (hT:Trees w (Imm F w0 w tb rs) xs l css) (hn:n = l.length) (hsm:l.length ≤ 1099511627776) :
  Slots w (Fp F w0) 5 A c l.length (fun i=>css.getD i []) ∧ ∀ (i:Nat) (x:Tree),l[i]? = some x → TreeR w (Fp F w0) (css.getD i []) x :=
 (hT.move (Step.refl w Nil) nilM qb9).slots (hW.own k _ hk) hn hsm (qiu hW hk)
theorem qkn (hW:WOk w0 Nil w tb rs) {k:Nat} {A:Option Addr} {c e n:Nat} {xs:List Value} {l:List (Int × Bs)} {css:List (List Value)} (hk:rs[k]? = some ⟨A,c,e,2,n,xs⟩) (hT:Tags w (Imm F w0 w tb rs) xs l css) (hn:n = l.length) (hsm:l.length ≤ 1099511627776):TagsR w (Fp F w0) A c l :=
 (hT.move (Step.refl w Nil) nilM qb9).slots (hW.own k _ hk) hn hsm (qiu hW hk)
theorem qjz (hW:WOk w0 Nil w tb rs) {A1 A2 A3:Option Addr} {c1 c2 c3 n2 n3:Nat} {n:Int} {s:Bs} {b:Bool} {l:List Tree} {u:List (Int × Bs)} {xs:Nat → List Value} {m:Nat} (hm:m = s.length) (hS:Octs w (Fp F w0) A1 c1 s) (hn2:n2 = l.length) (hL:Slots w (Fp F w0) 5 A2 c2 l.length xs ∧ ∀ (i:Nat) (x:Tree),l[i]? = some x → TreeR w (Fp F w0) (xs i) x)
  (hn3:n3 = u.length) (hU:TagsR w (Fp F w0) A3 c3 u) {t:Tree} (ht:t = .mk n s b l u):qem w0 F t (.returned (.agg #[.int .i64 n,.slice A1 m c1,.bool b,.slice A2 n2 c2,.slice A3 n3 c3])) w:=by
 subst hm; subst hn2; subst hn3; subst ht
 exact ⟨_,rfl,TreeR.mk xs hS hL.1 hL.2 hU,hW.step⟩
theorem qko {G:Nat → Nat → Prop}:∀ b o,G b o → b < w0.heap.size → Fp G w0 b o:=fun _ _ h _=>.inl h
end
theorem qf0 (W:Fld → Tree → Tree) (t:Tree):∀ {l:List Fld} {i k:Nat} {f:Fld},l[k]? = some f → (qgm W l t i)[k]? = some (W f (t.at_ (i + k)))
 | [],i,k,f,h=>by simp at h
 | a :: r,i,0,f,h=>by
  simp only [List.getElem?_cons_zero,Option.some.injEq] at h
  subst h; rfl
 | a :: r,i,k + 1,f,h=>by
  rw [qgm,List.getElem?_cons_succ,qf0 W t (l:=r) (i:=i + 1) (by simpa using h),show i + 1 + k = i + (k + 1) by omega]
theorem qjA {W:Fld → Tree → Tree} {t:Tree} {l:List Fld} {k:Nat} {f:Fld} (h:l[k]? = some f):(qgm W l t 0)[k]? = some (W f (t.at_ k)):=by
 have:=qf0 W t (i:=0) h
 rwa [Nat.zero_add] at this
def qb5 (u:List (Int × Bs)):List (Int × Bs):=u.map fun x=>(x.1,qaE x.2)
theorem qhE {u:List (Int × Bs)} {k:Nat} {i:Int} {s:Bs} (h:u[k]? = some (i,s)):(qb5 u)[k]? = some (i,qaE s):=by
 rw [qb5,List.getElem?_map,h]; rfl
theorem qdq (u:List (Int × Bs)):(qb5 u).length = u.length:=by rw [qb5,List.length_map]
theorem qe9:∀ {l:List Fld} {f:Fld},plains l → f ∈ l → f.plain
 | [],f,_,h=>by cases h
 | a :: r,f,hp,h=>by
  rcases List.mem_cons.1 h with rfl | h
  ·exact hp.1
  exact qe9 (l:=r) hp.2 h
theorem qiv {f:Fld} (h:f.plain):plains f.sub:=by cases f; exact h.2
def qiw (w:World):Ending → World → Prop:=fun en w'=>∃ b,en = .returned (.bool b) ∧ Step w w' Nil
structure Flds (w:World) (F:Nat → Nat → Prop) (xs:List Value) (l:List Fld) (css:List (List Value)):Prop where
 flat:Flat 8 xs css
 len:css.length = l.length
 each:∀ (i:Nat) (c:List Value) (x:Fld),css[i]? = some c → l[i]? = some x → FldR w F c x
theorem Flds.nil (w:World) (F:Nat → Nat → Prop):Flds w F [] [] []:=⟨Flat.nil 8,rfl,fun i c x h=>by simp at h⟩
theorem FldR.eight {w:World} {F:Nat → Nat → Prop} {cs:List Value} {t:Fld} (h:FldR w F cs t):cs.length = 8:=by
 obtain ⟨k,x1,x2,x3,x4,x5,x6,l,A,c,xs,rfl,rfl,_⟩:=h.open_; rfl
theorem FldR.one {w:World} {F:Nat → Nat → Prop} {cs:List Value} {t:Fld} (h:FldR w F cs t):∀ u ∈ cs,u.oneCell' = true:=by
 obtain ⟨k,x1,x2,x3,x4,x5,x6,l,A,c,xs,rfl,rfl,_⟩:=h.open_
 intro v hv
 simp only [List.mem_cons,List.not_mem_nil,or_false] at hv
 rcases hv with rfl | rfl | rfl | rfl | rfl | rfl | rfl | rfl <;> rfl
theorem Flds.snoc {w:World} {F:Nat → Nat → Prop} {xs:List Value} {l:List Fld} {css:List (List Value)} (h:Flds w F xs l css) {c:List Value} {x:Fld} (hx:FldR w F c x):Flds w F (xs ++ c) (l ++ [x]) (css ++ [c]):=by
 refine ⟨h.flat.snoc hx.eight,by simp [h.len],fun i d y hd hy=>?_⟩
 rcases qbx hd with ⟨h1,h2⟩ | ⟨h1,rfl⟩
 ·rcases qbx hy with ⟨_,h3⟩ | ⟨h3,_⟩
  ·exact h.each i d y h2 h3
  have:=h.len; omega
 rcases qbx hy with ⟨h3,_⟩ | ⟨_,rfl⟩
 ·have:=h.len; omega
 exact hx
theorem Flds.slots {w0 w:World} {tb:Tb} {rs:List Rw} {F:Nat → Nat → Prop} (hW:WOk w0 Nil w tb rs) {k e n:Nat} {A:Option Addr} {c:Nat} {xs:List Value} {l:List Fld} {css:List (List Value)} (hk:rs[k]? = some ⟨A,c,e,8,n,xs⟩) (h:Flds w (Fp F w0) xs l css) (hn:n = l.length) (hsm:l.length ≤ 1099511627776) :
  Slots w (Fp F w0) 8 A c l.length (fun i=>css.getD i []) ∧ ∀ (i:Nat) (x:Fld),l[i]? = some x → FldR w (Fp F w0) (css.getD i []) x:=by
 subst hn
 have ho:=hW.own k _ hk
 have h1:∀ u ∈ xs,u.oneCell' = true:=by
  intro v hv
  rw [h.flat.eq] at hv
  obtain ⟨c,hc,hv⟩:=List.mem_flatten.1 hv
  obtain ⟨i,hi,rfl⟩:=List.getElem_of_mem hc
  have hl:=h.len
  exact (h.each i _ _ (List.getElem?_eq_getElem hi) (List.getElem?_eq_getElem (show i < l.length by omega))).one v hv
 refine ⟨?_,fun i x hx=>?_⟩
 ·have hx:=h.flat
  simp only [Rw.v] at ho
  rw [← h.len] at ho ⊢
  exact hx.slots ho h1 (by rw [h.len]; exact hsm) (qiu hW hk)
 have hi:i < css.length:=by rw [h.len]; exact (List.getElem?_eq_some_iff.1 hx).1
 have:css.getD i [] = css[i]:=by rw [List.getD_eq_getElem?_getD,List.getElem?_eq_getElem hi]; rfl
 rw [this]
 exact h.each i _ x (List.getElem?_eq_getElem hi) hx
theorem qcw (w:World) (F:Nat → Nat → Prop):Slots w F 8 none 0 ([]:List Fld).length (fun _=>[]) ∧ ∀ (i:Nat) (x:Fld),([]:List Fld)[i]? = some x → FldR w F [] x :=
 ⟨Slots.nil w F 8 _,fun i x h=>by simp at h⟩
def qkT (w:World) (F:Nat → Nat → Prop) (l:List Fld) (x:Int):Ending → World → Prop:=fun en w'=>∃ A c,en = .returned (.agg #[.slice A l.length c,.int .i64 x]) ∧ FldsR w' (Fp F w) A c l ∧ Step w w' Nil
theorem qeL (y:Int × Bs) (r:List (Int × Bs)) (k:Int):qcW (y :: r) k = if y.1 < k then qcW r k + 1 else 0:=by
 unfold qcW
 rw [List.takeWhile_cons]
 by_cases h:y.1 < k
 ·simp [h]
 simp [h]
theorem qdA {least:Int} {y t:Int × Bs} {r:List (Int × Bs)} (h:y.1 < t.1):qbn least (y :: r) t = y :: qbn least r t:=by
 unfold qbn
 rw [qeL,if_pos h]
 simp only [List.length_cons,Nat.add_lt_add_iff_right,List.getD_cons_succ,List.take_succ_cons,List.drop_succ_cons,List.cons_append]
 split <;> rfl
theorem qdB {least:Int} {y t:Int × Bs} {r:List (Int × Bs)} (h:¬ y.1 < t.1):qbn least (y :: r) t = if t.1 < least ∨ y.1 = t.1 then y :: r else t :: y :: r:=by
 unfold qbn
 rw [qeL,if_neg h]
 simp only [List.length_cons,Nat.zero_lt_succ,List.getD_cons_zero,List.take_zero,List.drop_zero,List.nil_append,true_and]
theorem qfa {least:Int} {t:Int × Bs}:qbn least [] t = if t.1 < least then [] else [t]:=by
 unfold qbn
 simp [qcW]
theorem qed {least:Int} {t:Int × Bs}:∀ {out:List (Int × Bs)},∀ x ∈ qbn least out t,x = t ∨ x ∈ out
 | [],x,hx=>by
  rw [qfa] at hx
  split at hx
  ·cases hx
  exact .inl (List.mem_singleton.1 hx)
 | y :: r,x,hx=>by
  by_cases h:y.1 < t.1
  ·rw [qdA h] at hx
   rcases List.mem_cons.1 hx with rfl | hx
   ·exact .inr (List.mem_cons_self ..)
   rcases qed x hx with h1 | h1
   ·exact .inl h1
   exact .inr (List.mem_cons_of_mem _ h1)
  rw [qdB h] at hx
  split at hx
  ·exact .inr hx
  rcases List.mem_cons.1 hx with rfl | hx
  ·exact .inl rfl
  exact .inr hx
theorem qd2 {least:Int} {t:Int × Bs}:∀ {out:List (Int × Bs)},qcu out → qcu (qbn least out t)
 | [],_=>by
  rw [qfa]
  split
  ·exact List.Pairwise.nil
  exact List.pairwise_singleton _ _
 | y :: r,h=>by
  have h1:=@List.rel_of_pairwise_cons _ _ _ _ h
  have h2:=List.Pairwise.of_cons h
  by_cases hlt:y.1 < t.1
  ·rw [qdA hlt]
   refine List.pairwise_cons.2 ⟨fun z hz=>?_,qd2 h2⟩
   rcases qed z hz with rfl | hz
   ·exact hlt
   exact h1 hz
  rw [qdB hlt]
  split
  ·exact h
  rename_i hn
  refine List.pairwise_cons.2 ⟨fun z hz=>?_,h⟩
  rcases List.mem_cons.1 hz with rfl | hz
  ·omega
  have:=h1 hz; omega
theorem qeo {least:Int}:∀ {l out:List (Int × Bs)},qcu out → qcu (l.foldl (qbn least) out)
 | [],_,h=>h
 | x :: r,_,h=>qeo (l:=r) (qd2 h)
theorem qf1 {least:Int}:∀ {l out:List (Int × Bs)},(l.foldl (qbn least) out).length ≤ out.length + l.length
 | [],_=>Nat.le_refl _
 | x :: r,out=>by
  have h1:=qf1 (least:=least) (l:=r) (out:=qbn least out x)
  have h2:=qhA least out x
  rw [List.foldl_cons,List.length_cons]
  omega
theorem qf2 {least:Int}:∀ {l out:List (Int × Bs)},∀ x ∈ l.foldl (qbn least) out,x ∈ out ∨ x ∈ l
 | [],_,x,hx=>.inl hx
 | y :: r,out,x,hx=>by
  rcases qf2 (l:=r) x hx with h | h
  ·rcases qed x h with rfl | h
   ·exact .inr (List.mem_cons_self ..)
   exact .inl h
  exact .inr (List.mem_cons_of_mem _ h)
theorem qeM (l:List Fld) (u:List (Int × Bs)):qcu (qai l u):=qeo List.Pairwise.nil
theorem qf3 (l:List Fld) (u:List (Int × Bs)):(qai l u).length ≤ 32767:=by
 have h:=qf1 (least:=qaz l) (l:=u.take 32767) (out:=[])
 rw [List.length_take,List.length_nil] at h
 unfold qai
 omega
theorem qf4 {l:List Fld} {u:List (Int × Bs)}:∀ x ∈ qai l u,x ∈ u:=fun x hx=>by
 rcases qf2 x hx with h | h
 ·cases h
 exact List.mem_of_mem_take h
theorem qfq {u:List (Int × Bs)} (h:qcu u):qcu (qb5 u):=List.pairwise_map.2 h
theorem qgv (u:List (Int × Bs)):qdZ (qb5 u) = qa0 u:=by
 unfold qdZ qb5 qa0 tagR
 rw [List.flatMap_map]
theorem qjB (v:Int) (d:Nat) (l:List Fld) (t:Tree):(fitT v d l t).U = qb5 (qai l t.U):=by cases d <;> rfl
theorem qix {v:Int} {d:Nat} {l:List Fld} {t:Tree} {i:Nat} {f:Fld} (h:l[i]? = some f):(fitT v (d + 1) l t).at_ i = qcz (fitT v d) v f (t.at_ i):=by
 have h1:=qjA (W:=qcz (fitT v d) v) (t:=t) h
 have e:(fitT v (d + 1) l t).L = qgm (qcz (fitT v d) v) l t 0:=rfl
 rw [Tree.at_,e,List.getD_eq_getElem?_getD,h1]
 rfl
theorem qeY {v:Int} {d:Nat} {l:List Fld} {t:Tree} {i:Nat} {k x1 x2 x3 x4 x5 x6:Int} {s:List Fld} (h:l[i]? = some (.mk k x1 x2 x3 x4 x5 x6 s)) (hk:k < 8):((fitT v (d + 1) l t).at_ i).N = (t.at_ i).N:=by
 rw [qix h]
 have e1:k ≠ 11:=by omega
 have e2:¬ (k = 8 ∨ k = 9):=by omega
 have e3:k ≠ 10:=by omega
 simp [qcz,qbP,Fld.kind,e1,e2,e3,Tree.N]
theorem qf5 {v:Int} (h0:0 ≤ v) (h1:v < 32768):IntKind.i16.wrap v = v:=by
 have:IntKind.i16.wrap v = (v + 32768) % 65536 - 32768:=by simp [IntKind.wrap,IntKind.signed,IntKind.bits]; omega
 omega
theorem qkp (x:Int):be 8 (IntKind.i64.wrap x) = be 8 x:=by
 rw [IntKind.wrap_i64]
 simp only [be,List.cons.injEq,and_true]
 refine ⟨qa3 ?_,qa3 ?_,qa3 ?_,qa3 ?_,qa3 ?_,qa3 ?_,qa3 ?_,qa3 ?_⟩ <;> simp only [Int.reducePow] <;> omega
theorem qkU (x:Int):be 1 (IntKind.i8.wrap x) = be 1 x:=by
 have:IntKind.i8.wrap x = (x + 128) % 256 - 128:=by simp [IntKind.wrap,IntKind.signed,IntKind.bits]; omega
 rw [this]
 simp only [be,List.cons.injEq,and_true]
 refine qa3 ?_
 simp only [Int.reducePow]; omega
def qah (s:Bs):Bs:=(List.range 16).map fun i=>s.getD i 0
theorem qbS (s:Bs):(qah s).length = 16:=by simp [qah]
theorem qbX (s:Bs):qah s = qbb s:=by
 apply List.ext_getElem?
 intro i
 unfold qah qbb
 rw [List.getElem?_map,List.getElem?_append,List.length_take]
 by_cases h:i < 16
 ·rw [List.getElem?_range h]
  by_cases hs:i < s.length
  ·rw [if_pos (by omega),List.getElem?_take,if_pos h,Option.map_some,List.getD_eq_getElem?_getD,List.getElem?_eq_getElem hs]; rfl
  rw [if_neg (by omega),List.getElem?_replicate,if_pos (by omega),Option.map_some,List.getD_eq_getElem?_getD,List.getElem?_eq_none (by omega)]; rfl
 rw [List.getElem?_eq_none (by simp; omega)]
 by_cases hs:i < min 16 s.length
 ·omega
 rw [if_neg hs,List.getElem?_replicate,if_neg (by omega)]; rfl
theorem qkV {x m:Int} (h0:0 ≤ x) (h1:x ≤ 255) (hm:0 < m) (hm':m ≤ 32768):0 ≤ Int.tmod x m ∧ Int.tmod x m < 32768:=by
 rw [Int.tmod_eq_emod_of_nonneg h0]
 have g1:=Int.emod_nonneg x (show m ≠ 0 by omega)
 have g2:=Int.emod_lt_of_pos x hm
 omega
def usz:List (Int × Bs) → Nat
 | []=>0
 | x :: r=>(1 + (uv x.1.toNat).length + x.2.length) + usz r
def Tree.size:Tree → Nat
 | .mk _ s _ l u=>sizes l + (1 + s.length + usz u)
where sizes:List Tree → Nat
 | []=>0
 | t :: r=>t.size + sizes r
abbrev sizes:=Tree.size.sizes
theorem Tree.size_mk (n:Int) (s:Bs) (b:Bool) (l:List Tree) (u:List (Int × Bs)):(Tree.mk n s b l u).size = sizes l + (1 + s.length + usz u):=by rw [Tree.size]
theorem Tree.size_pos (t:Tree):1 ≤ t.size:=by cases t; rw [Tree.size_mk]; omega
theorem Tree.size_S (t:Tree):t.S.length ≤ t.size:=by cases t; rw [Tree.size_mk]; show List.length _ ≤ _; simp only [Tree.S]; omega
theorem Tree.size_U (t:Tree):usz t.U ≤ t.size:=by cases t; rw [Tree.size_mk]; simp only [Tree.U]; omega
theorem Tree.size_L (t:Tree):sizes t.L ≤ t.size:=by cases t; rw [Tree.size_mk]; simp only [Tree.L]; omega
theorem qf6:∀ {l:List Tree} {i:Nat} {x:Tree},l[i]? = some x → x.size ≤ sizes l
 | [],i,x,h=>by simp at h
 | t :: r,0,x,h=>by
  simp only [List.getElem?_cons_zero,Option.some.injEq] at h
  subst h
  exact Nat.le_add_right _ _
 | t :: r,i + 1,x,h=>Nat.le_trans (qf6 (l:=r) (i:=i) (by simpa using h)) (Nat.le_add_left _ _)
theorem qfb:∀ (l:List Tree) (k:Nat),sizes (l.take k) ≤ sizes l
 | [],k=>by simp
 | t :: r,0=>Nat.zero_le _
 | t :: r,k + 1=>Nat.add_le_add_left (qfb r k) _
theorem qiy:∀ (l:List Tree),l.length ≤ sizes l
 | []=>Nat.zero_le _
 | t :: r=>by
  have h1:=t.size_pos
  have h2:=qiy r
  show r.length + 1 ≤ t.size + sizes r
  omega
theorem qiz (t:Tree) (i:Nat):(t.at_ i).size ≤ t.size:=by
 unfold Tree.at_
 rw [List.getD_eq_getElem?_getD]
 cases h:t.L[i]? with
 | none =>
  have h1:=t.size_pos
  have:Tree.zero.size = 1:=by unfold Tree.zero; rw [Tree.size_mk]; rfl
  show Tree.zero.size ≤ _
  omega
 | some x=>exact Nat.le_trans (qf6 h) t.size_L
theorem qee:∀ (a b:List (Int × Bs)),usz (a ++ b) = usz a + usz b
 | [],b=>by simp [usz]
 | x :: r,b=>by
  show (1 + _ + _) + usz (r ++ b) = (1 + _ + _) + usz r + usz b
  rw [qee r b]; omega
theorem qkq (k:Int) (out:List (Int × Bs)) (t:Int × Bs):usz (qbn k out t) ≤ usz out + usz [t]:=by
 unfold qbn
 dsimp only
 split
 ·omega
 have h:usz out = usz (out.take (qcW out t.1)) + usz (out.drop (qcW out t.1)):=by rw [← qee,List.take_append_drop]
 rw [qee]
 show _ + (_ + usz (out.drop _)) ≤ _
 rw [h]
 simp only [usz]
 omega
theorem qgR (k:Int):∀ (l out:List (Int × Bs)),usz (l.foldl (qbn k) out) ≤ usz out + usz l
 | [],out=>by simp [usz]
 | t :: r,out=>by
  rw [List.foldl_cons]
  refine Nat.le_trans (qgR k r _) ?_
  have:=qkq k out t
  simp only [usz] at this ⊢
  omega
theorem qgS:∀ (l:List (Int × Bs)) (k:Nat),usz (l.take k) ≤ usz l
 | [],k=>by simp
 | t :: r,0=>Nat.zero_le _
 | t :: r,k + 1=>Nat.add_le_add_left (qgS r k) _
theorem qgw (l:List Fld) (u:List (Int × Bs)):usz (qai l u) ≤ usz u:=by
 unfold qai
 refine Nat.le_trans (qgR _ _ _) ?_
 have:=qgS u 32767
 simp only [usz]; omega
theorem qf7 (s:Bs):(qaE s).length ≤ s.length:=by simp only [qaE,List.length_take]; omega
theorem qf8:∀ (l:List (Int × Bs)),(qa0 l).length ≤ 10 * usz l
 | []=>by simp [qa0]
 | x :: r=>by
  have h1:=qf8 r
  have h2:=qdX (qaE x.2).length (by have:=qa8 x.2; omega)
  have h3:=qf7 x.2
  unfold qa0 at h1 ⊢
  rw [List.flatMap_cons,List.length_append,List.length_append,List.length_append]
  show _ ≤ 10 * ((1 + _ + _) + usz r)
  omega
theorem qiA:∀ (n:Nat),(uv n).length ≤ n + 1:=by
 intro n
 induction n using Nat.strongRecOn with
 | _ n ih =>
  by_cases h:n < 128
  ·rw [qb3 h]; simp
  rw [qdz (by omega),List.length_cons]
  have:=ih (n / 128) (by omega)
  omega
def Fld.cost:Fld → Nat
 | .mk _ _ _ _ _ _ _ sub=>64 + (3 * (((qaz sub).toNat + 1) * costs sub) + 64)
where costs:List Fld → Nat
 | []=>0
 | f :: r=>(20 + f.cost) + costs r
abbrev costs:=Fld.cost.costs
def qgx (l:List Fld):Nat:=3 * (((qaz l).toNat + 1) * costs l) + 64
theorem qkr (f:Fld):f.cost = 64 + qgx f.sub:=by
 cases f; rw [Fld.cost]; rfl
theorem qef (f:Fld) (r:List Fld):costs (f :: r) = (20 + f.cost) + costs r:=by
 show Fld.cost.costs (f :: r) = _
 rw [Fld.cost.costs]
theorem qf9 {p:Tree → Bs} {c:Nat} (hp:∀ t,(p t).length ≤ c * t.size) (kind:Int) (null flex:Bool) (t:Tree):(qaQ p kind null flex t).length ≤ (32 + c) * t.size:=by
 have h1:=t.size_pos
 have h2:=t.size_S
 have hm:(32 + c) * t.size = 32 * t.size + c * t.size:=Nat.add_mul _ _ _
 have hs:∀ (n:Nat),n ≤ 8 → (qau flex null (if null = true then ([]:Bs) else qaE t.S).length n ++ (if null = true then ([]:Bs) else qaE t.S)).length ≤ 32 * t.size:=by
  intro n hn
  have h3:(if null = true then ([]:Bs) else qaE t.S).length ≤ t.S.length:=by
   split
   ·exact Nat.zero_le _
   exact qf7 _
  have h5:(if null = true then ([]:Bs) else qaE t.S).length ≤ 32767:=by
   split
   ·exact Nat.zero_le _
   exact qa8 _
  have h4:=qdH flex null (if null = true then ([]:Bs) else qaE t.S).length n (by omega) hn
  rw [List.length_append]; omega
 unfold qaQ
 split
 ·show 1 ≤ _; omega
 split
 ·rw [qa4]; omega
 split
 ·have:=hs 2 (by omega); exact Nat.le_trans this (by omega)
 split
 ·have:=hs 4 (by omega); exact Nat.le_trans this (by omega)
 split
 ·have:=hp t; omega
 rw [be_length]; have:=qbh kind; omega
theorem qfc {g:Tree → Bs} {c:Nat} (hg:∀ t,(g t).length ≤ c * t.size):∀ (l:List Tree),(l.flatMap g).length ≤ c * sizes l
 | []=>by simp
 | t :: r=>by
  have h1:=hg t
  have h2:=qfc hg r
  rw [List.flatMap_cons,List.length_append]
  show _ ≤ c * (t.size + sizes r)
  rw [Nat.mul_add]; omega
theorem qiB {p:Tree → Bs} {c:Nat} (hp:∀ t,(p t).length ≤ c * t.size) (f:Fld) (v:Int) (flex:Bool) (t:Tree):(qc3 p f v flex t).length ≤ (64 + c) * t.size:=by
 have h1:=t.size_pos
 have h2:=t.size_L
 have hm:(64 + c) * t.size = 64 * t.size + c * t.size:=Nat.add_mul _ _ _
 have hm2:(32 + c) * t.size = 32 * t.size + c * t.size:=Nat.add_mul _ _ _
 unfold qc3
 dsimp only
 split
 ·rw [List.length_append]
  have hl:(if f.nul v t = true then ([]:List Tree) else qan t.L).length ≤ 32767:=by
   split
   ·exact Nat.zero_le _
   exact qcm _
  have h3:=qdH flex (f.nul v t) (if f.nul v t = true then ([]:List Tree) else qan t.L).length 4 (by omega) (by omega)
  have h4:=qfc (g:=fun x=>qaQ p f.of false flex x) (fun x=>qf9 hp f.of false flex x) (if f.nul v t = true then ([]:List Tree) else qan t.L)
  have h5:sizes (if f.nul v t = true then ([]:List Tree) else qan t.L) ≤ t.size:=by
   split
   ·exact Nat.zero_le _
   exact Nat.le_trans (qfb _ _) h2
  have h6:(32 + c) * sizes (if f.nul v t = true then ([]:List Tree) else qan t.L) ≤ (32 + c) * t.size:=Nat.mul_le_mul_left _ h5
  omega
 split
 ·split
  ·rw [be_length]; omega
  rw [List.length_append,be_length]
  have:=hp t
  omega
 have:=qf9 hp f.kind (f.nul v t) flex t
 omega
section
variable {w:Fld → Tree → Bs}
theorem qgT (v:Int) (t:Tree):∀ (l:List Fld) (i:Nat),(∀ f ∈ l,∀ t,(w f t).length ≤ f.cost * t.size) → (qaP w l v t i).length ≤ costs l * t.size
 | [],i,_=>by simp [qaP]
 | f :: r,i,h=>by
  have h1:=qgT v t r (i + 1) fun g hg=>h g (List.mem_cons_of_mem _ hg)
  have h2:f.cost * (t.at_ i).size ≤ f.cost * t.size:=Nat.mul_le_mul_left _ (qiz t i)
  have h3:=h f (List.mem_cons_self ..) (t.at_ i)
  rw [qaP,List.length_append,qef,Nat.add_mul,Nat.add_mul]
  have h4:(if f.tag < 0 ∧ f.has v = true then w f (t.at_ i) else []).length ≤ f.cost * t.size:=by
   split
   ·omega
   exact Nat.zero_le _
  omega
theorem qiC (t:Tree) (k:Nat) (hk:k < 18446744073709551616):∀ (l:List Fld) (i:Nat),(∀ f ∈ l,∀ t,(w f t).length ≤ f.cost * t.size) → (tagB w l k t i).length ≤ 2 * (costs l * t.size)
 | [],i,_=>by simp [tagB]
 | f :: r,i,h=>by
  have h1:=qiC t k hk r (i + 1) fun g hg=>h g (List.mem_cons_of_mem _ hg)
  have h2:f.cost * (t.at_ i).size ≤ f.cost * t.size:=Nat.mul_le_mul_left _ (qiz t i)
  have h3:=h f (List.mem_cons_self ..) (t.at_ i)
  have h5:=t.size_pos
  have h6:=qdX k hk
  have h7:=qiA (w f (t.at_ i)).length
  rw [tagB,List.length_append,qef,Nat.add_mul,Nat.add_mul]
  have h4:(if f.tag = k ∧ f.usual (t.at_ i) = false then uv k ++ uv (w f (t.at_ i)).length ++ w f (t.at_ i) else []).length ≤ 11 + 2 * (f.cost * t.size):=by
   split
   ·rw [List.length_append,List.length_append]; omega
   exact Nat.zero_le _
  omega
theorem qgU (t:Tree) {l:List Fld} (h:∀ f ∈ l,∀ t,(w f t).length ≤ f.cost * t.size):∀ (k:Nat),k < 18446744073709551616 → (qaI w l t k).length ≤ 2 * (k * (costs l * t.size))
 | 0,_=>by simp [qaI]
 | k + 1,hk=>by
  have h1:=qgU t h k (by omega)
  have h2:=qiC t k (by omega) l 0 h
  rw [qaI,List.length_append,Nat.add_mul]
  omega
theorem qjY (t:Tree) (k:Nat):∀ (l:List Fld) (i:Nat),tagN w l k t i ≤ costs l
 | [],i=>by simp [tagN]
 | f :: r,i=>by
  have h1:=qjY t k r (i + 1)
  rw [tagN,qef]
  split <;> omega
theorem qiD (t:Tree) (l:List Fld):∀ (k:Nat),qaS w l t k ≤ k * costs l
 | 0=>by simp [qaS]
 | k + 1=>by
  have h1:=qiD t l k
  have h2:=qjY (w:=w) t k l 0
  rw [qaS,Nat.add_mul]
  omega
theorem qiE:∀ (u:List (Int × Bs)),u.length ≤ usz u
 | []=>Nat.le_refl _
 | x :: r=>by
  have:=qiE r
  rw [List.length_cons]
  simp only [usz]; omega
theorem qgV {l:List Fld} (h:∀ f ∈ l,∀ t,(w f t).length ≤ f.cost * t.size) (hk:(qaz l).toNat < 18446744073709551616) (v:Int) (flex:Bool) (t:Tree):(qes w l v flex t).length ≤ qgx l * t.size:=by
 have h0:=t.size_pos
 have h1:=qgT v t l 0 h
 have h2:=qgU t h _ hk
 have h3:=qiD (w:=w) t l (qaz l).toNat
 have h4:=qf8 (qai l t.U)
 have h5:=qgw l t.U
 have h6:=t.size_U
 have h7:=qiE (qai l t.U)
 have h8:=qiA (qaS w l t (qaz l).toNat + (qai l t.U).length)
 have e1:qgx l * t.size = 3 * (((qaz l).toNat + 1) * (costs l * t.size)) + 64 * t.size:=by
  unfold qgx
  rw [Nat.add_mul,Nat.mul_assoc,Nat.mul_assoc]
 have e2:((qaz l).toNat + 1) * (costs l * t.size) = (qaz l).toNat * (costs l * t.size) + costs l * t.size:=by rw [Nat.add_mul,Nat.one_mul]
 have e3:(qaz l).toNat * costs l ≤ (qaz l).toNat * (costs l * t.size):=Nat.mul_le_mul_left _ (Nat.le_mul_of_pos_right _ h0)
 unfold qes
 rw [List.length_append,e1,e2]
 split
 ·rw [List.length_append,List.length_append]; omega
 simp only [List.length_nil]; omega
end
theorem qga (l:List Fld):(qaz l).toNat < 18446744073709551616:=by
 have h:=qdI l
 omega
theorem qgW:∀ (d:Nat) (l:List Fld) (v:Int) (flex:Bool) (t:Tree),(qaV d l v flex t).length ≤ qgx l * t.size
 | 0,l,v,flex,t=>qgV (fun f _ t=>by simp) (qga l) v flex t
 | d + 1,l,v,flex,t=>qgV (fun f _ t=>by
   rw [qkr]
   exact qiB (fun t=>qgW d f.sub v flex t) f v flex t) (qga l) v flex t
theorem qiF (d:Nat) (l:List Fld) (x v:Int) (t:Tree):(qcl d l x v t).length ≤ qgx l * t.size:=qgW d l v _ t
end Go.Proofs.YtdlaobdadlmcdabDoor.ME
namespace Go.Proofs.YtdlaobdadlmcdabDoor.ME
open Go
open Go.Proofs.YtdlaobdadlmcdabDoor.Rows (uptoBulk uptoBulkAll)
set_option linter.unusedVariables false
set_option linter.unusedSimpArgs false
def Tree.i64s:Tree → Prop
 | .mk n _ _ l _=>(-9223372036854775808 ≤ n ∧ n ≤ 9223372036854775807) ∧ i64ss l
where i64ss:List Tree → Prop
 | []=>True
 | t :: r=>t.i64s ∧ i64ss r
abbrev i64ss:=Tree.i64s.i64ss
theorem qgb:∀ {l:List Tree},i64ss l → ∀ x ∈ l,x.i64s
 | [],_,x,h=>by cases h
 | t :: r,hr,x,h=>by
  rcases List.mem_cons.1 h with rfl | h
  ·exact hr.1
  exact qgb (l:=r) hr.2 x h
theorem qgX:∀ {l:List Tree},(∀ x ∈ l,x.i64s) → i64ss l
 | [],_=>trivial
 | t :: r,h=>⟨h t List.mem_cons_self,qgX (l:=r) fun x hx=>h x (List.mem_cons_of_mem _ hx)⟩
theorem qfr {H:Type} (d:DataW H):1 ≤ uptoBulk d:=by cases d <;> first | (unfold uptoBulk; omega) | (rename_i l; cases l <;> (unfold uptoBulk; omega))
theorem qfs {H:Type}:∀ (l:List (DataW H)),l.length ≤ uptoBulkAll l
 | []=>Nat.zero_le _
 | d :: r=>by
  have h1:=qfr d
  have h2:=qfs r
  unfold uptoBulkAll
  rw [List.length_cons]; omega
theorem qex {H:Type}:∀ {l:List (DataW H)} {d:DataW H},d ∈ l → uptoBulk d ≤ uptoBulkAll l
 | [],d,h=>by cases h
 | a :: r,d,h=>by
  unfold uptoBulkAll
  rcases List.mem_cons.1 h with rfl | h
  ·omega
  have:=qex h; omega
theorem qgc {α β:Type} {f:α → Option β}:∀ {l:List α} {r:List β},l.mapM f = some r → r.length = l.length ∧ ∀ (i:Nat) (a:α),l[i]? = some a → ∃ b,f a = some b ∧ r[i]? = some b
 | [],r,h=>by
  simp only [List.mapM_nil,Option.pure_def,Option.some.injEq] at h
  subst h
  exact ⟨rfl,fun i a h=>by simp at h⟩
 | x :: l,r,h=>by
  rw [List.mapM_cons] at h
  cases hx:f x with
  | none=>rw [hx] at h; cases h
  | some y =>
   rw [hx] at h
   cases hl:l.mapM f with
   | none=>rw [hl] at h; cases h
   | some ys =>
    rw [hl] at h
    obtain rfl:y :: ys = r:=Option.some.inj h
    obtain ⟨h1,h2⟩:=qgc hl
    refine ⟨by simp [h1],fun i a ha=>?_⟩
    cases i with
    | zero =>
     simp only [List.getElem?_cons_zero,Option.some.injEq] at ha
     subst ha
     exact ⟨y,hx,rfl⟩
    | succ i=>simpa using h2 i a (by simpa using ha)
theorem qeg {w:World} {a:Addr} {n:Nat} {cs:List Value} (h:w.cells? 0 a n = some cs):cs.length = n ∧ ∀ (j:Nat) (v:Value),cs[j]? = some v → w.cell? (a.add j) = some v:=by
 unfold World.cells? at h
 rw [if_pos (Nat.zero_le _)] at h
 obtain ⟨h1,h2⟩:=qgc h
 rw [List.length_range] at h1
 refine ⟨h1,fun j v hj=>?_⟩
 have hjn:j < n:=by rw [← h1]; exact (List.getElem?_eq_some_iff.1 hj).1
 obtain ⟨b,hb,hc⟩:=h2 j j (by rw [List.getElem?_range hjn])
 rw [hj] at hc
 rw [hb,Option.some.inj hc]
theorem qhF {w:World} {a:Addr} {v:Value} (h:w.cell? a = some v):a.spot = none:=by
 unfold World.cell? at h
 split at h
 ·split at h
  ·cases h
  rename_i hs; simpa using hs
 cases h
theorem qjC {w:World} {size n c:Nat} {ad:Addr} {cs:Nat → List Value} (hle:n ≤ c) (hsm:n ≤ 1099511627776) (hsz:0 < size) (h:∀ i,i < n → (cs i).length = size ∧ ∀ (j:Nat) (v:Value),(cs i)[j]? = some v → w.cell? ((ad.add (i * size)).add j) = some v):Slots w (fun _ _=>True) size (some ad) c n cs:=by
 refine ⟨hle,hsm,(fun hA=>by cases hA),fun ad' hA hn=>?_⟩
 obtain rfl:=Option.some.inj hA
 have h0:=h 0 hn
 have hp:ad.spot = none:=by
  have h1:=qhF (h0.2 0 _ (List.getElem?_eq_getElem (by omega)))
  unfold Addr.add at h1
  split at h1
  ·split at h1 <;> simp_all
  simp_all
 obtain ⟨b,o,sp⟩:=ad
 simp only at hp
 subst hp
 refine ⟨b,o,rfl,fun i hi=>⟨(h i hi).1,fun j v hj=>⟨trivial,?_⟩⟩⟩
 have:=(h i hi).2 j v hj
 rwa [qbm,qbm] at this
theorem qeN {α:Type} {R:Nat → α → Prop}:∀ (n:Nat),(∀ i,i < n → ∃ x,R i x) → ∃ l:List α,l.length = n ∧ ∀ i x,l[i]? = some x → R i x
 | 0,_=>⟨[],rfl,fun i x h=>by simp at h⟩
 | n + 1,h=>by
  obtain ⟨l,h1,h2⟩:=qeN n fun i hi=>h i (by omega)
  obtain ⟨x,hx⟩:=h n (by omega)
  refine ⟨l ++ [x],by simp [h1],fun i y hy=>?_⟩
  rcases qbc hy with hy | ⟨rfl,rfl⟩
  ·exact h2 i y hy
  rw [h1]; exact hx
theorem qeh {α:Type} {w:World} {a:Addr} {len cap size:Nat} (R:Nat → List Value → α → Prop) (hle:len ≤ cap) (hsm:len ≤ 1099511627776) (hsz:0 < size)
  (hex:∀ i,i < len → ∃ ci:List Value,ci.length = size ∧ (∀ (j:Nat) (v:Value),ci[j]? = some v → w.cell? ((a.add (i * size)).add j) = some v) ∧ ∃ x,R i ci x) :
  ∃ l:List α,l.length = len ∧ ∃ xs:Nat → List Value,Slots w (fun _ _=>True) size (some a) cap len xs ∧ ∀ i x,l[i]? = some x → R i (xs i) x:=by
 obtain ⟨l,h1,h2⟩:=qeN (R:=fun i (z:List Value × α)=>z.1.length = size ∧ (∀ (j:Nat) (v:Value),z.1[j]? = some v → w.cell? ((a.add (i * size)).add j) = some v) ∧ R i z.1 z.2) len (fun i hi=>by
  obtain ⟨ci,g1,g2,x,g3⟩:=hex i hi
  exact ⟨(ci,x),g1,g2,g3⟩)
 have hget:∀ i,i < len → ∃ z,l[i]? = some z:=fun i hi=>⟨_,List.getElem?_eq_getElem (by omega)⟩
 have hxs:∀ i z,l[i]? = some z → ((l.map (·.1)).getD i []) = z.1:=fun i z hz=>by
  rw [List.getD_eq_getElem?_getD,List.getElem?_map,hz]; rfl
 refine ⟨l.map (·.2),by simp [h1],fun i=>(l.map (·.1)).getD i [],qjC hle hsm hsz (fun i hi=>?_),fun i x hx=>?_⟩
 ·obtain ⟨z,hz⟩:=hget i hi
  rw [hxs i z hz]
  exact ⟨(h2 i z hz).1,(h2 i z hz).2.1⟩
 rw [List.getElem?_map] at hx
 cases hz:l[i]? with
 | none=>rw [hz] at hx; cases hx
 | some z =>
  rw [hz] at hx
  simp only [Option.map_some,Option.some.injEq] at hx
  subst hx
  dsimp only
  rw [hxs i z hz]
  exact (h2 i z hz).2.2
def qey (P:Program) (t:TypeId):Option (List (TypeId × Nat)) :=
 match P.underlying t with
 | some (.struct fs)=>some (fs.toList.map fun f=>(f.type,f.offset))
 | _=>none
theorem qeO {P:Program} {t:TypeId} {l:List (TypeId × Nat)} (h:qey P t = some l):∃ fs:Array Field,P.underlying t = some (.struct fs) ∧ fs.size = l.length ∧ ∀ (i:Nat) ty off,l[i]? = some (ty,off) → ∃ f,fs[i]? = some f ∧ f.type = ty ∧ f.offset = off:=by
 unfold qey at h
 split at h
 ·rename_i fs hfs
  simp only [Option.some.injEq] at h
  subst h
  refine ⟨fs,hfs,by simp,fun i ty off hi=>?_⟩
  rw [List.getElem?_map] at hi
  cases hf:fs.toList[i]? with
  | none=>rw [hf] at hi; cases hi
  | some f =>
   rw [hf] at hi
   simp only [Option.map_some,Option.some.injEq,Prod.mk.injEq] at hi
   exact ⟨f,by simpa using hf,hi.1,hi.2⟩
 cases h
structure TreeTys (P:Program) (T TL TU TG TB TI TO TK T8:TypeId):Prop where
 tree:qey P T = some [(TI,0),(TB,1),(TO,2),(TL,3),(TU,4)]
 tag:qey P TG = some [(TK,0),(TB,1)]
 trees:P.underlying TL = some (.slice T)
 tags:P.underlying TU = some (.slice TG)
 bytes:P.underlying TB = some (.slice T8)
 int:P.underlying TI = some (.int .i64)
 bool:P.underlying TO = some .bool
 key:P.underlying TK = some (.int .u32)
 byte:P.underlying T8 = some (.int .u8)
 cells:(P.cellsOf T,P.cellsOf TL,P.cellsOf TU,P.cellsOf TG,P.cellsOf TB,P.cellsOf TI,P.cellsOf TO,P.cellsOf TK,P.cellsOf T8) = (5,1,1,2,1,1,1,1,1)
section
variable {H:Type} {enc:TypeId × Value → H} {P:Program} {W:World} {sp:Nat → Bool} {hd:Bool} {T TL TU TG TB TI TO TK T8:TypeId}
theorem qft {α β:Type} {x:Option α} {f:α → Option β} {l:List β} {i:Nat} (h:x.bind f = l[i]?) (hi:i < l.length):∃ a b,x = some a ∧ f a = some b ∧ l[i]? = some b:=by
 rw [List.getElem?_eq_getElem hi] at h
 obtain ⟨a,ha,hb⟩:=Option.bind_eq_some_iff.1 h
 exact ⟨a,_,ha,hb,List.getElem?_eq_getElem hi⟩
theorem qei {elems spare:List (DataW H)} {n:Nat} (h:uptoBulk (.slice elems spare) ≤ n):elems.length ≤ n ∧ ∀ d ∈ elems,uptoBulk d ≤ n:=by
 unfold uptoBulk at h
 have h1:=qfs elems
 exact ⟨by omega,fun d hd=>by have:=qex hd; omega⟩
theorem qgY {parts:List (DataW H)} {n:Nat} (h:uptoBulk (.agg parts) ≤ n):∀ d ∈ parts,uptoBulk d ≤ n:=by
 unfold uptoBulk at h
 exact fun d hd=>by have:=qex hd; omega
theorem qgd {fuel:Nat} {cs:List Value} {x:DataW H × List MemPlace} (hT:TreeTys P T TL TU TG TB TI TO TK T8) (h:DataW.trod enc P W 0 sp hd fuel TB cs = some x) (hb:uptoBulk x.1 ≤ 1048576) :
  ∃ A c s,cs = [.slice A (s:Bs).length c] ∧ Octs W (fun _ _=>True) A c s ∧ s.length ≤ uptoBulk x.1:=by
 have hc:=hT.cells
 simp only [Prod.mk.injEq] at hc
 rcases DataW.trod_slice hT.bytes h with ⟨rfl,rfl⟩ | ⟨a,len,cap,elems,rest,n,_,rfl,rfl,_,hle,_,hlen,he,_⟩
 ·exact ⟨none,0,[],rfl,Octs.nil _ _,Nat.zero_le _⟩
 have hlb:=qfs (elems.map (·.1))
 rw [List.length_map] at hlb
 have hbl:=qei hb
 simp only [List.length_map] at hbl
 obtain ⟨l,hl,xs,h1,h2⟩:=qeh (w:=W) (a:=a) (len:=len) (cap:=cap) (size:=1) (fun _ ci (q:UInt8)=>ci = [qae q]) hle (by omega) (by omega) (fun i hi=>by
  obtain ⟨ci,y,g1,g2,g3⟩:=qft (he i hi) (by omega)
  obtain ⟨g4,g5⟩:=qeg g1
  rw [hc.2.2.2.2.2.2.2.2] at g4 g5
  refine ⟨ci,g4,g5,?_⟩
  obtain ⟨v,rfl,_,hw⟩:=DataW.trod_int hT.byte g2
  have hx:0 ≤ v ∧ v ≤ 255:=by simpa [Lit.wf,IntKind.min,IntKind.max,IntKind.signed,IntKind.bits] using hw
  refine ⟨UInt8.ofNat v.toNat,?_⟩
  unfold qae
  rw [UInt8.toNat_ofNat']
  congr 2
  omega)
 refine ⟨some a,cap,l,by rw [hl],?_,by rw [hl,← hlen]; dsimp only; unfold uptoBulk; omega⟩
 unfold Octs
 rw [hl]
 refine ⟨h1.le,h1.small,h1.none_,fun ad hA hn=>?_⟩
 obtain ⟨b,o,e1,e2⟩:=h1.some_ ad hA hn
 refine ⟨b,o,e1,fun i hi=>?_⟩
 have hli:l[i]? = some (l.getD i 0):=by
  rw [List.getD_eq_getElem?_getD,List.getElem?_eq_getElem (by omega)]; rfl
 have:=h2 i _ hli
 rw [← this]
 exact e2 i hi
theorem qdL {n:Nat} {fs:Array Field} {xs:List (DataW H × List MemPlace)} {cs:List Value} {l:List (TypeId × Nat)} (hx:∀ (i:Nat) (f:Field),fs[i]? = some f → DataW.trod enc P W 0 sp hd n f.type ((cs.drop f.offset).take (P.cellsOf f.type)) = xs[i]?)
  (hl:∀ (i:Nat) ty off,l[i]? = some (ty,off) → ∃ f,fs[i]? = some f ∧ f.type = ty ∧ f.offset = off) {i:Nat} {ty off:Nat} (hi:l[i]? = some (ty,off)) (h1:P.cellsOf ty = 1) (hxl:i < xs.length) {c:Value} (hc:cs[off]? = some c) :
  ∃ y,xs[i]? = some y ∧ DataW.trod enc P W 0 sp hd n ty [c] = some y:=by
 obtain ⟨f,hf,rfl,rfl⟩:=hl i _ _ hi
 have:=hx i f hf
 rw [h1] at this
 refine ⟨xs[i],List.getElem?_eq_getElem hxl,?_⟩
 rw [List.getElem?_eq_getElem hxl] at this
 have e:(cs.drop f.offset).take 1 = [c]:=by
  rw [List.take_one,List.head?_drop,hc]; rfl
 rw [e] at this
 exact this
theorem qgZ:∀ (l:List (Int × Bs)) {elems:List (DataW H × List MemPlace)},l.length = elems.length → (∀ (i:Nat) (x:Int × Bs) (y:DataW H × List MemPlace),l[i]? = some x → elems[i]? = some y → 1 + (uv x.1.toNat).length + x.2.length ≤ 8 * uptoBulk y.1) → usz l ≤ 8 * uptoBulkAll (elems.map (·.1))
 | [],_,_,_=>Nat.zero_le _
 | x :: r,[],h,_=>by cases h
 | x :: r,y :: es,h,hp=>by
  have h1:=qgZ r (elems:=es) (by simpa using h) fun i x' y' hx hy=>hp (i + 1) x' y' (by simpa using hx) (by simpa using hy)
  have h2:=hp 0 x y rfl rfl
  simp only [usz,List.map_cons,uptoBulkAll]
  omega
theorem qfd:∀ (l:List Tree) {elems:List (DataW H × List MemPlace)},l.length = elems.length → (∀ (i:Nat) (x:Tree) (y:DataW H × List MemPlace),l[i]? = some x → elems[i]? = some y → x.size ≤ 8 * uptoBulk y.1) → sizes l ≤ 8 * uptoBulkAll (elems.map (·.1))
 | [],_,_,_=>Nat.zero_le _
 | x :: r,[],h,_=>by cases h
 | x :: r,y :: es,h,hp=>by
  have h1:=qfd r (elems:=es) (by simpa using h) fun i x' y' hx hy=>hp (i + 1) x' y' (by simpa using hx) (by simpa using hy)
  have h2:=hp 0 x y rfl rfl
  show x.size + sizes r ≤ _
  simp only [List.map_cons,uptoBulkAll]
  omega
theorem qiG {y0 y1 y2 y3 y4:DataW H × List MemPlace} {xs:List (DataW H × List MemPlace)} (h:xs.length = 5) (h0:xs[0]? = some y0) (h1:xs[1]? = some y1) (h2:xs[2]? = some y2) (h3:xs[3]? = some y3) (h4:xs[4]? = some y4):uptoBulk (.agg (xs.map (·.1))) = uptoBulk y0.1 + uptoBulk y1.1 + uptoBulk y2.1 + uptoBulk y3.1 + uptoBulk y4.1 + 1:=by
 match xs,h with
 | [a,b,c,d,e],_ =>
  simp only [List.getElem?_cons_zero,List.getElem?_cons_succ,Option.some.injEq] at h0 h1 h2 h3 h4
  subst h0; subst h1; subst h2; subst h3; subst h4
  have e:uptoBulk (.agg [a.1,b.1,c.1,d.1,e.1]) = uptoBulkAll [a.1,b.1,c.1,d.1,e.1] + 1:=by rw [uptoBulk]
  simp only [List.map_cons,List.map_nil]
  rw [e]
  simp only [uptoBulkAll]
  omega
theorem qiH {fuel:Nat} {cs:List Value} {x:DataW H × List MemPlace} (hT:TreeTys P T TL TU TG TB TI TO TK T8) (h:DataW.trod enc P W 0 sp hd fuel TU cs = some x) (hb:uptoBulk x.1 ≤ 1048576) :
  ∃ A c u,cs = [.slice A (u:List (Int × Bs)).length c] ∧ TagsR W (fun _ _=>True) A c u ∧ usz u ≤ 8 * uptoBulk x.1:=by
 have hc:=hT.cells
 simp only [Prod.mk.injEq] at hc
 rcases DataW.trod_slice hT.tags h with ⟨rfl,rfl⟩ | ⟨a,len,cap,elems,rest,n,_,rfl,rfl,_,hle,_,hlen,he,_⟩
 ·exact ⟨none,0,[],rfl,TagsR.nil _ _,Nat.zero_le _⟩
 have hbl:=qei hb
 simp only [List.length_map] at hbl
 obtain ⟨l,hl,xs,h1,h2⟩:=qeh (w:=W) (a:=a) (len:=len) (cap:=cap) (size:=2) (fun i ci (q:Int × Bs)=>((∃ A' c',ci = [.int .u32 q.1,.slice A' q.2.length c'] ∧ Octs W (fun _ _=>True) A' c' q.2) ∧ 0 ≤ q.1 ∧ q.1 < 4294967296) ∧ ∀ y,elems[i]? = some y → 1 + (uv q.1.toNat).length + q.2.length ≤ 8 * uptoBulk y.1) hle (by omega) (by omega) (fun i hi=>by
  obtain ⟨ci,y,g1,g2,g3⟩:=qft (he i hi) (by omega)
  obtain ⟨g4,g5⟩:=qeg g1
  rw [hc.2.2.2.1] at g4 g5
  refine ⟨ci,g4,g5,?_⟩
  obtain ⟨fs,hfs,hsz,hl⟩:=qeO hT.tag
  obtain ⟨xs,m,_,rfl,_,hxl,hx⟩:=DataW.trod_struct hfs g2
  rw [hsz] at hxl
  have hxl':xs.length = 2:=hxl
  match ci,g4 with
  | [c0,c1],_ =>
   obtain ⟨y0,_,k0⟩:=qdL hx hl (i:=0) rfl hc.2.2.2.2.2.2.2.1 (by omega) (c:=c0) rfl
   obtain ⟨y1,e1,k1⟩:=qdL hx hl (i:=1) rfl hc.2.2.2.2.1 (by omega) (c:=c1) rfl
   obtain ⟨v,hv,_,hw⟩:=DataW.trod_int hT.key k0
   have hx:0 ≤ v ∧ v ≤ 4294967295:=by simpa [Lit.wf,IntKind.min,IntKind.max,IntKind.signed,IntKind.bits] using hw
   have hby:uptoBulk y1.1 ≤ 1048576:=by
    have hm:DataW.agg (xs.map (·.1)) ∈ elems.map (·.1):=by
     have:=List.mem_of_getElem? g3
     exact List.mem_map.2 ⟨_,this,rfl⟩
    exact qgY (hbl.2 _ hm) _ (List.mem_map.2 ⟨_,List.mem_of_getElem? e1,rfl⟩)
   obtain ⟨A',c',s,hs,ho,hsl⟩:=qgd hT k1 hby
   simp only [List.cons.injEq,and_true] at hv hs
   subst hv; subst hs
   refine ⟨(v,s),⟨⟨A',c',rfl,ho⟩,by dsimp only; omega,by dsimp only; omega⟩,fun y hy=>?_⟩
   rw [g3] at hy
   obtain rfl:=Option.some.inj hy
   have h5:=qfO v.toNat 5 (by omega) (by omega)
   have h6:uptoBulk y1.1 ≤ uptoBulkAll (xs.map (·.1)):=qex (List.mem_map.2 ⟨_,List.mem_of_getElem? e1,rfl⟩)
   dsimp only
   unfold uptoBulk
   omega)
 refine ⟨some a,cap,l,by rw [hl],⟨xs,by rw [hl]; exact h1,fun i k s hi=>(h2 i (k,s) hi).1⟩,?_⟩
 have:=qgZ l (elems:=elems) (by rw [hl,hlen]) (fun i x y hx hy=>(h2 i x hx).2 y hy)
 dsimp only
 unfold uptoBulk
 omega
theorem qhG (hT:TreeTys P T TL TU TG TB TI TO TK T8):∀ (fuel:Nat) (cs:List Value) (x:DataW H × List MemPlace),DataW.trod enc P W 0 sp hd fuel T cs = some x → uptoBulk x.1 ≤ 1048576 → ∃ t,TreeR W (fun _ _=>True) cs t ∧ t.size ≤ 8 * uptoBulk x.1 ∧ t.i64s:=by
 intro fuel
 induction fuel using Nat.strongRecOn with
 | _ fuel ih =>
 intro cs x h hb
 have hc:=hT.cells
 simp only [Prod.mk.injEq] at hc
 obtain ⟨fs,hfs,hsz,hl⟩:=qeO hT.tree
 obtain ⟨xs,m,rfl,rfl,hcl,hxl,hx⟩:=DataW.trod_struct hfs h
 rw [hsz] at hxl
 have hxl':xs.length = 5:=hxl
 rw [hc.1] at hcl
 have hbe:∀ {i:Nat} {y:DataW H × List MemPlace},xs[i]? = some y → uptoBulk y.1 ≤ 1048576:=fun e=>qgY hb _ (List.mem_map.2 ⟨_,List.mem_of_getElem? e,rfl⟩)
 match cs,hcl with
 | [c0,c1,c2,c3,c4],_ =>
  obtain ⟨y0,e0,k0⟩:=qdL hx hl (i:=0) rfl hc.2.2.2.2.2.1 (by omega) (c:=c0) rfl
  obtain ⟨y1,e1,k1⟩:=qdL hx hl (i:=1) rfl hc.2.2.2.2.1 (by omega) (c:=c1) rfl
  obtain ⟨y2,e2,k2⟩:=qdL hx hl (i:=2) rfl hc.2.2.2.2.2.2.1 (by omega) (c:=c2) rfl
  obtain ⟨y3,e3,k3⟩:=qdL hx hl (i:=3) rfl hc.2.1 (by omega) (c:=c3) rfl
  obtain ⟨y4,e4,k4⟩:=qdL hx hl (i:=4) rfl hc.2.2.1 (by omega) (c:=c4) rfl
  obtain ⟨v,hv,_,hw0⟩:=DataW.trod_int hT.int k0
  have hx0:-9223372036854775808 ≤ v ∧ v ≤ 9223372036854775807:=by simpa [Lit.wf,IntKind.min,IntKind.max,IntKind.signed,IntKind.bits] using hw0
  obtain ⟨A1,d1,s,hs,ho,hz1⟩:=qgd hT k1 (hbe e1)
  obtain ⟨b,hbo,_⟩:=DataW.trod_bool hT.bool k2
  obtain ⟨A3,d3,u,hu,hur,hz3⟩:=qiH hT k4 (hbe e4)
  have hll:∃ A2 d2 l xs2,[c3] = [.slice A2 (l:List Tree).length d2] ∧ Slots W (fun _ _=>True) 5 A2 d2 l.length xs2 ∧ (∀ i x,l[i]? = some x → TreeR W (fun _ _=>True) (xs2 i) x) ∧ sizes l ≤ 8 * uptoBulk y3.1 ∧ i64ss l:=by
   rcases DataW.trod_slice hT.trees k3 with ⟨e,_⟩ | ⟨a,len,cap,elems,rest,n,rfl,e,rfl,_,hle,_,hlen,he,_⟩
   ·exact ⟨none,0,[],fun _=>[],e,Slots.nil _ _ _ _,(fun i x h=>by simp at h),Nat.zero_le _,trivial⟩
   have hbl:=qei (hbe e3)
   simp only [List.length_map] at hbl
   obtain ⟨l,hl,xs2,h1,h2⟩:=qeh (w:=W) (a:=a) (len:=len) (cap:=cap) (size:=5) (fun i ci (q:Tree)=>(TreeR W (fun _ _=>True) ci q ∧ q.i64s) ∧ ∀ y,elems[i]? = some y → q.size ≤ 8 * uptoBulk y.1) hle (by omega) (by omega) (fun i hi=>by
    obtain ⟨ci,y,g1,g2,g3⟩:=qft (he i hi) (by omega)
    obtain ⟨g4,g5⟩:=qeg g1
    rw [hc.1] at g4 g5
    obtain ⟨q,q1,q2,q3⟩:=ih n (by omega) ci y g2 (hbl.2 _ (List.mem_map.2 ⟨_,List.mem_of_getElem? g3,rfl⟩))
    exact ⟨ci,g4,g5,q,⟨q1,q3⟩,fun y' hy=>by
     rw [g3] at hy
     obtain rfl:=Option.some.inj hy
     exact q2⟩)
   refine ⟨some a,cap,l,xs2,by rw [e,hl],by rw [hl]; exact h1,fun i x hx=>(h2 i x hx).1.1,?_,qgX fun x hx=>by
    obtain ⟨i,hi,rfl⟩:=List.getElem_of_mem hx
    exact (h2 i _ (List.getElem?_eq_getElem hi)).1.2⟩
   have:=qfd l (elems:=elems) (by rw [hl,hlen]) (fun i x y hx hy=>(h2 i x hx).2 y hy)
   dsimp only
   unfold uptoBulk
   omega
  obtain ⟨A2,d2,l,xs2,hl2,hsl,hxl2,hz2,hi2⟩:=hll
  simp only [List.cons.injEq,and_true] at hv hs hbo hl2 hu
  subst hv; subst hs; subst hbo; subst hl2; subst hu
  refine ⟨_,.mk xs2 ho hsl hxl2 hur,?_,hx0,hi2⟩
  have h5:=qiG hxl' e0 e1 e2 e3 e4
  have p0:=qfr y0.1
  have p1:=qfr y2.1
  dsimp only at h5 ⊢
  rw [Tree.size_mk,h5]
  omega
end
section
variable {H:Type} {enc:TypeId × Value → H} {P:Program}
open Go.ChangeShapes Go.WideShapes Go.ChangeAt Go.RowKit
theorem Step.same {W W':World} (h:Step W W' Nil) {b:Nat} (hb:b < W.heap.size):W'.heap[b]? = W.heap[b]?:=(h.keeps b hb).1 fun _ hn=>hn
theorem Step.sameAt {W W':World} (h:Step W W' Nil) {p:MemPlace} (hp:p.block < W.heap.size):W.sameAt W' p:=by
 cases p with
 | cell b o=>exact World.cell_of_heap (h.same hp)
 | map b=>exact h.same hp
theorem Step.keptBut {W W':World} (h:Step W W' Nil) (may:MemPlace → Prop):W.keptBut W' may:=by
 refine ⟨h.os,h.output,fun i hi=>?_⟩
 rw [h.same hi]
 cases hx:W.heap[i]? with
 | none=>rfl
 | some x =>
  cases x with
  | cells c t f=>exact ⟨rfl,rfl,rfl,fun _ _=>rfl⟩
  | map es clock=>exact .inr ⟨rfl,rfl⟩
  | _=>rfl
theorem qd3 (hl:laidOutB P = true) {W W':World} (hs:Step W W' Nil):∀ {ts:List TypeId} {vs:List Value} {ds:List (DataW H)} {ps:List MemPlace},(∀ t ∈ ts,P.readableRec t = true ∧ t < P.types.size) → DataW.TrodAll enc P W 0 (fun _=>true) true ts vs ds ps → (∀ p ∈ ps,p.block < W.heap.size) →
  DataW.TrodAll enc P W' 0 (fun b=>decide (b < W.heap.size)) true ts vs ds ps
 | [],vs,ds,ps,_,h,_=>by
  obtain ⟨rfl,rfl,rfl⟩:=trodAll_nil h
  exact rfl
 | t :: ts,vs,ds,ps,ht,h,hp=>by
  obtain ⟨v,vs',d,ds',p,q,rfl,rfl,rfl,h1,h2⟩:=trodAll_cons h
  have h0:=ht t (List.mem_cons_self ..)
  refine ⟨p,q,?_,qd3 hl hs (fun t' h'=>ht t' (List.mem_cons_of_mem _ h')) h2 (fun x hx=>hp x (List.mem_append_right _ hx)),rfl⟩
  exact Go.WideElems.Trod_stays hl h0.1 h0.2 h1 (fun x hx=>hs.sameAt (hp x (List.mem_append_left _ hx))) (fun x hx=>decide_eq_true (hp x (List.mem_append_left _ hx)))
theorem qiI {f:Func} {s:ChangeSpec} {W W':World} {args:Array Value} {v:Value} {ds gs:List (DataW H)} {before:List MemPlace} {handsOn:Bool}
  (hW:DataW.Whole enc P f.params.toList s.vars false W args.toList ds gs before) (hs:Step W W' Nil) (hl:laidOutB P = true) (hpar:∀ t ∈ f.params.toList,P.readableRec t = true ∧ t < P.types.size)
  (hv:s.vars = []) (hargs:(s.fn H (ds ++ gs)).args = ds) (hvars:(s.fn H (ds ++ gs)).vars = [])
  (hres:∀ (b:Nat) (sp:Nat → Bool) (hd:Bool),DataW.TrodAll enc P W' b sp hd f.resultTypes.toList (v.resultList f.resultTypes.size) (s.fn H (ds ++ gs)).results []) :
  s.post enc P f false true handsOn false W args v W':=by
 have hlt:∀ p ∈ before,p.block < W.heap.size:=fun p hp=>hW.lt p hp
 obtain ⟨p,q,hA,hV,rfl,_,_⟩:=id hW
 rw [hv] at hV
 obtain ⟨rfl,rfl⟩:=trodVars_none hV
 refine ⟨ds,[],_,[],p,[],hW,hres _ _ _,?_,?_,hs.keptBut _,fun h=>by cases h⟩
 ·rw [hargs]
  exact qd3 hl hs hpar hA (fun x hx=>hlt x (List.mem_append_left _ hx))
 rw [hvars,hv]; exact rfl
end
end Go.Proofs.YtdlaobdadlmcdabDoor.ME
namespace Go.Proofs.YtdlaobdadlmcdabDoor.ME
open Go
open Go.RowKit
set_option linter.unusedVariables false
set_option linter.unusedSimpArgs false
set_option maxRecDepth 20000
section
variable {P:Program} {ops:Array Oper} {Q:Exit → Act → World → Prop} {n:Nat} {tb:Tb} {env:Env} {rs:List Rw} {w0:World} {M:Nat → Nat → Prop} {a:Act} {w:World}
theorem qgy {i d:Nat} {t u e e':TypeId} {bytes b c:Nat} {A:Option Addr} {s:Bs} {F:Nat → Nat → Prop} {zs:Array Value} {N:Act → World → Prop} (hE:EnvOk n tb env a)
  (h:qjq tb env ops n i = some (t,u,.slice (some ⟨b,0,none⟩) 16 16,.slice A s.length c,d)) (ht:qcb P t = some (e,1,bytes)) (hb:w.heap[b]? = some (.cells zs e' (0,0))) (hz:zs = ((List.range 16).map fun _=>qae 0).toArray)
  (hs:Octs w F A c s)
  (K:∀ a' w',Step w w' (fun b' _=>b' = b) → At w' b 0 ((List.range 16).map fun i=>qae (s.getD i 0)) → (∀ j,w'.frozen? ⟨b,j,none⟩ = false) → (∃ v,EnvOk n tb ((d,.v v) :: env) a') → N a' w'):wpOp P ops Q i N a w:=by
 obtain ⟨ht',inf,z,hi,hz',hzs,hs1,rfl,hsz,hbp⟩:=qbL ht
 obtain ⟨op,ho,hd,hrun⟩:=qgJ (P:=P) (w:=w) hE h
 have hsz':(P.info? e).map (·.size) = some 1:=by rw [hi]; simp [hs1]
 have hb16:zs.size = 16:=by rw [hz]; simp
 by_cases h0:min s.length 16 = 0
 ·have hr:=fun ty=>run_copy_none (P:=P) w t u ty e (some ⟨b,0,none⟩) A 16 16 s.length c ht' hsz' h0
  refine qaY hE ho (v:=.int .i64 0) (w':=w) (fun o hop=>hrun o _ _ hop (hr o.type)) ?_
  have hs0:s = []:=List.eq_nil_of_length_eq_zero (by omega)
  subst hs0
  refine K _ w (Step.refl _ _) (fun j v hj=>?_) (fun j=>by simp [World.frozen?,hb]) ⟨_,hE.put hd (.v _) trivial⟩
  subst hz
  rw [Nat.zero_add]
  simp only [World.cell?,hb]
  simpa using hj
 have hsrc:=hs.src
 have hA:∃ ad,A = some ad:=by
  cases A with
  | none=>have:=hsrc.nil rfl; omega
  | some ad=>exact ⟨ad,rfl⟩
 obtain ⟨ad,rfl⟩:=hA
 have hcl:((bc s).take (min s.length 16)).length = min s.length 16:=by rw [List.length_take]; simp
 have hr:=fun ty=>run_copy_row P w t u ty e b 0 16 16 ad s.length c zs e' ((bc s).take (min s.length 16)) ht' hsz' hb hcl (fun j v hj=>hsrc.cells ad rfl j v (by
  rw [List.getElem?_take] at hj
  split at hj
  ·exact hj
  cases hj)) (by rw [hcl]; omega) (fun v hv=>qcH s v (List.mem_of_mem_take hv))
 have hw:=setRow_heap w b zs (zs.toList.take 0 ++ (bc s).take (min s.length 16) ++ zs.toList.drop (0 + ((bc s).take (min s.length 16)).length)).toArray e' _ hb
 refine qaY hE ho (v:=.int .i64 ((min s.length 16:Nat):Int)) (w':=w.setRow b (zs.toList.take 0 ++ (bc s).take (min s.length 16) ++ zs.toList.drop (0 + ((bc s).take (min s.length 16)).length)).toArray) (fun o hop=>hrun o _ _ hop (by rw [hr o.type]; simp only [hcl]; rfl)) ?_
 refine K _ _ (Step.setRow w b _) (fun j v hj=>?_) (fun j=>by unfold World.frozen?; rw [hw]; simp) ⟨_,hE.put hd (.v _) trivial⟩
 rw [Nat.zero_add j]
 unfold World.cell?
 rw [hw]
 simp only [Option.isSome_none,Bool.false_eq_true,if_false]
 have hj16:j < 16:=by
  have:=(List.getElem?_eq_some_iff.1 hj).1
  simpa using this
 rw [List.getElem?_map,List.getElem?_range hj16] at hj
 simp only [Option.map_some,Option.some.injEq] at hj
 subst hj
 simp only [List.take_zero,List.nil_append,Nat.zero_add]
 rw [← Array.getElem?_toList,List.toList_toArray,List.getElem?_append,hcl]
 by_cases hjs:j < min s.length 16
 ·rw [if_pos hjs,List.getElem?_take,if_pos hjs,bc,List.getElem?_map,List.getElem?_eq_getElem (by omega),List.getD_eq_getElem?_getD,List.getElem?_eq_getElem (by omega)]
  rfl
 rw [if_neg hjs,List.getElem?_drop,hz,List.toList_toArray,List.getElem?_map,List.getElem?_range (by omega),List.getD_eq_getElem?_getD,List.getElem?_eq_none (by omega)]
 rfl
theorem qeP {i d:Nat} {cs:List Value} {N:Act → World → Prop} (hE:EnvOk n tb env a) (h:qfH P env ops n i = some (d,cs))
  (k:∀ t a',EnvOk n tb ((d,.v (.pointer (some ⟨w.heap.size,0,none⟩))) :: env) a' → N a' (w.alloc (.cells cs.toArray t))):wpOp P ops Q i N a w:=by
 unfold qfH at h
 split at h
 ·rename_i t d' ho
  split at h
  ·rename_i inf hi
   split at h
   ·rename_i z hz
    simp only [Option.some.injEq,Prod.mk.injEq] at h
    obtain ⟨rfl,rfl⟩:=h
    have hd:d' < n:=(qbe hE ho).choose_spec.2.2.2.1
    refine qaY hE ho (v:=.pointer (some ⟨w.heap.size,0,none⟩)) (w':=w.alloc (.cells z.cells t)) ?_ ?_
    ·intro o hop
     unfold execOp
     rw [hop]
     simp only [Instr.alloc,Sem.run_bind,run_zeroValue' hi hz,Result.andThen_ok,newVar,newRow,run_newObj,Sem.run_pure]
     rfl
    have:=k t _ (hE.put hd (.v (.pointer (some ⟨w.heap.size,0,none⟩))) trivial)
    rw [Array.toArray_toList] at this
    exact this
   cases h
  cases h
 cases h
end
theorem uv0:uv 0 = [0]:=by rw [uv]; rfl
def lst (t:Tree):List Tree:=if t.null then [] else t.L
def tagC (p:Bool):Nat:=if p = true then 1 else 0
def tagP (p:Bool) (k:Nat) (E:Bs):Bs:=if p = true then uv k ++ (uv E.length ++ E) else []
theorem qej (p:Bool):tagC p ≤ 1:=by unfold tagC; split <;> omega
theorem qiJ {p:Bool} (h:p = false) (k:Nat) (E:Bs):tagP p k E = []:=by subst h; rfl
theorem qg0 {p:Bool} (h:p = true) (k:Nat) (E:Bs):tagP p k E = uv k ++ (uv E.length ++ E):=by subst h; rfl
theorem qiK {p:Bool} (h:p = false):tagC p = 0:=by subst h; rfl
theorem qdr {p:Bool} (h:p = true):tagC p = 1:=by subst h; rfl
def qa6 (w:World) (F:Nat → Nat → Prop) (D:DV):Prop:=(True) ∧ (True) ∧ (True) ∧ (True) ∧ (True) ∧ (Slots w F 16 (D.f 5).A (D.f 5).c (D.f 5).l (fun i=>[qae (((D.f 5).f i).o.getD 0 0),qae (((D.f 5).f i).o.getD 1 0),qae (((D.f 5).f i).o.getD 2 0),qae (((D.f 5).f i).o.getD 3 0),qae (((D.f 5).f i).o.getD 4 0),qae (((D.f 5).f i).o.getD 5 0),qae (((D.f 5).f i).o.getD 6 0),qae (((D.f 5).f i).o.getD 7 0),qae (((D.f 5).f i).o.getD 8 0),qae (((D.f 5).f i).o.getD 9 0),qae (((D.f 5).f i).o.getD 10 0),qae (((D.f 5).f i).o.getD 11 0),qae (((D.f 5).f i).o.getD 12 0),qae (((D.f 5).f i).o.getD 13 0),qae (((D.f 5).f i).o.getD 14 0),qae (((D.f 5).f i).o.getD 15 0)]) ∧ (D.f 5).l ≤ 1000000 ∧ ∀ i,i < (D.f 5).l → ((D.f 5).f i).o.length = 16) ∧ (Slots w F 16 (D.f 6).A (D.f 6).c (D.f 6).l (fun i=>[qae (((D.f 6).f i).o.getD 0 0),qae (((D.f 6).f i).o.getD 1 0),qae (((D.f 6).f i).o.getD 2 0),qae (((D.f 6).f i).o.getD 3 0),qae (((D.f 6).f i).o.getD 4 0),qae (((D.f 6).f i).o.getD 5 0),qae (((D.f 6).f i).o.getD 6 0),qae (((D.f 6).f i).o.getD 7 0),qae (((D.f 6).f i).o.getD 8 0),qae (((D.f 6).f i).o.getD 9 0),qae (((D.f 6).f i).o.getD 10 0),qae (((D.f 6).f i).o.getD 11 0),qae (((D.f 6).f i).o.getD 12 0),qae (((D.f 6).f i).o.getD 13 0),qae (((D.f 6).f i).o.getD 14 0),qae (((D.f 6).f i).o.getD 15 0)]) ∧ (D.f 6).l ≤ 1000000 ∧ ∀ i,i < (D.f 6).l → ((D.f 6).f i).o.length = 16) ∧ MapR w F D.m D.u ∧ D.u.length ≤ 1000000 ∧ (∀ x ∈ D.u,x.2.length < 4294967296) ∧ True
def qak (v:Int) (T:Tree):Bs:=(be 4 ((IntKind.i32.wrap (T.at_ 0).N))) ++ ((be 8 ((T.at_ 1).N)) ++ ((be 8 ((T.at_ 2).N)) ++ (([by8 (if (decide ((T.at_ 3).N % 2 = 1)) then 1 else 0)]) ++ (([by8 (if (decide ((T.at_ 4).N % 2 = 1)) then 1 else 0)]) ++ ((if (decide (v ≥ 0)) = true then (uv (tagC (decide (0 < (lst (T.at_ 5)).length)) + (tagC (decide (0 < (lst (T.at_ 6)).length)) + T.U.length))) ++ ((tagP (decide (0 < (lst (T.at_ 5)).length)) 0 ((if (decide (v ≥ 0)) = true then (uv ((lst (T.at_ 5)).length + 1)) else (be 4 (lst (T.at_ 5)).length)) ++ ((lst (T.at_ 5)).flatMap fun aa=>(qah aa.S)))) ++ ((tagP (decide (0 < (lst (T.at_ 6)).length)) 1 ((if (decide (v ≥ 0)) = true then (uv ((lst (T.at_ 6)).length + 1)) else (be 4 (lst (T.at_ 6)).length)) ++ ((lst (T.at_ 6)).flatMap fun ab=>(qah ab.S)))) ++ (qdZ T.U))) else []) ++ ([]))))))
theorem qkW {v:Int} {d:Nat} {l:List Fld} {t:Tree} {i:Nat} {x1 x2 x3 x5 x6:Int} {s:List Fld} (h:l[i]? = some (.mk 11 x1 x2 x3 (-1) x5 x6 s)) :
  ((fitT v (d + 1) l t).at_ i).null = Fld.nul (.mk 11 x1 x2 x3 (-1) x5 x6 s) v (t.at_ i) ∧
  lst ((fitT v (d + 1) l t).at_ i) = (if Fld.nul (.mk 11 x1 x2 x3 (-1) x5 x6 s) v (t.at_ i) = true then [] else qan (t.at_ i).L).map (fun x=>qbP (fitT v d) (.mk x6 x1 x2 (-1) (-1) x5 x6 s) (Fld.nul (.mk x6 x1 x2 (-1) (-1) x5 x6 s) v x) x):=by
 rw [qix h]
 have e:qcz (fitT v d) v (.mk 11 x1 x2 x3 (-1) x5 x6 s) (t.at_ i) = .mk 0 [] (Fld.nul (.mk 11 x1 x2 x3 (-1) x5 x6 s) v (t.at_ i)) ((qan (t.at_ i).L).map (fun x=>qbP (fitT v d) (.mk x6 x1 x2 (-1) (-1) x5 x6 s) (Fld.nul (.mk x6 x1 x2 (-1) (-1) x5 x6 s) v x) x)) []:=by
  simp [qcz,Fld.kind,Fld.tag,Fld.elem]
 rw [e]
 refine ⟨rfl,?_⟩
 unfold lst
 show (if Fld.nul _ v (t.at_ i) = true then [] else _) = _
 split
 ·rfl
 rfl
theorem qge {k x1 x2 x4 x5 x6:Int} {s:List Fld} {v:Int} {t:Tree}:Fld.nul (.mk k x1 x2 (-1) x4 x5 x6 s) v t = false:=by
 cases t
 simp [Fld.nul]
theorem qks {x:Int}:be 8 (((IntKind.u64.wrap x).toNat:Nat):Int) = be 8 x:=by
 rw [show (((IntKind.u64.wrap x).toNat:Nat):Int) = IntKind.u64.wrap x by rw [qaK]; omega,qjo]
theorem qlu {x:Int}:by8 (if decide (x % 2 = 1) = true then 1 else 0) = by8 (x % 2):=by
 rcases Int.emod_two_eq x with h | h <;> simp [h]
def canU (u:List (Int × Bs)):Prop:=qcu u ∧ u.length ≤ 1000000 ∧ ∀ y ∈ u,y.2.length < 4294967296
theorem qjD {v:Int} {d:Nat} {l:List Fld} {t:Tree}:canU (fitT v d l t).U:=by
 rw [qjB]
 refine ⟨qfq (qeM _ _),?_,fun y hy=>?_⟩
 ·rw [qdq]; exact Nat.le_trans (qf3 _ _) (by decide)
 obtain ⟨x,_,rfl⟩:=List.mem_map.1 hy
 exact Nat.lt_of_le_of_lt (qa8 _) (by decide)
theorem qlv {v:Int} {d:Nat} {l:List Fld} {t:Tree} {i:Nat} {x1 x2 x3 x5 x6:Int} {s:List Fld} (h:l[i]? = some (.mk 11 x1 x2 x3 (-1) x5 x6 s)):(lst ((fitT v (d + 1) l t).at_ i)).length ≤ 32767:=by
 rw [(qkW h).2,List.length_map]
 split
 ·exact Nat.zero_le _
 simp only [qan,List.length_take]; omega
theorem qhH {fields:List Fld} {l:List (Int × Bs)}:∀ x ∈ qai fields l,qaz fields ≤ x.1:=by
 have key:∀ (r out:List (Int × Bs)),(∀ x ∈ out,qaz fields ≤ x.1) → ∀ x ∈ r.foldl (qbn (qaz fields)) out,qaz fields ≤ x.1:=by
  intro r
  induction r with
  | nil=>intro out h; exact h
  | cons t r ih =>
   intro out h
   rw [List.foldl_cons]
   refine ih _ ?_
   unfold qbn
   dsimp only
   split
   ·exact h
   rename_i hn
   have ht:qaz fields ≤ t.1:=by
    rcases Int.lt_or_le t.1 (qaz fields) with g | g
    ·exact absurd (.inl g) hn
    exact g
   intro x hx
   rcases List.mem_append.1 hx with hx | hx
   ·exact h x (List.mem_of_mem_take hx)
   rcases List.mem_cons.1 hx with rfl | hx
   ·exact ht
   exact h x (List.mem_of_mem_drop hx)
 exact key _ [] (fun x hx=>by cases hx)
theorem qiL {v:Int} {d:Nat} {l:List Fld} {t:Tree} {n:Int} (h:n ≤ qaz l):∀ x ∈ (fitT v d l t).U,n ≤ x.1:=by
 intro x hx
 rw [qjB] at hx
 obtain ⟨y,hy,rfl⟩:=List.mem_map.1 hx
 exact Int.le_trans h (qhH y hy)
theorem qeQ {v:Int} {d:Nat} {l:List Fld} {t:Tree} {i:Nat} {x1 x2 x3 x4 x5 x6:Int} {s:List Fld} (h:l[i]? = some (.mk 11 x1 x2 x3 x4 x5 x6 s)) :
  ((fitT v (d + 1) l t).at_ i).null = (Fld.nul (.mk 11 x1 x2 x3 x4 x5 x6 s) v (t.at_ i) || (decide (x4 ≥ 0) && decide ((t.at_ i).L.length = 0))) ∧
  lst ((fitT v (d + 1) l t).at_ i) = (if Fld.nul (.mk 11 x1 x2 x3 x4 x5 x6 s) v (t.at_ i) = true then [] else qan (t.at_ i).L).map (fun x=>qbP (fitT v d) (.mk x6 x1 x2 (-1) (-1) x5 x6 s) (Fld.nul (.mk x6 x1 x2 (-1) (-1) x5 x6 s) v x) x):=by
 rw [qix h]
 have e:qcz (fitT v d) v (.mk 11 x1 x2 x3 x4 x5 x6 s) (t.at_ i) = .mk 0 [] (Fld.nul (.mk 11 x1 x2 x3 x4 x5 x6 s) v (t.at_ i) || (decide (x4 ≥ 0) && decide ((t.at_ i).L.length = 0))) ((qan (t.at_ i).L).map (fun x=>qbP (fitT v d) (.mk x6 x1 x2 (-1) (-1) x5 x6 s) (Fld.nul (.mk x6 x1 x2 (-1) (-1) x5 x6 s) v x) x)) []:=by
  simp [qcz,Fld.kind,Fld.tag,Fld.elem]
 rw [e]
 refine ⟨rfl,?_⟩
 unfold lst
 show (if (Fld.nul _ v (t.at_ i) || _) = true then [] else _) = _
 cases hn:Fld.nul (.mk 11 x1 x2 x3 x4 x5 x6 s) v (t.at_ i) with
 | true=>rfl
 | false =>
  cases hL:(t.at_ i).L with
  | nil=>simp [qan]; intros; rfl
  | cons y r=>simp [Tree.L]
theorem qg1 {v:Int} {d:Nat} {l:List Fld} {t:Tree} {i:Nat} {x1 x2 x3 x4 x5 x6:Int} {s:List Fld} (h:l[i]? = some (.mk 11 x1 x2 x3 x4 x5 x6 s)):(lst ((fitT v (d + 1) l t).at_ i)).length ≤ 32767:=by
 rw [(qeQ h).2,List.length_map]
 split
 ·exact Nat.zero_le _
 simp only [qan,List.length_take]; omega
def Tree.ranged:Tree → Prop
 | .mk _ _ _ l u=>(∀ x ∈ u,0 ≤ x.1 ∧ x.1 < 4294967296) ∧ rangeds l
where rangeds:List Tree → Prop
 | []=>True
 | t :: r=>t.ranged ∧ rangeds r
abbrev rangeds:=Tree.ranged.rangeds
theorem qeR:∀ {l:List Tree},rangeds l → ∀ x ∈ l,x.ranged
 | [],_,x,h=>by cases h
 | t :: r,hr,x,h=>by
  rcases List.mem_cons.1 h with rfl | h
  ·exact hr.1
  exact qeR (l:=r) hr.2 x h
theorem qds:∀ {l:List Tree},(∀ x ∈ l,x.ranged) → rangeds l
 | [],_=>trivial
 | t :: r,h=>⟨h t (List.mem_cons_self ..),qds (l:=r) fun x hx=>h x (List.mem_cons_of_mem _ hx)⟩
theorem qeS:Tree.zero.ranged:=⟨fun x h=>(by cases h),trivial⟩
theorem qfu {t:Tree} (h:t.ranged):∀ x ∈ t.U,0 ≤ x.1 ∧ x.1 < 4294967296:=by cases t; exact h.1
theorem qg2 {t:Tree} (h:t.ranged):∀ x ∈ t.L,x.ranged:=by cases t; exact qeR h.2
theorem qiM {t:Tree} (h:t.ranged) (i:Nat):(t.at_ i).ranged:=by
 unfold Tree.at_
 rw [List.getD_eq_getElem?_getD]
 cases hx:t.L[i]? with
 | none=>exact qeS
 | some x=>exact qg2 h x (List.mem_of_getElem? hx)
theorem TreeR.ranged {w:World} {F:Nat → Nat → Prop} {cs:List Value} {t:Tree} (h:TreeR w F cs t):t.ranged:=by
 induction h with
 | @mk n s b l u A1 A2 A3 c1 c2 c3 cs h1 h2 h3 h4 ih =>
  refine ⟨fun x hx=>qhy h4 x hx,qds fun x hx=>?_⟩
  obtain ⟨i,hi⟩:=List.mem_iff_getElem?.1 hx
  exact ih i x hi
theorem qhI (v:Int):∀ (d:Nat) (l:List Fld) (t:Tree),t.ranged → (fitT v d l t).ranged:=by
 have core:∀ (W:Fld → Tree → Tree) (l:List Fld) (t:Tree),t.ranged → (∀ f x,x.ranged → (W f x).ranged) → (fitW W l t).ranged:=by
  intro W l t ht hW
  refine ⟨fun x hx=>?_,qds ?_⟩
  ·obtain ⟨y,hy,rfl⟩:=List.mem_map.1 hx
   exact qfu ht y (qf4 y hy)
  have:∀ (l:List Fld) (i:Nat),∀ x ∈ qgm W l t i,x.ranged:=by
   intro l
   induction l with
   | nil=>intro i x hx; cases hx
   | cons f r ih =>
    intro i x hx
    rcases List.mem_cons.1 hx with rfl | hx
    ·exact hW f _ (qiM ht i)
    exact ih (i + 1) x hx
  exact this l 0
 have f0:∀ (p:List Fld → Tree → Tree),(∀ l x,x.ranged → (p l x).ranged) → ∀ (f:Fld) (b:Bool) (x:Tree),x.ranged → (qbP p f b x).ranged:=by
  intro p hp f b x hx
  unfold qbP
  split
  ·exact ⟨fun x h=>(by cases h),trivial⟩
  split
  ·have:=hp f.sub x hx
   generalize p f.sub x = y at this
   cases y; exact this
  exact ⟨fun x h=>(by cases h),trivial⟩
 intro d
 induction d with
 | zero=>intro l t ht; exact core _ l t ht fun _ _ _=>qeS
 | succ d ih =>
  intro l t ht
  refine core _ l t ht fun f x hx=>?_
  unfold qcz
  split
  ·refine ⟨fun x h=>(by cases h),qds fun y hy=>?_⟩
   obtain ⟨z,hz,rfl⟩:=List.mem_map.1 hy
   exact f0 _ ih _ _ _ (qg2 hx z (by unfold qan at hz; exact List.mem_of_mem_take hz))
  exact f0 _ ih _ _ _ hx
theorem sHas (k x1 x2 x3 x4 x5 x6:Int) (fs:List Fld) (AF:Option Addr) (cF:Nat) (v:Int) (w:World) :
  Calls Tryd.prog 21 #[.agg #[.int .i64 k,.int .i64 x1,.int .i64 x2,.int .i64 x3,.int .i64 x4,.int .i64 x5,.int .i64 x6,.slice AF fs.length cF],.int .i64 v] w (qbO w (.bool (Fld.has (Fld.mk k x1 x2 x3 x4 x5 x6 fs) v))):=by
 refine enter (n:=20) Tryd.func21 rfl Tryd.ntmps21 kz fun a hE=>?_
 have hW:=WOk.start w Nil
 refine qag [0,1] kz ?_
 refine qam (qa7 hW hE (d:=2) (cs:=[.int .i64 k,.int .i64 x1,.int .i64 x2,.int .i64 x3,.int .i64 x4,.int .i64 x5,.int .i64 x6,.slice AF fs.length cF]) kz fun b1 a2 w3 hb4 hz5 hF6 hW7 hE8=>?_)
 refine qaj [1] [] [(1,.v (.int .i64 v)),(2,.p 0 0)] hW7 hE8 fun a9 af=>?_
 refine qaf (qab ?_)
 refine qag [0,1,2,3,4,5,6,7,8,9,10,11,12,13,14,15] kz ?_
 refine qaj [0,1,2,3,4] [5,6,7,8,9,10,11,12,13,14,15] [(1,.v (.int .i64 v)),(2,.p 0 0),(9,.v (.bool (decide (x1 ≤ v))))] hW7 af fun av ac=>?_
 refine (Bool.eq_false_or_eq_true (decide (x1 ≤ v))).elim (fun aa=>?_) (fun aa=>?_)
 ·
  have ao:=of_decide_eq_true aa
  have ag:=ac.cast (env':=[(1,.v (.int .i64 v)),(2,.p 0 0),(9,.v (.bool true))]) (by rw [aa])
  refine qaj [5,6,7,8] [9,10,11,12,13,14,15] [(1,.v (.int .i64 v)),(2,.p 0 0),(9,.v (.bool true)),(13,.v (.bool (decide (x2 < 0))))] hW7 ag fun aw ae=>?_
  refine (Bool.eq_false_or_eq_true (decide (x2 < 0))).elim (fun ab=>?_) (fun ab=>?_)
  ·
   have ap:=of_decide_eq_true ab
   have ah:=ae.cast (env':=[(1,.v (.int .i64 v)),(2,.p 0 0),(9,.v (.bool true)),(13,.v (.bool true))]) (by rw [ab])
   refine qaj [9,10,11,12,13,14,15] [] [(4,.v (.bool true))] hW7 ah fun ax ai=>?_
   refine qaf (qab ?_)
   refine wp_ret ?_
   refine qaJ ai hW7.cells (v:=.bool true) kz ?_
   exact ⟨by simp only [Fld.has,aa,ab,Bool.true_and,Bool.and_true,Bool.false_and,Bool.and_false,Bool.true_or,Bool.false_or,Bool.or_true,Bool.or_false],hW7.step⟩
  have ar:=of_decide_eq_false ab
  have aj:=ae.cast (env':=[(1,.v (.int .i64 v)),(2,.p 0 0),(9,.v (.bool true)),(13,.v (.bool false))]) (by rw [ab])
  refine qaj [9,10,11,12,13,14,15] [] [(4,.v (.bool (decide (v ≤ x2))))] hW7 aj fun ay ak=>?_
  refine qaf (qab ?_)
  refine wp_ret ?_
  refine qaJ ak hW7.cells (v:=.bool (decide (v ≤ x2))) kz ?_
  exact ⟨by simp only [Fld.has,aa,ab,Bool.true_and,Bool.and_true,Bool.false_and,Bool.and_false,Bool.true_or,Bool.false_or,Bool.or_true,Bool.or_false],hW7.step⟩
 have au:=of_decide_eq_false aa
 have al:=ac.cast (env':=[(1,.v (.int .i64 v)),(2,.p 0 0),(9,.v (.bool false))]) (by rw [aa])
 refine qaj [5,6,7,8,9,10,11,12,13,14,15] [] [(4,.v (.bool false))] hW7 al fun az am=>?_
 refine qaf (qab ?_)
 refine wp_ret ?_
 refine qaJ am hW7.cells (v:=.bool false) kz ?_
 exact ⟨by simp only [Fld.has,aa,Bool.true_and,Bool.and_true,Bool.false_and,Bool.and_false,Bool.true_or,Bool.false_or,Bool.or_true,Bool.or_false],hW7.step⟩
theorem qkt (k x1 x2 x3 x4 x5 x6:Int) (fs:List Fld) (AF:Option Addr) (cF:Nat) (v:Int) (n:Int) (s:Bs) (b:Bool) (l:List Tree) (u:List (Int × Bs)) (A1:Option Addr) (c1:Nat) (A2:Option Addr) (c2:Nat) (A3:Option Addr) (c3:Nat) (w:World) :
  Calls Tryd.prog 40 #[.agg #[.int .i64 k,.int .i64 x1,.int .i64 x2,.int .i64 x3,.int .i64 x4,.int .i64 x5,.int .i64 x6,.slice AF fs.length cF],.int .i64 v,.agg #[.int .i64 n,.slice A1 s.length c1,.bool b,.slice A2 l.length c2,.slice A3 u.length c3]] w (qbO w (.bool (Fld.nul (Fld.mk k x1 x2 x3 x4 x5 x6 fs) v (Tree.mk n s b l u)))):=by
 refine enter (n:=20) Tryd.func40 rfl Tryd.ntmps40 kz fun a hE=>?_
 have hW:=WOk.start w Nil
 refine qag [0,1,2] kz ?_
 refine qam (qa7 hW hE (d:=3) (cs:=[.int .i64 k,.int .i64 x1,.int .i64 x2,.int .i64 x3,.int .i64 x4,.int .i64 x5,.int .i64 x6,.slice AF fs.length cF]) kz fun b1 a2 w3 hb4 hz5 hF6 hW7 hE8=>?_)
 refine qam (qa7 hW7 hE8 (d:=5) (cs:=[.int .i64 n,.slice A1 s.length c1,.bool b,.slice A2 l.length c2,.slice A3 u.length c3]) kz fun b9 ay az ar au av aa ag=>?_)
 refine qaj [2] [] [(1,.v (.int .i64 v)),(3,.p 0 0),(5,.p 1 0)] aa ag fun aA ah=>?_
 refine qaf (qab ?_)
 refine qag [0,1,2,3,4,5,6,7,8,9,10,11,12,13] kz ?_
 refine qaj [0,1,2] [3,4,5,6,7,8,9,10,11,12,13] [(1,.v (.int .i64 v)),(3,.p 0 0),(9,.v (.bool b))] aa ah fun aB ae=>?_
 refine (Bool.eq_false_or_eq_true (b)).elim (fun ac=>?_) (fun ac=>?_)
 ·
  have ai:=ae.cast (env':=[(1,.v (.int .i64 v)),(3,.p 0 0),(9,.v (.bool true))]) (by rw [ac])
  refine qaj [3,4,5,6,7] [8,9,10,11,12,13] [(1,.v (.int .i64 v)),(3,.p 0 0),(14,.v (.bool (decide (x3 ≥ 0))))] aa ai fun aC af=>?_
  refine (Bool.eq_false_or_eq_true (decide (x3 ≥ 0))).elim (fun ab=>?_) (fun ab=>?_)
  ·
   have aw:=of_decide_eq_true ab
   have aj:=af.cast (env':=[(1,.v (.int .i64 v)),(3,.p 0 0),(14,.v (.bool true))]) (by rw [ab])
   refine qaj [8,9,10,11,12,13] [] [(6,.v (.bool (decide (v ≥ x3))))] aa aj fun aD ak=>?_
   refine qaf (qab ?_)
   refine wp_ret ?_
   refine qaJ ak aa.cells (v:=.bool (decide (v ≥ x3))) kz ?_
   exact ⟨by simp only [Fld.nul,ac,ab,Bool.true_and,Bool.and_true,Bool.false_and,Bool.and_false,Bool.true_or,Bool.false_or,Bool.or_true,Bool.or_false],aa.step⟩
  have ax:=of_decide_eq_false ab
  have al:=af.cast (env':=[(1,.v (.int .i64 v)),(3,.p 0 0),(14,.v (.bool false))]) (by rw [ab])
  refine qaj [8,9,10,11,12,13] [] [(6,.v (.bool false))] aa al fun aE am=>?_
  refine qaf (qab ?_)
  refine wp_ret ?_
  refine qaJ am aa.cells (v:=.bool false) kz ?_
  exact ⟨by simp only [Fld.nul,ac,ab,Bool.true_and,Bool.and_true,Bool.false_and,Bool.and_false,Bool.true_or,Bool.false_or,Bool.or_true,Bool.or_false],aa.step⟩
 have ao:=ae.cast (env':=[(1,.v (.int .i64 v)),(3,.p 0 0),(9,.v (.bool false))]) (by rw [ac])
 refine qaj [3,4,5,6,7,8,9,10,11,12,13] [] [(6,.v (.bool false))] aa ao fun aF ap=>?_
 refine qaf (qab ?_)
 refine wp_ret ?_
 refine qaJ ap aa.cells (v:=.bool false) kz ?_
 exact ⟨by simp only [Fld.nul,ac,Bool.true_and,Bool.and_true,Bool.false_and,Bool.and_false,Bool.true_or,Bool.false_or,Bool.or_true,Bool.or_false],aa.step⟩
theorem qiN (k:Int) (w:World):Calls Tryd.prog 39 #[.int .i64 k] w (qbO w (.int .i64 ((qbg k:Nat):Int))):=by
 refine enter (n:=11) Tryd.func39 rfl Tryd.ntmps39 kz fun a hE=>?_
 have hW:=WOk.start w Nil
 refine qar [(0,.v (.int .i64 k))] hW hE fun a1 hE2=>?_
 refine wp_seq ?_
 refine qar [(3,.v (.int .i64 k))] hW hE2 fun a3 hE4=>?_
 refine wp_block ?_
 refine qar [(3,.v (.int .i64 k)),(4,.v (.bool (k == 1)))] hW hE4 fun a5 hE6=>?_
 refine qay hE6 (b:=k == 1) kz (fun hc7=>?_) (fun hc7=>?_)
 ·
  have hf8:k = 1:=by simpa using hc7
  refine qar [(2,.v (.int .i64 1))] hW hE6 fun a9 ah=>?_
  refine wp_ret ?_
  refine qax ?_
  refine qao ?_
  refine qaJ ah hW.cells (v:=.int .i64 1) kz ?_
  exact ⟨by simp_all [qbg],hW.step⟩
 have am:k ≠ 1:=by simpa using hc7
 refine wp_seq ?_
 refine qar [(3,.v (.int .i64 k)),(6,.v (.bool (k == 2)))] hW hE6 fun ax aa=>?_
 refine qay aa (b:=k == 2) kz (fun ab=>?_) (fun ab=>?_)
 ·
  have ao:k = 2:=by simpa using ab
  refine wp_skip ?_
  refine qab ?_
  refine qaU aa (b:=k == 2) kz (ab) ?_
  refine qar [(2,.v (.int .i64 2))] hW aa fun ay ai=>?_
  refine wp_ret ?_
  refine qax ?_
  refine qao ?_
  refine qaJ ai hW.cells (v:=.int .i64 2) kz ?_
  exact ⟨by simp_all [qbg],hW.step⟩
 have ap:k ≠ 2:=by simpa using ab
 refine qat [0,1] kz ?_
 refine qaj [0,1] [] [(3,.v (.int .i64 k)),(6,.v (.bool (k == 5)))] hW aa fun az ac=>?_
 refine qaf (qab ?_)
 refine qay ac (b:=k == 5) kz (fun ae=>?_) (fun ae=>?_)
 ·
  have ar:k = 5:=by simpa using ae
  refine qar [(2,.v (.int .i64 2))] hW ac fun aA aj=>?_
  refine wp_ret ?_
  refine qax ?_
  refine qao ?_
  refine qaJ aj hW.cells (v:=.int .i64 2) kz ?_
  exact ⟨by simp_all [qbg],hW.step⟩
 have au:k ≠ 5:=by simpa using ae
 refine qar [(9,.v (.bool (k == 3)))] hW ac fun aB af=>?_
 refine qay af (b:=k == 3) kz (fun ag=>?_) (fun ag=>?_)
 ·
  have av:k = 3:=by simpa using ag
  refine qar [(2,.v (.int .i64 4))] hW af fun aC ak=>?_
  refine wp_ret ?_
  refine qax ?_
  refine qao ?_
  refine qaJ ak hW.cells (v:=.int .i64 4) kz ?_
  exact ⟨by simp_all [qbg],hW.step⟩
 have aw:k ≠ 3:=by simpa using ag
 refine wp_skip ?_
 refine qaq ?_
 refine qab ?_
 refine qar [(2,.v (.int .i64 8))] hW af fun aD al=>?_
 refine wp_ret ?_
 refine qaJ al hW.cells (v:=.int .i64 8) kz ?_
 exact ⟨by simp_all [qbg],hW.step⟩
theorem qc6 (A:Option Addr) (c:Nat) (s:Bs) (hc:s.length ≤ c) (w:World) :
  Calls Tryd.prog 27 #[.slice A s.length c] w (qbO w (.slice A (qaE s).length c)):=by
 refine enter (n:=8) Tryd.func27 rfl Tryd.ntmps27 kz fun a hE=>?_
 have hW:=WOk.start w Nil
 refine qar [(0,.v (.slice A s.length c))] hW hE fun a1 hE2=>?_
 refine qag [0,1,2,3,4,5] kz ?_
 refine qaj [0,1,2,3] [4,5] [(3,.v (.slice A s.length c)),(6,.v (.int .i64 (if 32767 < ((s.length:Nat):Int) then 32767 else ((s.length:Nat):Int))))] hW hE2 fun a3 hE4=>?_
 refine qam (qcQ hE4 (t:=22) (A:=A) (m:=s.length) (cp:=c) (q:=(if 32767 < ((s.length:Nat):Int) then 32767 else ((s.length:Nat):Int))) (d:=7) (j:=(qaE s).length) kz (e:=5) (size:=1) (bytes:=1) kz (by simpa [qaE] using qgl s.length) (by simp only [qaE,List.length_take]; omega) fun a5 hE6=>?_)
 refine qaj [5] [] [(2,.v (.slice A ((qaE s).length) c))] hW hE6 fun a7 hE8=>?_
 refine qaf (qab ?_)
 refine wp_ret ?_
 refine qaJ hE8 hW.cells (v:=.slice A ((qaE s).length) c) kz ?_
 exact ⟨rfl,hW.step⟩
theorem qfv (A:Option Addr) (c:Nat) (s:List Tree) (hc:s.length ≤ c) (w:World) :
  Calls Tryd.prog 41 #[.slice A s.length c] w (qbO w (.slice A (qan s).length c)):=by
 refine enter (n:=8) Tryd.func41 rfl Tryd.ntmps41 kz fun a hE=>?_
 have hW:=WOk.start w Nil
 refine qar [(0,.v (.slice A s.length c))] hW hE fun a1 hE2=>?_
 refine qag [0,1,2,3,4,5] kz ?_
 refine qaj [0,1,2,3] [4,5] [(3,.v (.slice A s.length c)),(6,.v (.int .i64 (if 32767 < ((s.length:Nat):Int) then 32767 else ((s.length:Nat):Int))))] hW hE2 fun a3 hE4=>?_
 refine qam (qcQ hE4 (t:=23) (A:=A) (m:=s.length) (cp:=c) (q:=(if 32767 < ((s.length:Nat):Int) then 32767 else ((s.length:Nat):Int))) (d:=7) (j:=(qan s).length) kz (e:=26) (size:=5) (bytes:=88) kz (by simpa [qan] using qgl s.length) (by simp only [qan,List.length_take]; omega) fun a5 hE6=>?_)
 refine qaj [5] [] [(2,.v (.slice A ((qan s).length) c))] hW hE6 fun a7 hE8=>?_
 refine qaf (qab ?_)
 refine wp_ret ?_
 refine qaJ hE8 hW.cells (v:=.slice A ((qan s).length) c) kz ?_
 exact ⟨rfl,hW.step⟩
theorem qdM (A A':Option Addr) (c c':Nat) (s t:Bs) (w:World) (F:Nat → Nat → Prop) (hs:Octs w F A c s) (ht:Octs w F A' c' t) :
  Calls Tryd.prog 26 #[.slice A s.length c,.slice A' t.length c'] w (qbO w (.bool (decide (s = t)))):=by
 refine enter (n:=26) Tryd.func26 rfl Tryd.ntmps26 kz fun a hE=>?_
 have hW:=WOk.start w Nil
 have hl:=Slots.small hs
 refine qar [(0,.v (.slice A s.length c)),(1,.v (.slice A' t.length c'))] hW hE fun a1 hE2=>?_
 refine wp_seq ?_
 refine qar [(0,.v (.slice A s.length c)),(1,.v (.slice A' t.length c')),(10,.v (.bool (((s.length:Nat):Int) != ((t.length:Nat):Int))))] hW hE2 fun a3 hE4=>?_
 refine qay hE4 (b:=((s.length:Nat):Int) != ((t.length:Nat):Int)) kz (fun hc5=>?_) (fun hc5=>?_)
 ·
  have hf6:((s.length:Nat):Int) ≠ ((t.length:Nat):Int):=by simpa using hc5
  refine qar [(4,.v (.bool false))] hW hE4 fun a7 hE8=>?_
  refine wp_ret ?_
  refine qao ?_
  refine qaJ hE8 hW.cells (v:=.bool false) kz ?_
  exact ⟨by first | rw [← qfm hq (by omega) hlen] | rw [← qgn ‹_›] | rw [← qfl ‹_›],hW.step⟩
 have hf9:((s.length:Nat):Int) = ((t.length:Nat):Int):=by simpa using hc5
 refine wp_skip ?_
 refine qab ?_
 refine wp_seq ?_
 refine qar [(0,.v (.slice A s.length c)),(1,.v (.slice A' t.length c')),(12,.v (.int .i64 ((s.length:Nat):Int))),(13,.v (.int .i64 0))] hW hE4 fun aP ak=>?_
 refine wp_block ?_
 have hlen:s.length = t.length:=by omega
 refine wp_loop_ghost (fun n_ a_ w_=>∃ (k:Nat),n_ = s.length - k ∧ k ≤ s.length ∧ (s.take k = t.take k) ∧ LInv hW 26 [] [] [(0,.v (.slice A s.length c)),(1,.v (.slice A' t.length c')),(12,.v (.int .i64 ((s.length:Nat):Int))),(13,.v (.int .i64 ((k:Nat):Int)))] a_ w_) (s.length) ⟨0,by omega,by omega,rfl,ak.pk,hW,Fr.refl _ _ _⟩ ?_
 rintro aQ aR aS ⟨k,aD,aE,hq,al,ab,am⟩
 refine qar [(0,.v (.slice A s.length c)),(1,.v (.slice A' t.length c')),(12,.v (.int .i64 ((s.length:Nat):Int))),(13,.v (.int .i64 ((k:Nat):Int))),(14,.v (.bool (decide (((k:Nat):Int) < ((s.length:Nat):Int)))))] ab al fun aT ac=>?_
 refine wp_seq ?_
 refine qay ac (b:=decide (((k:Nat):Int) < ((s.length:Nat):Int))) kz (fun ae=>?_) (fun ae=>?_)
 ·
  have aF:=of_decide_eq_true ae
  refine wp_skip ?_
  refine qab ?_
  refine wp_seq ?_
  refine wp_block ?_
  refine qar [(0,.v (.slice A s.length c)),(1,.v (.slice A' t.length c')),(5,.v (.int .i64 ((k:Nat):Int))),(12,.v (.int .i64 ((s.length:Nat):Int))),(13,.v (.int .i64 ((k:Nat):Int)))] ab ac fun aU ao=>?_
  refine qbD kz ab fun aV ap aa=>?_
  refine qaD [0,1,4,5] [(0,.v (.slice A s.length c)),(1,.v (.slice A' t.length c')),(12,.v (.int .i64 ((s.length:Nat):Int))),(13,.v (.int .i64 ((k:Nat):Int))),(16,.v (.slice A s.length c)),(17,.v (.int .i64 ((k:Nat):Int))),(20,.v (.slice A' t.length c')),(21,.v (.int .i64 ((k:Nat):Int)))] 5 (qaa (qac (qaa (qaa (qac (qaa qad)))))) (fun _ h=>h ▸ aa.cells) rfl ao fun aW ar=>?_
  obtain ⟨aG,aH,au,aI,ah⟩:=Slots.get hs (i:=k) (by omega)
  refine qaH ar (i:=2) (t:=22) (A:=A) (m:=s.length) (q:=((k:Nat):Int)) (d:=18) kz (e:=5) (size:=1) (bytes:=1) kz au rfl (by omega) kz kz (qaa (qac (qaa (qaa (qac (qaa qad)))))) rfl fun aX av=>?_
  refine qaT av (i:=3) (t:=5) (b:=aG) (o:=aH + k * 1) (d:=19) kz (cs:=[.int .u8 ((s.getD k 0).toNat:Int)]) (v:=.int .u8 ((s.getD k 0).toNat:Int)) kz (fun w' h'=>h' ▸ (AtF.move ah aa.step nilM qaX).at_) kz kz (qaa (qac (qaa (qaa (qac (qaa qad)))))) rfl fun aY aw=>?_
  obtain ⟨aJ,aK,ax,aL,ai⟩:=Slots.get ht (i:=k) (by omega)
  refine qaH aw (i:=6) (t:=22) (A:=A') (m:=t.length) (q:=((k:Nat):Int)) (d:=22) kz (e:=5) (size:=1) (bytes:=1) kz ax rfl (by omega) kz kz (qaa (qac (qaa (qaa (qac (qaa qad)))))) rfl fun aZ ay=>?_
  refine qaT ay (i:=7) (t:=5) (b:=aJ) (o:=aK + k * 1) (d:=23) kz (cs:=[.int .u8 ((t.getD k 0).toNat:Int)]) (v:=.int .u8 ((t.getD k 0).toNat:Int)) kz (fun w' h'=>h' ▸ (AtF.move ai aa.step nilM qaX).at_) kz kz (qaa (qac (qaa (qaa (qac (qaa qad)))))) rfl fun ba az=>?_
  refine qaD [8] [(0,.v (.slice A s.length c)),(1,.v (.slice A' t.length c')),(12,.v (.int .i64 ((s.length:Nat):Int))),(13,.v (.int .i64 ((k:Nat):Int))),(24,.v (.bool (((s.getD k 0).toNat:Int) != ((t.getD k 0).toNat:Int))))] 0 (qaa (qac (qaa (qaa (qac (qaa qad)))))) (fun _ h=>h ▸ aa.cells) rfl az fun bd af=>?_
  refine qaF kz ?_ _
  refine qab ?_
  refine qay af (b:=((s.getD k 0).toNat:Int) != ((t.getD k 0).toNat:Int)) kz (fun ag=>?_) (fun ag=>?_)
  ·
   have aM:((s.getD k 0).toNat:Int) ≠ ((t.getD k 0).toNat:Int):=by simpa using ag
   refine qar [(4,.v (.bool false))] aa af fun bf aA=>?_
   refine wp_ret ?_
   refine qax ?_
   refine qao ?_
   refine qao ?_
   refine qax ?_
   refine qao ?_
   refine qaJ aA aa.cells (v:=.bool false) kz ?_
   exact ⟨by first | rw [← qfm hq (by omega) hlen] | rw [← qgn ‹_›] | rw [← qfl ‹_›],aa.step⟩
  have aN:((s.getD k 0).toNat:Int) = ((t.getD k 0).toNat:Int):=by simpa using ag
  refine wp_skip ?_
  refine qaq ?_
  refine qab ?_
  refine qat [0,1] kz ?_
  refine qaj [0,1] [] [(0,.v (.slice A s.length c)),(1,.v (.slice A' t.length c')),(12,.v (.int .i64 ((s.length:Nat):Int))),(13,.v (.int .i64 (IntKind.i64.wrap (((k:Nat):Int) + 1))))] aa af fun bg aj=>?_
  refine qaf (qab ?_)
  have aB:IntKind.i64.wrap (((k:Nat):Int) + 1) = ((k + 1:Nat):Int):=qaN (by omega)
  rw [aB] at aj
  exact ⟨s.length - (k + 1),by omega,k + 1,rfl,by omega,qh5 hq (by omega) hlen ‹_›,aj.pk,aa,(am.trans ap)⟩
 have aO:=of_decide_eq_false ae
 refine wp_exit ?_
 refine qaB ?_
 refine qaB ?_
 refine qaL ?_
 refine qab ?_
 refine qar [(4,.v (.bool true))] ab ac fun bh aC=>?_
 refine wp_ret ?_
 refine qaJ aC ab.cells (v:=.bool true) kz ?_
 exact ⟨by first | rw [← qfm hq (by omega) hlen] | rw [← qgn ‹_›] | rw [← qfl ‹_›],ab.step⟩
theorem sAt (ct:List Value) (t:Tree) (i:Nat) (w:World) (F:Nat → Nat → Prop) (ht:TreeR w F ct t) :
  Calls Tryd.prog 20 #[.agg ct.toArray,.int .i64 (i:Int)] w (qkN w F (t.at_ i)):=by
 obtain ⟨n1,s2,b3,l4,u5,A6,c7,A8,c9,aO,aP,aQ,rfl,rfl,aR,aJ,aS,bq⟩:=ht.open_
 have aK:=aR.small
 have aL:=aJ.small
 refine enter (n:=16) Tryd.func20 rfl Tryd.ntmps20 kz fun a hE=>?_
 have hW:=WOk.start w Nil
 refine qag [0,1] kz ?_
 refine qam (qa7 hW hE (d:=2) (cs:=[.int .i64 n1,.slice A6 s2.length c7,.bool b3,.slice A8 l4.length c9,.slice aO u5.length aP]) kz fun bt bu bw aT aU aV az aA=>?_)
 refine qam (qaR az aA (d:=4) (cs:=[.int .i64 0,.slice none 0 0,.bool false,.slice none 0 0,.slice none 0 0]) kz fun bx bz bA aW aX aY aa aB=>?_)
 refine qaf (qab ?_)
 refine wp_seq ?_
 refine qar [(1,.v (.int .i64 ((i:Nat):Int))),(2,.p 0 0),(4,.p 1 0),(9,.v (.bool (decide (((i:Nat):Int) < ((l4.length:Nat):Int)))))] aa aB fun bB ae=>?_
 refine qay ae (b:=decide (((i:Nat):Int) < ((l4.length:Nat):Int))) kz (fun af=>?_) (fun af=>?_)
 ·
  have aZ:=of_decide_eq_true af
  refine qag [0,1,2,3,4,5] kz ?_
  refine qaj [0,1,2] [3,4,5] [(4,.p 1 0),(11,.v (.slice A8 l4.length c9)),(12,.v (.int .i64 ((i:Nat):Int)))] aa ae fun bC aC=>?_
  obtain ⟨ba,bd,aD,bf,ab⟩:=Slots.get aJ (i:=i) (by omega)
  obtain ⟨bg,ah⟩:∃ x,l4[i]? = some x:=⟨_,List.getElem?_eq_getElem (by omega)⟩
  have ag:=aS i bg ah
  obtain ⟨ak,al,am,ao,ap,ar,au,av,aw,ax,ay,bh,rfl,ac,bj,bk,bD,bE⟩:=ag.open_
  rw [ac] at ag
  have aM:=bj.small
  have aN:=bk.small
  rw [ac] at ab
  refine qam (qaC aC (t:=23) (A:=A8) (m:=l4.length) (q:=((i:Nat):Int)) (d:=13) kz (e:=26) (size:=5) (bytes:=88) kz aD rfl (by omega) fun bF aE=>?_)
  refine qam (qaM aE (t:=26) (b:=ba) (o:=bd + i * 5) (d:=14) kz (cs:=[.int .i64 ak,.slice ar al.length au,.bool am,.slice av ao.length aw,.slice ax ap.length ay]) (v:=.agg #[.int .i64 ak,.slice ar al.length au,.bool am,.slice av ao.length aw,.slice ax ap.length ay]) kz (AtF.move ab aa.step nilM qaX).at_ fun bG aF=>?_)
  refine qam (qav aa aF (oi:=1) (cs:=[.int .i64 ak,.slice ar al.length au,.bool am,.slice av ao.length aw,.slice ax ap.length ay]) kz fun bH bn ai aG=>?_)
  refine qaf (qab ?_)
  refine wp_ret ?_
  refine qao ?_
  refine qaJ aG ai.cells (v:=.agg #[.int .i64 ak,.slice ar al.length au,.bool am,.slice av ao.length aw,.slice ax ap.length ay]) kz ?_
  exact ⟨_,rfl,by rw [qki ah]; exact ag,ai.step⟩
 have bo:=of_decide_eq_false af
 refine wp_skip ?_
 refine qab ?_
 refine qag [0,1] kz ?_
 refine qaj [0] [1] [(4,.p 1 0),(15,.v (.agg #[.int .i64 0,.slice none 0 0,.bool false,.slice none 0 0,.slice none 0 0]))] aa ae fun bI aH=>?_
 refine qam (qav aa aH (oi:=1) (cs:=[.int .i64 0,.slice none 0 0,.bool false,.slice none 0 0,.slice none 0 0]) kz fun bJ bp aj aI=>?_)
 refine qaf (qab ?_)
 refine wp_ret ?_
 refine qaJ aI aj.cells (v:=.agg #[.int .i64 0,.slice none 0 0,.bool false,.slice none 0 0,.slice none 0 0]) kz ?_
 exact ⟨_,rfl,by rw [qkj (by omega)]; exact TreeR.zero _ _,aj.step⟩
theorem qeT (x:Int) (size:Nat) (hsz:size ≤ 8) (w:World) :
  Calls Tryd.prog 38 #[.int .i64 x,.int .i64 ((size:Nat):Int)] w (qdy w 5 (be size x)):=by
 refine enter (n:=22) Tryd.func38 rfl Tryd.ntmps38 kz fun a hE=>?_
 have hW:=WOk.start w Nil
 refine qar [(0,.v (.int .i64 x)),(1,.v (.int .i64 ((size:Nat):Int)))] hW hE fun a1 hE2=>?_
 refine qar [(0,.v (.int .i64 x)),(1,.v (.int .i64 ((size:Nat):Int))),(5,.v (.slice none 0 0))] hW hE2 fun a3 hE4=>?_
 refine wp_seq ?_
 refine qar [(0,.v (.int .i64 x)),(5,.v (.slice none 0 0)),(6,.v (.int .i64 (IntKind.i64.wrap (((size:Nat):Int) - 1))))] hW hE4 fun a5 hE6=>?_
 refine wp_block ?_
 have hW7:=hW.addNil 5 1
 have hF8:=hW.frNil 5 1
 have aj:IntKind.i64.wrap (((size:Nat):Int) - 1) = ((size:Nat):Int) - 1 - ((0:Nat):Int):=by rw [wrap_i64 (by omega) (by omega)]; omega
 rw [aj] at hE6
 refine wp_loop_ghost (fun n_ a_ w_=>∃ (k:Nat) (A:Option Addr) (c:Nat),n_ = size - k ∧ k ≤ size ∧ LInv hW7 22 [] [brow A c 5 ((be size x).take k)] [(0,.v (.int .i64 x)),(5,.v (.slice A (((be size x).take k).length) c)),(6,.v (.int .i64 (((size:Nat):Int) - 1 - ((k:Nat):Int))))] a_ w_) (size) ⟨0,none,0,by omega,by omega,hE6.pk,hW7,Fr.refl _ _ _⟩ ?_
 rintro n9 aK aL ⟨k,A,c,aG,aH,ak,aa,al⟩
 refine wp_seq ?_
 refine qar [(0,.v (.int .i64 x)),(5,.v (.slice A (((be size x).take k).length) c)),(6,.v (.int .i64 (((size:Nat):Int) - 1 - ((k:Nat):Int)))),(10,.v (.bool (decide ((((size:Nat):Int) - 1 - ((k:Nat):Int)) ≥ 0))))] aa ak fun aM ae=>?_
 refine qay ae (b:=decide ((((size:Nat):Int) - 1 - ((k:Nat):Int)) ≥ 0)) kz (fun af=>?_) (fun af=>?_)
 ·
  have aI:=of_decide_eq_true af
  refine wp_skip ?_
  refine qab ?_
  refine wp_seq ?_
  refine wp_block ?_
  refine qat [0,1,2,3,4,5,6,7,8] kz ?_
  refine qaj [0,1,2,3] [4,5,6,7,8] [(0,.v (.int .i64 x)),(6,.v (.int .i64 (((size:Nat):Int) - 1 - ((k:Nat):Int)))),(13,.v (.slice A (((be size x).take k).length) c)),(14,.v (.int .i64 x)),(16,.v (.int .i64 (IntKind.i64.wrap (8 * (((size:Nat):Int) - 1 - ((k:Nat):Int))))))] aa ae fun aN am=>?_
  refine qam (qjl am (k:=.i64) (p:=x) (q:=(IntKind.i64.wrap (8 * (((size:Nat):Int) - 1 - ((k:Nat):Int))))) (d:=17) (j:=8 * (size - 1 - k)) kz (by rw [wrap_i64 (by omega) (by omega)]; omega) (by simp only [IntKind.bits]; omega) fun aO ao=>?_)
  refine qaj [5] [6,7,8] [(0,.v (.int .i64 x)),(6,.v (.int .i64 (((size:Nat):Int) - 1 - ((k:Nat):Int)))),(13,.v (.slice A (((be size x).take k).length) c)),(18,.v (.int .u8 (IntKind.u8.wrap (x / 2 ^ (8 * (size - 1 - k))))))] aa ao fun aP ap=>?_
  refine qb1 aa ap (k:=0) (e:=5) (size:=1) (len:=1) (cs:=[.int .u8 (IntKind.u8.wrap (x / 2 ^ (8 * (size - 1 - k))))]) (d1:=19) (d:=20) kz (t:=22) (bytes:=1) kz (fun _=>by kernel_rfl) rfl kz (by first | (have:=hroom; omega) | (simp; done) | (simp; omega)) fun ab ac aQ aR ar au ⟨_,av⟩=>?_
  have aw:(⟨ab,ac,5,1,((be size x).take k).length + 1,bc ((be size x).take k) ++ [.int .u8 (IntKind.u8.wrap (x / 2 ^ (8 * (size - 1 - k))))]⟩:Rw) = brow ab ac 5 ((be size x).take k ++ [by8 (x / 2 ^ (8 * (size - 1 - k)))]):=qbz (by simp only [bc,List.map,qdV]; try rfl) rfl
  obtain ⟨ag,ax⟩:=au.rowEq 0 [brow ab ac 5 ((be size x).take k ++ [by8 (x / 2 ^ (8 * (size - 1 - k)))])] aw
  have ay:=EnvOk.pick av (ks:=[0,6,13,18,20]) (env':=[(0,.v (.int .i64 x)),(6,.v (.int .i64 (((size:Nat):Int) - 1 - ((k:Nat):Int)))),(13,.v (.slice A (((be size x).take k).length) c)),(18,.v (.int .u8 (IntKind.u8.wrap (x / 2 ^ (8 * (size - 1 - k)))))),(20,.v (.slice ab (((be size x).take k).length + 1) ac))]) kz
  have az:=ay.cast (env':=[(0,.v (.int .i64 x)),(6,.v (.int .i64 (((size:Nat):Int) - 1 - ((k:Nat):Int)))),(13,.v (.slice A (((be size x).take k).length) c)),(18,.v (.int .u8 (IntKind.u8.wrap (x / 2 ^ (8 * (size - 1 - k)))))),(20,.v (.slice ab (((be size x).take k ++ [by8 (x / 2 ^ (8 * (size - 1 - k)))]).length) ac))]) (by simp only [List.length_append,List.length_cons,List.length_nil,Nat.zero_add])
  refine qaj [8] [] [(0,.v (.int .i64 x)),(5,.v (.slice ab (((be size x).take k ++ [by8 (x / 2 ^ (8 * (size - 1 - k)))]).length) ac)),(6,.v (.int .i64 (((size:Nat):Int) - 1 - ((k:Nat):Int))))] ag az fun aS aA=>?_
  refine qaf ?_
  refine qaq ?_
  refine qab ?_
  refine qat [0,1,2] kz ?_
  refine qaj [0,1,2] [] [(0,.v (.int .i64 x)),(5,.v (.slice ab (((be size x).take k ++ [by8 (x / 2 ^ (8 * (size - 1 - k)))]).length) ac)),(6,.v (.int .i64 (IntKind.i64.wrap ((((size:Nat):Int) - 1 - ((k:Nat):Int)) - 1))))] ag aA fun aT ah=>?_
  refine qaf (qab ?_)
  have ai:((be size x).take k ++ [by8 (x / 2 ^ (8 * (size - 1 - k)))]) = ((be size x).take (k + 1)):=(qfL (by omega)).symm
  have aB:=congrArg (brow ab ac 5) ai
  obtain ⟨aC,aD⟩:=ag.rowEq 0 [brow ab ac 5 ((be size x).take (k + 1))] aB
  rw [ai] at ah
  have aE:IntKind.i64.wrap ((((size:Nat):Int) - 1 - ((k:Nat):Int)) - 1) = ((size:Nat):Int) - 1 - (((k + 1):Nat):Int):=by rw [wrap_i64 (by omega) (by omega)]; omega
  rw [aE] at ah
  exact ⟨size - (k + 1),by omega,k + 1,ab,ac,rfl,by omega,ah.pk,aC,(((al.trans ar).trans ax).trans aD)⟩
 have aJ:=of_decide_eq_false af
 refine wp_exit ?_
 refine qaB ?_
 refine qaB ?_
 refine qaL ?_
 refine qab ?_
 refine qar [(4,.v (.slice A (((be size x).take k).length) c))] aa ae fun aU aF=>?_
 refine wp_ret ?_
 refine qaJ aF aa.cells (v:=.slice A (((be size x).take k).length) c) kz ?_
 exact qa5 aa (k:=0) rfl (List.take_of_length_le (by simp; omega))
theorem qdt (x:Nat) (hx:x < 18446744073709551616) (w:World) :
  Calls Tryd.prog 37 #[.int .u64 ((x:Nat):Int)] w (qdy w 5 (uv x)):=by
 refine enter (n:=20) Tryd.func37 rfl Tryd.ntmps37 kz fun a hE=>?_
 have hW:=WOk.start w Nil
 refine qar [(0,.v (.int .u64 ((x:Nat):Int)))] hW hE fun a1 hE2=>?_
 refine qar [(0,.v (.int .u64 ((x:Nat):Int))),(3,.v (.slice none 0 0))] hW hE2 fun a3 hE4=>?_
 refine wp_seq ?_
 refine wp_block ?_
 have hW5:=hW.addNil 5 1
 have hF6:=hW.frNil 5 1
 refine wp_loop_ghost (fun n_ a_ w_=>∃ (A:Option Addr) (c:Nat) (pre:Bs) (m:Nat),n_ = m ∧ (pre ++ uv m = uv x) ∧ (m < 18446744073709551616) ∧ LInv hW5 20 [] [brow A c 5 pre] [(0,.v (.int .u64 ((m:Nat):Int))),(3,.v (.slice A pre.length c))] a_ w_) (x) ⟨none,0,[],x,rfl,rfl,hx,hE4.pk,hW5,Fr.refl _ _ _⟩ ?_
 rintro n7 a8 w9 ⟨A,c,pre,m,aM,hp,hm,am,aa,ao⟩
 refine wp_seq ?_
 refine qar [(0,.v (.int .u64 ((m:Nat):Int))),(3,.v (.slice A pre.length c)),(5,.v (.bool (decide (((m:Nat):Int) > 127))))] aa am fun aR ae=>?_
 refine qay ae (b:=decide (((m:Nat):Int) > 127)) kz (fun af=>?_) (fun af=>?_)
 ·
  have aN:=of_decide_eq_true af
  refine wp_skip ?_
  refine qab ?_
  refine wp_block ?_
  refine qag [0,1,2,3,4,5,6,7] kz ?_
  refine qaj [0,1,2,3,4] [5,6,7] [(0,.v (.int .u64 ((m:Nat):Int))),(6,.v (.slice A pre.length c)),(10,.v (.int .u8 (IntKind.u8.wrap (BitVec.ofInt 8 (IntKind.u8.wrap (IntKind.u64.wrap (BitVec.ofInt 64 ((m:Nat):Int) &&& BitVec.ofInt 64 127).toNat)) ||| BitVec.ofInt 8 128).toNat)))] aa ae fun aS ap=>?_
  refine qb1 aa ap (k:=0) (e:=5) (size:=1) (len:=1) (cs:=[.int .u8 (IntKind.u8.wrap (BitVec.ofInt 8 (IntKind.u8.wrap (IntKind.u64.wrap (BitVec.ofInt 64 ((m:Nat):Int) &&& BitVec.ofInt 64 127).toNat)) ||| BitVec.ofInt 8 128).toNat)]) (d1:=11) (d:=12) kz (t:=22) (bytes:=1) kz (fun _=>by kernel_rfl) rfl kz (by have h1_:=qdX x hx; rw [← hp,List.length_append] at h1_; omega) fun ab ac aT aU ar au ⟨_,av⟩=>?_
  have aw:(⟨ab,ac,5,1,pre.length + 1,bc pre ++ [.int .u8 (IntKind.u8.wrap (BitVec.ofInt 8 (IntKind.u8.wrap (IntKind.u64.wrap (BitVec.ofInt 64 ((m:Nat):Int) &&& BitVec.ofInt 64 127).toNat)) ||| BitVec.ofInt 8 128).toNat)]⟩:Rw) = brow ab ac 5 (pre ++ [by8 (BitVec.ofInt 8 (IntKind.u8.wrap (IntKind.u64.wrap (BitVec.ofInt 64 ((m:Nat):Int) &&& BitVec.ofInt 64 127).toNat)) ||| BitVec.ofInt 8 128).toNat]):=qbz (by simp only [bc,List.map,qdV]; try rfl) rfl
  obtain ⟨ag,ax⟩:=au.rowEq 0 [brow ab ac 5 (pre ++ [by8 (BitVec.ofInt 8 (IntKind.u8.wrap (IntKind.u64.wrap (BitVec.ofInt 64 ((m:Nat):Int) &&& BitVec.ofInt 64 127).toNat)) ||| BitVec.ofInt 8 128).toNat])] aw
  have ay:=EnvOk.pick av (ks:=[0,6,10,12]) (env':=[(0,.v (.int .u64 ((m:Nat):Int))),(6,.v (.slice A pre.length c)),(10,.v (.int .u8 (IntKind.u8.wrap (BitVec.ofInt 8 (IntKind.u8.wrap (IntKind.u64.wrap (BitVec.ofInt 64 ((m:Nat):Int) &&& BitVec.ofInt 64 127).toNat)) ||| BitVec.ofInt 8 128).toNat))),(12,.v (.slice ab (pre.length + 1) ac))]) kz
  have az:=ay.cast (env':=[(0,.v (.int .u64 ((m:Nat):Int))),(6,.v (.slice A pre.length c)),(10,.v (.int .u8 (IntKind.u8.wrap (BitVec.ofInt 8 (IntKind.u8.wrap (IntKind.u64.wrap (BitVec.ofInt 64 ((m:Nat):Int) &&& BitVec.ofInt 64 127).toNat)) ||| BitVec.ofInt 8 128).toNat))),(12,.v (.slice ab ((pre ++ [by8 (BitVec.ofInt 8 (IntKind.u8.wrap (IntKind.u64.wrap (BitVec.ofInt 64 ((m:Nat):Int) &&& BitVec.ofInt 64 127).toNat)) ||| BitVec.ofInt 8 128).toNat]).length) ac))]) (by simp only [List.length_append,List.length_cons,List.length_nil,Nat.zero_add])
  refine qaj [7] [] [(0,.v (.int .u64 ((m:Nat):Int))),(3,.v (.slice ab ((pre ++ [by8 (BitVec.ofInt 8 (IntKind.u8.wrap (IntKind.u64.wrap (BitVec.ofInt 64 ((m:Nat):Int) &&& BitVec.ofInt 64 127).toNat)) ||| BitVec.ofInt 8 128).toNat]).length) ac))] ag az fun aV aA=>?_
  refine qaf (qab ?_)
  refine qat [0,1,2] kz ?_
  refine qaj [0,1,2] [] [(0,.v (.int .u64 (Int.fdiv ((m:Nat):Int) 128))),(3,.v (.slice ab ((pre ++ [by8 (BitVec.ofInt 8 (IntKind.u8.wrap (IntKind.u64.wrap (BitVec.ofInt 64 ((m:Nat):Int) &&& BitVec.ofInt 64 127).toNat)) ||| BitVec.ofInt 8 128).toNat]).length) ac))] ag aA fun aW ah=>?_
  refine qaf ?_
  refine qaq ?_
  refine qab ?_
  have al:(pre ++ [by8 (BitVec.ofInt 8 (IntKind.u8.wrap (IntKind.u64.wrap (BitVec.ofInt 64 ((m:Nat):Int) &&& BitVec.ofInt 64 127).toNat)) ||| BitVec.ofInt 8 128).toNat]) = (pre ++ [UInt8.ofNat (m % 128 + 128)]):=by rw [qjs m (by omega)]
  have aB:=congrArg (brow ab ac 5) al
  obtain ⟨aC,aD⟩:=ag.rowEq 0 [brow ab ac 5 (pre ++ [UInt8.ofNat (m % 128 + 128)])] aB
  rw [al] at ah
  have aE:Int.fdiv ((m:Nat):Int) 128 = ((m / 128:Nat):Int):=qkk m
  rw [aE] at ah
  exact ⟨m / 128,by omega,ab,ac,pre ++ [UInt8.ofNat (m % 128 + 128)],m / 128,rfl,by rw [← hp,qdz (show 128 ≤ m by omega)]; simp,by omega,ah.pk,aC,(((ao.trans ar).trans ax).trans aD)⟩
 have aO:=of_decide_eq_false af
 refine wp_exit ?_
 refine qaB ?_
 refine qaB ?_
 refine qaL ?_
 refine qab ?_
 refine qag [0,1,2,3,4,5] kz ?_
 refine qaj [0,1,2] [3,4,5] [(15,.v (.slice A pre.length c)),(17,.v (.int .u8 (IntKind.u8.wrap ((m:Nat):Int))))] aa ae fun aX aF=>?_
 refine qb1 aa aF (k:=0) (e:=5) (size:=1) (len:=1) (cs:=[.int .u8 (IntKind.u8.wrap ((m:Nat):Int))]) (d1:=18) (d:=19) kz (t:=22) (bytes:=1) kz (fun _=>by kernel_rfl) rfl kz (by have h1_:=qdX x hx; rw [← hp,List.length_append] at h1_; omega) fun ai aj aY aZ aP aG ⟨_,aH⟩=>?_
 have aI:(⟨ai,aj,5,1,pre.length + 1,bc pre ++ [.int .u8 (IntKind.u8.wrap ((m:Nat):Int))]⟩:Rw) = brow ai aj 5 (pre ++ [by8 ((m:Nat):Int)]):=qbz (by simp only [bc,List.map,qdV]; try rfl) rfl
 obtain ⟨ak,aQ⟩:=aG.rowEq 0 [brow ai aj 5 (pre ++ [by8 ((m:Nat):Int)])] aI
 have aJ:=EnvOk.pick aH (ks:=[15,17,19]) (env':=[(15,.v (.slice A pre.length c)),(17,.v (.int .u8 (IntKind.u8.wrap ((m:Nat):Int)))),(19,.v (.slice ai (pre.length + 1) aj))]) kz
 have aK:=aJ.cast (env':=[(15,.v (.slice A pre.length c)),(17,.v (.int .u8 (IntKind.u8.wrap ((m:Nat):Int)))),(19,.v (.slice ai ((pre ++ [by8 ((m:Nat):Int)]).length) aj))]) (by simp only [List.length_append,List.length_cons,List.length_nil,Nat.zero_add])
 refine qaj [5] [] [(2,.v (.slice ai ((pre ++ [by8 ((m:Nat):Int)]).length) aj))] ak aK fun ba aL=>?_
 refine qaf (qab ?_)
 refine wp_ret ?_
 refine qaJ aL ak.cells (v:=.slice ai ((pre ++ [by8 ((m:Nat):Int)]).length) aj) kz ?_
 exact qa5 ak (k:=0) rfl (by rw [← hp,qb3 (show m < 128 by omega),qib])
theorem qdu (flex null:Bool) (m sz:Nat) (hm:m ≤ 1099511627776) (hsz:sz ≤ 8) (w:World) :
  Calls Tryd.prog 56 #[.bool flex,.bool null,.int .i64 ((m:Nat):Int),.int .i64 ((sz:Nat):Int)] w (qdy w 5 (qau flex null m sz)):=by
 refine enter (n:=28) Tryd.func56 rfl Tryd.ntmps56 kz fun a hE=>?_
 have hW:=WOk.start w Nil
 refine qar [(0,.v (.bool flex)),(1,.v (.bool null)),(2,.v (.int .i64 ((m:Nat):Int))),(3,.v (.int .i64 ((sz:Nat):Int)))] hW hE fun a1 hE2=>?_
 refine wp_seq ?_
 refine wp_block ?_
 refine qag [0,1,2,3,4] kz ?_
 refine qaj [0,1] [2,3,4] [(0,.v (.bool flex)),(1,.v (.bool null)),(2,.v (.int .i64 ((m:Nat):Int))),(3,.v (.int .i64 ((sz:Nat):Int))),(11,.v (.bool flex))] hW hE2 fun a3 hE4=>?_
 refine (Bool.eq_false_or_eq_true (flex)).elim (fun hc5=>?_) (fun hc5=>?_)
 ·
  have hE7:=hE4.cast (env':=[(0,.v (.bool true)),(1,.v (.bool null)),(2,.v (.int .i64 ((m:Nat):Int))),(3,.v (.int .i64 ((sz:Nat):Int))),(11,.v (.bool true))]) (by rw [hc5])
  refine qaj [2,3,4] [] [(0,.v (.bool true)),(1,.v (.bool null)),(2,.v (.int .i64 ((m:Nat):Int))),(3,.v (.int .i64 ((sz:Nat):Int))),(9,.v (.bool null))] hW hE7 fun a8 hE9=>?_
  refine qaf (qab ?_)
  refine qay hE9 (b:=null) kz (fun aa=>?_) (fun aa=>?_)
  ·
   refine qag [0,1] kz ?_
   refine qam (qbw hW hE9 (e:=5) (size:=1) (len:=1) (cs:=[.int .u8 0]) (d:=14) kz kz fun ab bf bg aV aW aX am ao=>?_)
   have ap:(⟨some ⟨ab,0,none⟩,1,5,1,1,[.int .u8 0]⟩:Rw) = brow (some ⟨ab,0,none⟩) 1 5 [by8 0]:=by first | rfl | (simp only [brow,bc,List.map,qdV]; try rfl)
   obtain ⟨ac,aY⟩:=am.rowEq 0 [brow (some ⟨ab,0,none⟩) 1 5 [by8 0]] ap
   have ar:=EnvOk.pick ao (ks:=[0,1,2,3,9,14]) (env':=[(0,.v (.bool true)),(1,.v (.bool null)),(2,.v (.int .i64 ((m:Nat):Int))),(3,.v (.int .i64 ((sz:Nat):Int))),(9,.v (.bool null)),(14,.v (.slice (some ⟨ab,0,none⟩) 1 1))]) kz
   have au:=ar.cast (env':=[(0,.v (.bool true)),(1,.v (.bool null)),(2,.v (.int .i64 ((m:Nat):Int))),(3,.v (.int .i64 ((sz:Nat):Int))),(9,.v (.bool null)),(14,.v (.slice (some ⟨ab,0,none⟩) ([by8 0].length) 1))]) rfl
   refine qaj [1] [] [(8,.v (.slice (some ⟨ab,0,none⟩) ([by8 0].length) 1))] ac au fun bh av=>?_
   refine qaf (qab ?_)
   refine wp_ret ?_
   refine qax ?_
   refine qao ?_
   refine qaJ av ac.cells (v:=.slice (some ⟨ab,0,none⟩) ([by8 0].length) 1) kz ?_
   exact qa5 ac (k:=0) rfl (by simp [qau,hc5,aa]; try rfl)
  refine qar [(1,.v (.bool null)),(2,.v (.int .i64 ((m:Nat):Int))),(3,.v (.int .i64 ((sz:Nat):Int))),(15,.v (.bool true))] hW hE9 fun bj aj=>?_
  refine qaU aj (b:=true) kz rfl ?_
  refine qag [0,1,2,3,4] kz ?_
  refine qaj [0,1,2] [3,4] [(19,.v (.int .u64 (IntKind.u64.wrap ((IntKind.u64.wrap ((m:Nat):Int)) + 1))))] hW aj fun bk aw=>?_
  have ax:IntKind.u64.wrap ((IntKind.u64.wrap ((m:Nat):Int)) + 1) = ((m + 1:Nat):Int):=by simp only [qaK,qaA,qcc,IntKind.wrap_i64,IntKind.wrap_i32]; omega
  have ay:=EnvOk.pick aw (ks:=[19]) (env':=[(19,.v (.int .u64 (IntKind.u64.wrap ((IntKind.u64.wrap ((m:Nat):Int)) + 1))))]) kz
  have az:=ay.cast (env':=[(19,.v (.int .u64 ((m + 1:Nat):Int)))]) (by rw [ax])
  refine qam (qal az (f:=37) (vs:=[.int .u64 ((m + 1:Nat):Int)]) (d:=20) kz Tryd.call37 (qdt (m + 1) (by omega) _) ?_)
  rintro e_ bn ⟨aA,aB,rfl,aC,aD⟩
  refine ⟨_,rfl,fun bo aE=>?_⟩
  obtain ⟨ae,aZ⟩:=hW.frFresh aD (brow aA aB 5 (uv (m + 1))) (Nat.le_refl _) aC
  refine qaj [4] [] [(8,.v (.slice aA ((uv (m + 1)).length) aB))] ae aE fun bp aF=>?_
  refine qaf (qab ?_)
  refine wp_ret ?_
  refine qax ?_
  refine qao ?_
  refine qaJ aF ae.cells (v:=.slice aA ((uv (m + 1)).length) aB) kz ?_
  exact qa5 ae (k:=0) rfl (by simp [qau,hc5,aa]; try rfl)
 have aG:=hE4.cast (env':=[(0,.v (.bool false)),(1,.v (.bool null)),(2,.v (.int .i64 ((m:Nat):Int))),(3,.v (.int .i64 ((sz:Nat):Int))),(11,.v (.bool false))]) (by rw [hc5])
 refine qaj [2,3,4] [] [(0,.v (.bool false)),(1,.v (.bool null)),(2,.v (.int .i64 ((m:Nat):Int))),(3,.v (.int .i64 ((sz:Nat):Int))),(9,.v (.bool false))] hW aG fun bq ak=>?_
 refine qaf (qab ?_)
 refine qap ak (b:=false) kz rfl ?_
 refine qar [(1,.v (.bool null)),(2,.v (.int .i64 ((m:Nat):Int))),(3,.v (.int .i64 ((sz:Nat):Int))),(15,.v (.bool false))] hW ak fun bt al=>?_
 refine qap al (b:=false) kz rfl ?_
 refine qar [(2,.v (.int .i64 ((m:Nat):Int))),(3,.v (.int .i64 ((sz:Nat):Int))),(21,.v (.bool null))] hW al fun bu af=>?_
 refine qay af (b:=null) kz (fun ag=>?_) (fun ag=>?_)
 ·
  refine qag [0,1,2] kz ?_
  refine qaj [0] [1,2] [(23,.v (.int .i64 ((sz:Nat):Int)))] hW af fun bw aH=>?_
  refine qam (qal aH (f:=38) (vs:=[.int .i64 (-1),.int .i64 ((sz:Nat):Int)]) (d:=24) kz Tryd.call38 (qeT (-1) sz (by first | decide | exact qbh _ | omega) _) ?_)
  rintro e_ bx ⟨aI,aJ,rfl,aK,aL⟩
  refine ⟨_,rfl,fun bz aM=>?_⟩
  obtain ⟨ah,ba⟩:=hW.frFresh aL (brow aI aJ 5 (be sz (-1))) (Nat.le_refl _) aK
  refine qaj [2] [] [(8,.v (.slice aI ((be sz (-1)).length) aJ))] ah aM fun bA aN=>?_
  refine qaf (qab ?_)
  refine wp_ret ?_
  refine qax ?_
  refine qao ?_
  refine qaJ aN ah.cells (v:=.slice aI ((be sz (-1)).length) aJ) kz ?_
  exact qa5 ah (k:=0) rfl (by simp [qau,hc5,ag]; try rfl)
 refine wp_skip ?_
 refine qaq ?_
 refine qab ?_
 refine qag [0,1,2,3] kz ?_
 refine qaj [0,1] [2,3] [(25,.v (.int .i64 ((m:Nat):Int))),(26,.v (.int .i64 ((sz:Nat):Int)))] hW af fun bB aO=>?_
 refine qam (qal aO (f:=38) (vs:=[.int .i64 ((m:Nat):Int),.int .i64 ((sz:Nat):Int)]) (d:=27) kz Tryd.call38 (qeT ((m:Nat):Int) sz (by first | decide | exact qbh _ | omega) _) ?_)
 rintro e_ bC ⟨aP,aQ,rfl,aR,aS⟩
 refine ⟨_,rfl,fun bD aT=>?_⟩
 obtain ⟨ai,bd⟩:=hW.frFresh aS (brow aP aQ 5 (be sz ((m:Nat):Int))) (Nat.le_refl _) aR
 refine qaj [3] [] [(8,.v (.slice aP ((be sz ((m:Nat):Int)).length) aQ))] ai aT fun bE aU=>?_
 refine qaf (qab ?_)
 refine wp_ret ?_
 refine qaJ aU ai.cells (v:=.slice aP ((be sz ((m:Nat):Int)).length) aQ) kz ?_
 exact qa5 ai (k:=0) rfl (by simp [qau,hc5,ag]; try rfl)
theorem qjZ (A:Option Addr) (c:Nat) (l:List Fld) (w:World) (F:Nat → Nat → Prop) (hl:FldsR w F A c l) :
  Calls Tryd.prog 36 #[.slice A l.length c] w (qbO w (.int .u32 (qaz l))):=by
 obtain ⟨xfs,h1,h2⟩:=hl.ex
 have hsm:=h1.small
 refine enter (n:=23) Tryd.func36 rfl Tryd.ntmps36 kz fun a hE=>?_
 have hW:=WOk.start w Nil
 refine qar [(0,.v (.slice A l.length c))] hW hE fun a1 hE2=>?_
 refine qar [(0,.v (.slice A l.length c)),(3,.v (.int .u32 0))] hW hE2 fun a3 hE4=>?_
 refine wp_seq ?_
 refine qar [(3,.v (.int .u32 0)),(6,.v (.slice A l.length c)),(7,.v (.int .i64 ((l.length:Nat):Int))),(8,.v (.int .i64 0))] hW hE4 fun a5 hE6=>?_
 refine wp_block ?_
 refine wp_loop_ghost (fun n_ a_ w_=>∃ (k:Nat),n_ = l.length - k ∧ k ≤ l.length ∧ LInv hW 23 [] [] [(3,.v (.int .u32 (qaz (l.take k)))),(6,.v (.slice A l.length c)),(7,.v (.int .i64 ((l.length:Nat):Int))),(8,.v (.int .i64 ((k:Nat):Int)))] a_ w_) (l.length) ⟨0,by omega,by omega,hE6.pk,hW,Fr.refl _ _ _⟩ ?_
 rintro n7 a8 w9 ⟨k,ba,bd,av,aa,ao⟩
 refine qar [(3,.v (.int .u32 (qaz (l.take k)))),(6,.v (.slice A l.length c)),(7,.v (.int .i64 ((l.length:Nat):Int))),(8,.v (.int .i64 ((k:Nat):Int))),(9,.v (.bool (decide (((k:Nat):Int) < ((l.length:Nat):Int)))))] aa av fun bu ag=>?_
 refine wp_seq ?_
 refine qay ag (b:=decide (((k:Nat):Int) < ((l.length:Nat):Int))) kz (fun ah=>?_) (fun ah=>?_)
 ·
  have bf:=of_decide_eq_true ah
  refine wp_skip ?_
  refine qab ?_
  refine wp_seq ?_
  refine wp_block ?_
  refine qag [0,1,2,3] kz ?_
  obtain ⟨bg,bh,aw,bj,ae⟩:=Slots.get h1 (i:=k) (by omega)
  obtain ⟨bk,ai⟩:∃ x,l[k]? = some x:=⟨_,List.getElem?_eq_getElem (by omega)⟩
  have ap:=h2 k bk ai
  obtain ⟨ax,ay,az,aA,ab,aB,aC,aD,aE,aF,bn,rfl,af,bo,bw⟩:=ap.open_
  rw [af] at ap
  have aZ:=bo.small
  rw [af] at ae
  refine qam (qaC ag (t:=29) (A:=A) (m:=l.length) (q:=((k:Nat):Int)) (d:=10) kz (e:=51) (size:=8) (bytes:=80) kz aw rfl (by omega) fun bx aG=>?_)
  refine qam (qaM aG (t:=51) (b:=bg) (o:=bh + k * 8) (d:=11) kz (cs:=[.int .i64 ax,.int .i64 ay,.int .i64 az,.int .i64 aA,.int .i64 ab,.int .i64 aB,.int .i64 aC,.slice aE aD.length aF]) (v:=.agg #[.int .i64 ax,.int .i64 ay,.int .i64 az,.int .i64 aA,.int .i64 ab,.int .i64 aB,.int .i64 aC,.slice aE aD.length aF]) kz (AtF.move ae aa.step nilM qaX).at_ fun bz aH=>?_)
  refine qam (qaR aa aH (d:=5) (cs:=[.int .i64 0,.int .i64 0,.int .i64 0,.int .i64 0,.int .i64 0,.int .i64 0,.int .i64 0,.slice none 0 0]) kz fun bA bB bC bp bq ar aI aJ=>?_)
  refine qam (qav aI aJ (oi:=0) (cs:=[.int .i64 ax,.int .i64 ay,.int .i64 az,.int .i64 aA,.int .i64 ab,.int .i64 aB,.int .i64 aC,.slice aE aD.length aF]) kz fun bD au ac aK=>?_)
  refine qaf (qab ?_)
  refine qar [(3,.v (.int .u32 (qaz (l.take k)))),(5,.p 0 0),(6,.v (.slice A l.length c)),(7,.v (.int .i64 ((l.length:Nat):Int))),(8,.v (.int .i64 ((k:Nat):Int))),(14,.v (.bool (decide (ab ≥ 0))))] ac aK fun bE aj=>?_
  refine qay aj (b:=decide (ab ≥ 0)) kz (fun ak=>?_) (fun ak=>?_)
  ·
   have aL:=of_decide_eq_true ak
   refine qat [0,1,2,3,4,5,6] kz ?_
   refine qaj [0,1,2,3,4,5,6] [] [(3,.v (.int .u32 (if IntKind.u32.wrap ((IntKind.u32.wrap ab) + 1) > qaz (l.take k) then IntKind.u32.wrap ((IntKind.u32.wrap ab) + 1) else qaz (l.take k)))),(6,.v (.slice A l.length c)),(7,.v (.int .i64 ((l.length:Nat):Int))),(8,.v (.int .i64 ((k:Nat):Int)))] ac aj fun bF aM=>?_
   refine qaf ?_
   refine qaq ?_
   refine qab ?_
   refine qat [0,1] kz ?_
   refine qaj [0,1] [] [(3,.v (.int .u32 (if IntKind.u32.wrap ((IntKind.u32.wrap ab) + 1) > qaz (l.take k) then IntKind.u32.wrap ((IntKind.u32.wrap ab) + 1) else qaz (l.take k)))),(6,.v (.slice A l.length c)),(7,.v (.int .i64 ((l.length:Nat):Int))),(8,.v (.int .i64 (IntKind.i64.wrap (((k:Nat):Int) + 1))))] ac aM fun bG aN=>?_
   refine qaf (qab ?_)
   obtain ⟨al,aO,aP⟩:=ac.cutB aN 0 [] [(3,.v (.int .u32 (if IntKind.u32.wrap ((IntKind.u32.wrap ab) + 1) > qaz (l.take k) then IntKind.u32.wrap ((IntKind.u32.wrap ab) + 1) else qaz (l.take k)))),(6,.v (.slice A l.length c)),(7,.v (.int .i64 ((l.length:Nat):Int))),(8,.v (.int .i64 (IntKind.i64.wrap (((k:Nat):Int) + 1))))]
   have aQ:IntKind.i64.wrap (((k:Nat):Int) + 1) = ((k + 1:Nat):Int):=qaN (by omega)
   rw [aQ] at al
   have aR:(if IntKind.u32.wrap ((IntKind.u32.wrap ab) + 1) > qaz (l.take k) then IntKind.u32.wrap ((IntKind.u32.wrap ab) + 1) else qaz (l.take k)) = qaz (l.take (k + 1)):=qid ai aL
   rw [aR] at al
   exact ⟨l.length - (k + 1),by omega,k + 1,rfl,by omega,al.pk,aO,(((ao.trans ar).trans au).trans aP)⟩
  have aS:=of_decide_eq_false ak
  refine wp_skip ?_
  refine qaq ?_
  refine qab ?_
  refine qat [0,1] kz ?_
  refine qaj [0,1] [] [(3,.v (.int .u32 (qaz (l.take k)))),(6,.v (.slice A l.length c)),(7,.v (.int .i64 ((l.length:Nat):Int))),(8,.v (.int .i64 (IntKind.i64.wrap (((k:Nat):Int) + 1))))] ac aj fun bH aT=>?_
  refine qaf (qab ?_)
  obtain ⟨am,aU,aV⟩:=ac.cutB aT 0 [] [(3,.v (.int .u32 (qaz (l.take k)))),(6,.v (.slice A l.length c)),(7,.v (.int .i64 ((l.length:Nat):Int))),(8,.v (.int .i64 (IntKind.i64.wrap (((k:Nat):Int) + 1))))]
  have aW:IntKind.i64.wrap (((k:Nat):Int) + 1) = ((k + 1:Nat):Int):=qaN (by omega)
  rw [aW] at am
  have aX:qaz (l.take k) = qaz (l.take (k + 1)):=qie ai aS
  rw [aX] at am
  exact ⟨l.length - (k + 1),by omega,k + 1,rfl,by omega,am.pk,aU,(((ao.trans ar).trans au).trans aV)⟩
 have bt:=of_decide_eq_false ah
 refine wp_exit ?_
 refine qaB ?_
 refine qaB ?_
 refine qaL ?_
 refine qab ?_
 refine qar [(2,.v (.int .u32 (qaz (l.take k))))] aa ag fun bI aY=>?_
 refine wp_ret ?_
 refine qaJ aY aa.cells (v:=.int .u32 (qaz (l.take k))) kz ?_
 exact ⟨by rw [List.take_of_length_le (by omega)],aa.step⟩
def qiO (d:Nat):Prop:=∀ (A:Option Addr) (c:Nat) (l:List Fld) (v:Int) (flex:Bool) (ct:List Value) (t:Tree) (w:World) (F:Nat → Nat → Prop),FldsR w F A c l → depths l ≤ d → TreeR w F ct t → (qaV d l v flex t).length ≤ 1099511627776 →
  Calls Tryd.prog 19 #[.slice A l.length c,.int .i64 v,.bool flex,.agg ct.toArray] w (qdy w 5 (qaV d l v flex t))
theorem qiP {d:Nat} (hp:qiO d) (kind:Int) (A:Option Addr) (c:Nat) (l:List Fld) (null:Bool) (v:Int) (flex:Bool) (ct:List Value) (t:Tree) (w:World) (F:Nat → Nat → Prop) (hl:FldsR w F A c l) (hd:depths l ≤ d) (ht:TreeR w F ct t) (hroom:(qaQ (qaV d l v flex) kind null flex t).length ≤ 1099511627776) :
  Calls Tryd.prog 57 #[.int .i64 kind,.slice A l.length c,.bool null,.int .i64 v,.bool flex,.agg ct.toArray] w (qdy w 5 (qaQ (qaV d l v flex) kind null flex t)):=by
 obtain ⟨n1,s2,b3,l4,u5,A6,c7,A8,c9,df,dg,d8,rfl,rfl,aX,d9,fz,fA⟩:=ht.open_
 have dL:=aX.small
 have dM:=d9.small
 have hl0:=hl
 obtain ⟨xfs,h1,h2⟩:=hl.ex
 have hsm:=h1.small
 refine enter (n:=70) Tryd.func57 rfl Tryd.ntmps57 kz fun a hE=>?_
 have hW:=WOk.start w Nil
 refine qag [0,1] kz ?_
 refine qam (qa7 hW hE (d:=11) (cs:=[.int .i64 n1,.slice A6 s2.length c7,.bool b3,.slice A8 l4.length c9,.slice df u5.length dg]) kz fun fB fC fD ea eb ec aa dh=>?_)
 refine qaj [1] [] [(0,.v (.int .i64 kind)),(1,.v (.slice A l.length c)),(2,.v (.bool null)),(3,.v (.int .i64 v)),(4,.v (.bool flex)),(11,.p 0 0)] aa dh fun fE di=>?_
 refine qaf (qab ?_)
 refine wp_seq ?_
 refine qar [(0,.v (.int .i64 kind)),(1,.v (.slice A l.length c)),(2,.v (.bool null)),(3,.v (.int .i64 v)),(4,.v (.bool flex)),(11,.p 0 0),(16,.v (.int .i64 kind))] aa di fun fF dj=>?_
 refine wp_block ?_
 refine qar [(0,.v (.int .i64 kind)),(1,.v (.slice A l.length c)),(2,.v (.bool null)),(3,.v (.int .i64 v)),(4,.v (.bool flex)),(11,.p 0 0),(16,.v (.int .i64 kind)),(17,.v (.bool (kind == 0)))] aa dj fun fG bn=>?_
 refine qay bn (b:=kind == 0) kz (fun ac=>?_) (fun ac=>?_)
 ·
  have dl:kind = 0:=by simpa using ac
  refine qag [0,1,2,3,4,5] kz ?_
  refine qaj [0,1,2,3] [4,5] [(22,.v (.int .u8 (IntKind.u8.wrap (IntKind.i64.wrap (BitVec.ofInt 64 n1 &&& BitVec.ofInt 64 1).toNat))))] aa bn fun fH dp=>?_
  refine qam (qbw aa dp (e:=5) (size:=1) (len:=1) (cs:=[.int .u8 (IntKind.u8.wrap (IntKind.i64.wrap (BitVec.ofInt 64 n1 &&& BitVec.ofInt 64 1).toNat))]) (d:=23) kz kz fun bo fI fJ ee ef eg dq dr=>?_)
  have dt:(⟨some ⟨bo,0,none⟩,1,5,1,1,[.int .u8 (IntKind.u8.wrap (IntKind.i64.wrap (BitVec.ofInt 64 n1 &&& BitVec.ofInt 64 1).toNat))]⟩:Rw) = brow (some ⟨bo,0,none⟩) 1 5 [by8 (IntKind.i64.wrap (BitVec.ofInt 64 n1 &&& BitVec.ofInt 64 1).toNat)]:=by first | rfl | (simp only [brow,bc,List.map,qdV]; try rfl)
  obtain ⟨bp,eh⟩:=dq.rowEq 0 [brow (some ⟨bo,0,none⟩) 1 5 [by8 (IntKind.i64.wrap (BitVec.ofInt 64 n1 &&& BitVec.ofInt 64 1).toNat)]] dt
  have du:=EnvOk.pick dr (ks:=[22,23]) (env':=[(22,.v (.int .u8 (IntKind.u8.wrap (IntKind.i64.wrap (BitVec.ofInt 64 n1 &&& BitVec.ofInt 64 1).toNat)))),(23,.v (.slice (some ⟨bo,0,none⟩) 1 1))]) kz
  have dv:=du.cast (env':=[(22,.v (.int .u8 (IntKind.u8.wrap (IntKind.i64.wrap (BitVec.ofInt 64 n1 &&& BitVec.ofInt 64 1).toNat)))),(23,.v (.slice (some ⟨bo,0,none⟩) ([by8 (IntKind.i64.wrap (BitVec.ofInt 64 n1 &&& BitVec.ofInt 64 1).toNat)].length) 1))]) rfl
  refine qaj [5] [] [(12,.v (.slice (some ⟨bo,0,none⟩) ([by8 (IntKind.i64.wrap (BitVec.ofInt 64 n1 &&& BitVec.ofInt 64 1).toNat)].length) 1))] bp dv fun fK dw=>?_
  refine qaf (qab ?_)
  refine wp_ret ?_
  refine qax ?_
  refine qao ?_
  refine qaJ dw bp.cells (v:=.slice (some ⟨bo,0,none⟩) ([by8 (IntKind.i64.wrap (BitVec.ofInt 64 n1 &&& BitVec.ofInt 64 1).toNat)].length) 1) kz ?_
  exact qa5 bp (k:=0) rfl (by (try simp only [and1]); simp [qaQ,Tree.S,Tree.N,dl,ac])
 have ak:kind ≠ 0:=by simpa using ac
 refine qar [(0,.v (.int .i64 kind)),(1,.v (.slice A l.length c)),(2,.v (.bool null)),(3,.v (.int .i64 v)),(4,.v (.bool flex)),(11,.p 0 0),(16,.v (.int .i64 kind)),(24,.v (.bool (kind == 7)))] aa bn fun fL bq=>?_
 refine qay bq (b:=kind == 7) kz (fun ae=>?_) (fun ae=>?_)
 ·
  have dx:kind = 7:=by simpa using ae
  refine qag [0,1] kz ?_
  refine qam (qb2 aa bq (d:=26) (j:=16) (t:=22) (e:=5) (bytes:=1) (z:=.int .u8 0) kz kz kz kz (rfl) (rfl) (by omega) fun aB fM fN ei ej ek aC dy=>?_)
  refine qaj [1] [] [(11,.p 0 0),(13,.v (.slice (some ⟨aB,0,none⟩) 16 16))] aC dy fun fO dA=>?_
  refine qaf (qab ?_)
  refine qag [0,1,2,3] kz ?_
  refine qaj [0,1,2] [3] [(13,.v (.slice (some ⟨aB,0,none⟩) 16 16)),(27,.v (.slice (some ⟨aB,0,none⟩) 16 16)),(29,.v (.slice A6 s2.length c7))] aC dA fun fP dB=>?_
  refine qam (qcf aC dB (k:=0) (d:=30) (t:=22) (u:=22) (e:=5) (bytes:=1) (A:=(some ⟨aB,0,none⟩)) (As:=A6) (m:=s2.length) (cs:=c7) (m0:=16) (c:=16) (xs:=(List.replicate 16 (.int .u8 0))) (news:=bc s2) kz kz rfl (aX.move aC.step nilM aC.imm).src fun fQ fR em dC dD=>?_)
  have dE:(⟨(some ⟨aB,0,none⟩),16,5,1,16,qba (List.replicate 16 (.int .u8 0)) 0 ((bc s2).take (min s2.length 16))⟩:Rw) = brow (some ⟨aB,0,none⟩) 16 5 (qbb s2):=qde _ _ _
  obtain ⟨bt,eo⟩:=dC.rowEq 0 [brow (some ⟨aB,0,none⟩) 16 5 (qbb s2)] dE
  have dF:=EnvOk.pick dD (ks:=[13,27,29,30]) (env':=[(13,.v (.slice (some ⟨aB,0,none⟩) 16 16)),(27,.v (.slice (some ⟨aB,0,none⟩) 16 16)),(29,.v (.slice A6 s2.length c7)),(30,.v (.int .i64 ((min s2.length 16:Nat):Int)))]) kz
  have dG:=dF.cast (env':=[(13,.v (.slice (some ⟨aB,0,none⟩) ((qbb s2).length) 16)),(27,.v (.slice (some ⟨aB,0,none⟩) ((qbb s2).length) 16)),(29,.v (.slice A6 s2.length c7)),(30,.v (.int .i64 ((min s2.length 16:Nat):Int)))]) (by rw [qa4 _])
  refine qaf (qab ?_)
  refine qar [(12,.v (.slice (some ⟨aB,0,none⟩) ((qbb s2).length) 16))] bt dG fun fS dH=>?_
  refine wp_ret ?_
  refine qax ?_
  refine qao ?_
  refine qaJ dH bt.cells (v:=.slice (some ⟨aB,0,none⟩) ((qbb s2).length) 16) kz ?_
  exact qa5 bt (k:=0) rfl (by (try simp only [and1]); simp [qaQ,Tree.S,Tree.N,ak,dx,ac,ae])
 have am:kind ≠ 7:=by simpa using ae
 refine qar [(0,.v (.int .i64 kind)),(1,.v (.slice A l.length c)),(2,.v (.bool null)),(3,.v (.int .i64 v)),(4,.v (.bool flex)),(11,.p 0 0),(16,.v (.int .i64 kind)),(32,.v (.bool (kind == 8)))] aa bq fun fT bu=>?_
 refine qay bu (b:=kind == 8) kz (fun ag=>?_) (fun ag=>?_)
 ·
  have bB:kind = 8:=by simpa using ag
  refine qag [0,1,2,3] kz ?_
  refine qaj [0,1] [2,3] [(2,.v (.bool null)),(4,.v (.bool flex)),(35,.v (.slice A6 s2.length c7))] aa bu fun fU dI=>?_
  have dN:=qa8 s2
  refine qam (qal dI (f:=27) (vs:=[.slice A6 s2.length c7]) (d:=36) kz Tryd.call27 (qc6 _ _ s2 (aX.move aa.step nilM aa.imm).le _) ?_)
  rintro e_ fV ⟨rfl,bC⟩
  refine ⟨_,rfl,fun fW dJ=>?_⟩
  have ao:=aa.next_nil bC
  have ep:=aa.frN bC
  refine qaj [3] [] [(2,.v (.bool null)),(4,.v (.bool flex)),(14,.v (.slice A6 ((qaE s2).length) c7))] ao dJ fun fX bD=>?_
  refine qaf (qab ?_)
  refine wp_seq ?_
  refine qar [(2,.v (.bool null)),(4,.v (.bool flex)),(14,.v (.slice A6 ((qaE s2).length) c7)),(37,.v (.bool null))] ao bD fun eu aD=>?_
  refine qay aD (b:=null) kz (fun aE=>?_) (fun aE=>?_)
  ·
   refine qat [0] kz ?_
   refine qaj [0] [] [(2,.v (.bool null)),(4,.v (.bool flex)),(14,.v (.slice none 0 0))] ao aD fun ev bE=>?_
   refine qaf (qab ?_)
   refine qag [0,1,2,3,4,5,6,7] kz ?_
   refine qaj [0,1,2,3] [4,5,6,7] [(14,.v (.slice none 0 0)),(38,.v (.bool flex)),(39,.v (.bool null)),(41,.v (.int .i64 0))] ao bE fun ew bF=>?_
   refine qam (qal bF (f:=56) (vs:=[.bool flex,.bool null,.int .i64 0,.int .i64 2]) (d:=42) kz Tryd.call56 (qdu flex null 0 2 (by first | omega | exact Nat.le_trans (qa8 _) (by decide) | exact Nat.le_trans (qcm _) (by decide) | (simp; done) | (have:=hroom; omega)) (by first | decide | omega) _) ?_)
   rintro e_ ey ⟨aF,aG,rfl,bG,bH⟩
   refine ⟨_,rfl,fun ez bI=>?_⟩
   obtain ⟨aY,dO⟩:=ao.frFresh bH (brow aF aG 5 (qau flex null 0 2)) (Nat.le_refl _) bG
   refine qaj [5] [6,7] [(42,.v (.slice aF ((qau flex null 0 2).length) aG)),(43,.v (.slice none 0 0))] aY bI fun eB bJ=>?_
   refine qam (qaO aY bJ (k:=0) (d:=44) (t:=22) (e:=5) (size:=1) (bytes:=1) (A:=aF) (As:=none) (m0:=((qau flex null 0 2).length)) (c:=aG) (m:=0) (cs:=0) (xs:=(bc (qau flex null 0 2))) (news:=bc ([]:Bs)) kz kz rfl (Octs.nil _ (fun _ _=>True)).src (fun _=>rfl) (by first | exact qc4 (by omega) (by decide) (by omega) | exact qc4 (Nat.le_trans (qa8 _) (by decide)) (by decide) (Nat.le_trans (qa8 _) (by decide)) | (simp; done)) fun ap ar eC eD dP bK bL=>?_)
   have bM:(⟨ap,ar,5,1,(qau flex null 0 2).length + 0,bc (qau flex null 0 2) ++ bc ([]:Bs)⟩:Rw) = brow ap ar 5 (qau flex null 0 2 ++ ([]:Bs)):=qbz (rfl) rfl
   obtain ⟨aH,dQ⟩:=bK.rowEq 0 [brow ap ar 5 (qau flex null 0 2 ++ ([]:Bs))] bM
   have bN:=EnvOk.pick bL (ks:=[42,43,44]) (env':=[(42,.v (.slice aF ((qau flex null 0 2).length) aG)),(43,.v (.slice none 0 0)),(44,.v (.slice ap ((qau flex null 0 2).length + 0) ar))]) kz
   have bO:=bN.cast (env':=[(42,.v (.slice aF ((qau flex null 0 2).length) aG)),(43,.v (.slice none 0 0)),(44,.v (.slice ap ((qau flex null 0 2 ++ ([]:Bs)).length) ar))]) (by simp only [List.length_append,List.length_cons,List.length_nil,Nat.zero_add])
   refine qaj [7] [] [(12,.v (.slice ap ((qau flex null 0 2 ++ ([]:Bs)).length) ar))] aH bO fun eE bP=>?_
   refine qaf (qab ?_)
   refine wp_ret ?_
   refine qax ?_
   refine qao ?_
   refine qaJ bP aH.cells (v:=.slice ap ((qau flex null 0 2 ++ ([]:Bs)).length) ar) kz ?_
   exact qa5 aH (k:=0) rfl (by (try simp only [and1]); simp [qaQ,Tree.S,Tree.N,ak,am,bB,ac,ae,ag,aE])
  refine wp_skip ?_
  refine qab ?_
  refine qag [0,1,2,3,4,5,6,7] kz ?_
  refine qaj [0,1,2,3] [4,5,6,7] [(14,.v (.slice A6 ((qaE s2).length) c7)),(38,.v (.bool flex)),(39,.v (.bool null)),(41,.v (.int .i64 (((qaE s2).length:Nat):Int)))] ao aD fun eF bQ=>?_
  refine qam (qal bQ (f:=56) (vs:=[.bool flex,.bool null,.int .i64 (((qaE s2).length:Nat):Int),.int .i64 2]) (d:=42) kz Tryd.call56 (qdu flex null ((qaE s2).length) 2 (by first | omega | exact Nat.le_trans (qa8 _) (by decide) | exact Nat.le_trans (qcm _) (by decide) | (simp; done) | (have:=hroom; omega)) (by first | decide | omega) _) ?_)
  rintro e_ eG ⟨aI,aJ,rfl,bR,bS⟩
  refine ⟨_,rfl,fun eH bT=>?_⟩
  obtain ⟨ah,dR⟩:=ao.frFresh bS (brow aI aJ 5 (qau flex null ((qaE s2).length) 2)) (Nat.le_refl _) bR
  refine qaj [5] [6,7] [(42,.v (.slice aI ((qau flex null ((qaE s2).length) 2).length) aJ)),(43,.v (.slice A6 ((qaE s2).length) c7))] ah bT fun eI bU=>?_
  refine qam (qaO ah bU (k:=0) (d:=44) (t:=22) (e:=5) (size:=1) (bytes:=1) (A:=aI) (As:=A6) (m0:=((qau flex null ((qaE s2).length) 2).length)) (c:=aJ) (m:=((qaE s2).length)) (cs:=c7) (xs:=(bc (qau flex null ((qaE s2).length) 2))) (news:=bc (qaE s2)) kz kz rfl ((aX.take 32767).move ah.step nilM ah.imm).src ((aX.take 32767).move ah.step nilM ah.imm).cap (by first | exact qc4 (by omega) (by decide) (by omega) | exact qc4 (Nat.le_trans (qa8 _) (by decide)) (by decide) (Nat.le_trans (qa8 _) (by decide)) | (simp; done)) fun au av eJ eK dS bV bW=>?_)
  have bX:(⟨au,av,5,1,(qau flex null ((qaE s2).length) 2).length + (qaE s2).length,bc (qau flex null ((qaE s2).length) 2) ++ bc (qaE s2)⟩:Rw) = brow au av 5 (qau flex null ((qaE s2).length) 2 ++ (qaE s2)):=qbz (rfl) rfl
  obtain ⟨aK,dT⟩:=bV.rowEq 0 [brow au av 5 (qau flex null ((qaE s2).length) 2 ++ (qaE s2))] bX
  have bY:=EnvOk.pick bW (ks:=[42,43,44]) (env':=[(42,.v (.slice aI ((qau flex null ((qaE s2).length) 2).length) aJ)),(43,.v (.slice A6 ((qaE s2).length) c7)),(44,.v (.slice au ((qau flex null ((qaE s2).length) 2).length + (qaE s2).length) av))]) kz
  have bZ:=bY.cast (env':=[(42,.v (.slice aI ((qau flex null ((qaE s2).length) 2).length) aJ)),(43,.v (.slice A6 ((qaE s2).length) c7)),(44,.v (.slice au ((qau flex null ((qaE s2).length) 2 ++ (qaE s2)).length) av))]) (by simp only [List.length_append,List.length_cons,List.length_nil,Nat.zero_add])
  refine qaj [7] [] [(12,.v (.slice au ((qau flex null ((qaE s2).length) 2 ++ (qaE s2)).length) av))] aK bZ fun eL b8=>?_
  refine qaf (qab ?_)
  refine wp_ret ?_
  refine qax ?_
  refine qao ?_
  refine qaJ b8 aK.cells (v:=.slice au ((qau flex null ((qaE s2).length) 2 ++ (qaE s2)).length) av) kz ?_
  exact qa5 aK (k:=0) rfl (by (try simp only [and1]); simp [qaQ,Tree.S,Tree.N,ak,am,bB,ac,ae,ag,aE])
 have al:kind ≠ 8:=by simpa using ag
 refine qar [(0,.v (.int .i64 kind)),(1,.v (.slice A l.length c)),(2,.v (.bool null)),(3,.v (.int .i64 v)),(4,.v (.bool flex)),(11,.p 0 0),(16,.v (.int .i64 kind)),(45,.v (.bool (kind == 9)))] aa bu fun eM aL=>?_
 refine qay aL (b:=kind == 9) kz (fun ab=>?_) (fun ab=>?_)
 ·
  have aZ:kind = 9:=by simpa using ab
  refine qag [0,1,2,3] kz ?_
  refine qaj [0,1] [2,3] [(2,.v (.bool null)),(4,.v (.bool flex)),(48,.v (.slice A6 s2.length c7))] aa aL fun eN ca=>?_
  have dK:=qa8 s2
  refine qam (qal ca (f:=27) (vs:=[.slice A6 s2.length c7]) (d:=49) kz Tryd.call27 (qc6 _ _ s2 (aX.move aa.step nilM aa.imm).le _) ?_)
  rintro e_ eO ⟨rfl,ba⟩
  refine ⟨_,rfl,fun eP cb=>?_⟩
  have af:=aa.next_nil ba
  have dU:=aa.frN ba
  refine qaj [3] [] [(2,.v (.bool null)),(4,.v (.bool flex)),(15,.v (.slice A6 ((qaE s2).length) c7))] af cb fun eQ cc=>?_
  refine qaf (qab ?_)
  refine wp_seq ?_
  refine qar [(2,.v (.bool null)),(4,.v (.bool flex)),(15,.v (.slice A6 ((qaE s2).length) c7)),(50,.v (.bool null))] af cc fun eR aM=>?_
  refine qay aM (b:=null) kz (fun aN=>?_) (fun aN=>?_)
  ·
   refine qat [0] kz ?_
   refine qaj [0] [] [(2,.v (.bool null)),(4,.v (.bool flex)),(15,.v (.slice none 0 0))] af aM fun eS cd=>?_
   refine qaf (qab ?_)
   refine qag [0,1,2,3,4,5,6,7] kz ?_
   refine qaj [0,1,2,3] [4,5,6,7] [(15,.v (.slice none 0 0)),(51,.v (.bool flex)),(52,.v (.bool null)),(54,.v (.int .i64 0))] af cd fun eU ce=>?_
   refine qam (qal ce (f:=56) (vs:=[.bool flex,.bool null,.int .i64 0,.int .i64 4]) (d:=55) kz Tryd.call56 (qdu flex null 0 4 (by first | omega | exact Nat.le_trans (qa8 _) (by decide) | exact Nat.le_trans (qcm _) (by decide) | (simp; done) | (have:=hroom; omega)) (by first | decide | omega) _) ?_)
   rintro e_ eV ⟨aO,aP,rfl,cm,cq⟩
   refine ⟨_,rfl,fun eW cr=>?_⟩
   obtain ⟨bd,dV⟩:=af.frFresh cq (brow aO aP 5 (qau flex null 0 4)) (Nat.le_refl _) cm
   refine qaj [5] [6,7] [(55,.v (.slice aO ((qau flex null 0 4).length) aP)),(56,.v (.slice none 0 0))] bd cr fun eX cu=>?_
   refine qam (qaO bd cu (k:=0) (d:=57) (t:=22) (e:=5) (size:=1) (bytes:=1) (A:=aO) (As:=none) (m0:=((qau flex null 0 4).length)) (c:=aP) (m:=0) (cs:=0) (xs:=(bc (qau flex null 0 4))) (news:=bc ([]:Bs)) kz kz rfl (Octs.nil _ (fun _ _=>True)).src (fun _=>rfl) (by first | exact qc4 (by omega) (by decide) (by omega) | exact qc4 (Nat.le_trans (qa8 _) (by decide)) (by decide) (Nat.le_trans (qa8 _) (by decide)) | (simp; done)) fun aw ax eY eZ dW cw cz=>?_)
   have cA:(⟨aw,ax,5,1,(qau flex null 0 4).length + 0,bc (qau flex null 0 4) ++ bc ([]:Bs)⟩:Rw) = brow aw ax 5 (qau flex null 0 4 ++ ([]:Bs)):=qbz (rfl) rfl
   obtain ⟨aQ,dX⟩:=cw.rowEq 0 [brow aw ax 5 (qau flex null 0 4 ++ ([]:Bs))] cA
   have cB:=EnvOk.pick cz (ks:=[55,56,57]) (env':=[(55,.v (.slice aO ((qau flex null 0 4).length) aP)),(56,.v (.slice none 0 0)),(57,.v (.slice aw ((qau flex null 0 4).length + 0) ax))]) kz
   have cC:=cB.cast (env':=[(55,.v (.slice aO ((qau flex null 0 4).length) aP)),(56,.v (.slice none 0 0)),(57,.v (.slice aw ((qau flex null 0 4 ++ ([]:Bs)).length) ax))]) (by simp only [List.length_append,List.length_cons,List.length_nil,Nat.zero_add])
   refine qaj [7] [] [(12,.v (.slice aw ((qau flex null 0 4 ++ ([]:Bs)).length) ax))] aQ cC fun e9 cD=>?_
   refine qaf (qab ?_)
   refine wp_ret ?_
   refine qax ?_
   refine qao ?_
   refine qaJ cD aQ.cells (v:=.slice aw ((qau flex null 0 4 ++ ([]:Bs)).length) ax) kz ?_
   exact qa5 aQ (k:=0) rfl (by (try simp only [and1]); simp [qaQ,Tree.S,Tree.N,ak,am,al,aZ,ac,ae,ag,ab,aN])
  refine wp_skip ?_
  refine qab ?_
  refine qag [0,1,2,3,4,5,6,7] kz ?_
  refine qaj [0,1,2,3] [4,5,6,7] [(15,.v (.slice A6 ((qaE s2).length) c7)),(51,.v (.bool flex)),(52,.v (.bool null)),(54,.v (.int .i64 (((qaE s2).length:Nat):Int)))] af aM fun fa cE=>?_
  refine qam (qal cE (f:=56) (vs:=[.bool flex,.bool null,.int .i64 (((qaE s2).length:Nat):Int),.int .i64 4]) (d:=55) kz Tryd.call56 (qdu flex null ((qaE s2).length) 4 (by first | omega | exact Nat.le_trans (qa8 _) (by decide) | exact Nat.le_trans (qcm _) (by decide) | (simp; done) | (have:=hroom; omega)) (by first | decide | omega) _) ?_)
  rintro e_ fb ⟨aR,aS,rfl,cG,cH⟩
  refine ⟨_,rfl,fun fe cI=>?_⟩
  obtain ⟨ai,dY⟩:=af.frFresh cH (brow aR aS 5 (qau flex null ((qaE s2).length) 4)) (Nat.le_refl _) cG
  refine qaj [5] [6,7] [(55,.v (.slice aR ((qau flex null ((qaE s2).length) 4).length) aS)),(56,.v (.slice A6 ((qaE s2).length) c7))] ai cI fun ff cJ=>?_
  refine qam (qaO ai cJ (k:=0) (d:=57) (t:=22) (e:=5) (size:=1) (bytes:=1) (A:=aR) (As:=A6) (m0:=((qau flex null ((qaE s2).length) 4).length)) (c:=aS) (m:=((qaE s2).length)) (cs:=c7) (xs:=(bc (qau flex null ((qaE s2).length) 4))) (news:=bc (qaE s2)) kz kz rfl ((aX.take 32767).move ai.step nilM ai.imm).src ((aX.take 32767).move ai.step nilM ai.imm).cap (by first | exact qc4 (by omega) (by decide) (by omega) | exact qc4 (Nat.le_trans (qa8 _) (by decide)) (by decide) (Nat.le_trans (qa8 _) (by decide)) | (simp; done)) fun ay az fg fh dZ cK cL=>?_)
  have cM:(⟨ay,az,5,1,(qau flex null ((qaE s2).length) 4).length + (qaE s2).length,bc (qau flex null ((qaE s2).length) 4) ++ bc (qaE s2)⟩:Rw) = brow ay az 5 (qau flex null ((qaE s2).length) 4 ++ (qaE s2)):=qbz (rfl) rfl
  obtain ⟨aT,d5⟩:=cK.rowEq 0 [brow ay az 5 (qau flex null ((qaE s2).length) 4 ++ (qaE s2))] cM
  have cN:=EnvOk.pick cL (ks:=[55,56,57]) (env':=[(55,.v (.slice aR ((qau flex null ((qaE s2).length) 4).length) aS)),(56,.v (.slice A6 ((qaE s2).length) c7)),(57,.v (.slice ay ((qau flex null ((qaE s2).length) 4).length + (qaE s2).length) az))]) kz
  have cO:=cN.cast (env':=[(55,.v (.slice aR ((qau flex null ((qaE s2).length) 4).length) aS)),(56,.v (.slice A6 ((qaE s2).length) c7)),(57,.v (.slice ay ((qau flex null ((qaE s2).length) 4 ++ (qaE s2)).length) az))]) (by simp only [List.length_append,List.length_cons,List.length_nil,Nat.zero_add])
  refine qaj [7] [] [(12,.v (.slice ay ((qau flex null ((qaE s2).length) 4 ++ (qaE s2)).length) az))] aT cO fun fi cP=>?_
  refine qaf (qab ?_)
  refine wp_ret ?_
  refine qax ?_
  refine qao ?_
  refine qaJ cP aT.cells (v:=.slice ay ((qau flex null ((qaE s2).length) 4 ++ (qaE s2)).length) az) kz ?_
  exact qa5 aT (k:=0) rfl (by (try simp only [and1]); simp [qaQ,Tree.S,Tree.N,ak,am,al,aZ,ac,ae,ag,ab,aN])
 have aU:kind ≠ 9:=by simpa using ab
 refine qar [(0,.v (.int .i64 kind)),(1,.v (.slice A l.length c)),(3,.v (.int .i64 v)),(4,.v (.bool flex)),(11,.p 0 0),(58,.v (.bool (kind == 10)))] aa aL fun fj aV=>?_
 refine qay aV (b:=kind == 10) kz (fun aj=>?_) (fun aj=>?_)
 ·
  have bf:kind = 10:=by simpa using aj
  refine qag [0,1,2,3,4,5] kz ?_
  refine qaj [0,1,2,3] [4,5] [(60,.v (.slice A l.length c)),(61,.v (.int .i64 v)),(62,.v (.bool flex)),(63,.v (.agg #[.int .i64 n1,.slice A6 s2.length c7,.bool b3,.slice A8 l4.length c9,.slice df u5.length dg]))] aa aV fun fk cQ=>?_
  refine qam (qal cQ (f:=19) (vs:=[.slice A l.length c,.int .i64 v,.bool flex,.agg #[.int .i64 n1,.slice A6 s2.length c7,.bool b3,.slice A8 l4.length c9,.slice df u5.length dg]]) (d:=64) kz Tryd.call19 (hp _ _ l v flex _ (Tree.mk n1 s2 b3 l4 u5) _ _ ⟨xfs,(h1.move aa.step nilM aa.imm),(fun i_ x_ h_=>((h2 i_ x_ h_).move aa.step nilM aa.imm))⟩ hd (ht.move aa.step nilM aa.imm) (by simpa [qaQ,ak,am,al,aU,bf,ac,ae,ag,ab,aj] using hroom)) ?_)
  rintro e_ fm ⟨bw,bx,rfl,cR,cS⟩
  refine ⟨_,rfl,fun fo cT=>?_⟩
  obtain ⟨aW,d6⟩:=aa.frFresh cS (brow bw bx 5 (qaV d l v flex (Tree.mk n1 s2 b3 l4 u5))) (Nat.le_refl _) cR
  refine qaj [5] [] [(12,.v (.slice bw ((qaV d l v flex (Tree.mk n1 s2 b3 l4 u5)).length) bx))] aW cT fun fq cU=>?_
  refine qaf (qab ?_)
  refine wp_ret ?_
  refine qax ?_
  refine qao ?_
  refine qaJ cU aW.cells (v:=.slice bw ((qaV d l v flex (Tree.mk n1 s2 b3 l4 u5)).length) bx) kz ?_
  exact qa5 aW (k:=0) rfl (by (try simp only [and1]); simp [qaQ,Tree.S,Tree.N,ak,am,al,aU,bf,ac,ae,ag,ab,aj])
 have cV:kind ≠ 10:=by simpa using aj
 refine wp_skip ?_
 refine qaq ?_
 refine qab ?_
 refine qaG 5 kz aa fun fr d7 bg cW=>?_
 refine qaD [0,1,2] [(66,.v (.int .i64 n1)),(67,.v (.int .i64 kind))] 3 (qaa qad) (fun _ h=>h.cells) cW aV fun ft cX=>?_
 refine qaw (i:=3) kz (qal cX (f:=39) (vs:=[.int .i64 kind]) (d:=68) kz Tryd.call39 (qiN kind _) ?_)
 rintro e_ fu ⟨rfl,bh⟩
 refine ⟨_,rfl,fun fv cY=>?_⟩
 have bj:=bg.next_nil bh
 have bk:=bg.frN bh
 have cZ:=TT.ofW bk bj
 refine ⟨fun _=>cZ,?_⟩
 refine qaw (i:=4) kz (qal cY (f:=38) (vs:=[.int .i64 n1,.int .i64 ((qbg kind:Nat):Int)]) (d:=69) kz Tryd.call38 (qeT n1 (qbg kind) (by first | decide | exact qbh _ | omega) _) ?_)
 rintro e_ fw ⟨bz,bA,rfl,c5,c6⟩
 refine ⟨_,rfl,fun fx da=>?_⟩
 obtain ⟨aA,db⟩:=bj.frFresh c6 (brow bz bA 5 (be (qbg kind) n1)) (Nat.le_refl _) c5
 have dc:=TT.ofW (bk.trans db) aA
 refine ⟨fun _=>dc,?_⟩
 refine qaw (i:=5) kz (qa9 [12] aA.cells da (env':=[(12,.v (.slice bz ((be (qbg kind) n1).length) bA))]) kz fun fy de=>?_)
 refine ⟨fun h=>absurd rfl h,?_⟩
 refine qaF kz ?_ _
 refine qab ?_
 refine wp_ret ?_
 refine qaJ de aA.cells (v:=.slice bz ((be (qbg kind) n1).length) bA) kz ?_
 exact qa5 aA (k:=0) rfl (by (try simp only [and1]); simp [qaQ,Tree.S,Tree.N,ak,am,al,aU,cV,ac,ae,ag,ab,aj])
theorem qkX {d:Nat} (hp:qiO d) (cf:List Value) (f:Fld) (v:Int) (flex:Bool) (ct:List Value) (t:Tree) (w:World) (F:Nat → Nat → Prop) (hf:FldR w F cf f) (hd:depths f.sub ≤ d) (ht:TreeR w F ct t) (hroom:(qck d f v flex t).length ≤ 1099511627776) :
  Calls Tryd.prog 35 #[.agg cf.toArray,.int .i64 v,.bool flex,.agg ct.toArray] w (qdy w 5 (qck d f v flex t)):=by
 obtain ⟨n1,s2,b3,l4,u5,A6,c7,A8,c9,aK,aL,eX,rfl,rfl,eY,dV,eZ,gm⟩:=ht.open_
 have eu:=eY.small
 have ev:=dV.small
 obtain ⟨ac,af,ag,ae,ah,ai,ab,aa,ay,az,bx,rfl,rfl,ca,dU⟩:=hf.open_
 have ew:=ca.small
 refine enter (n:=76) Tryd.func35 rfl Tryd.ntmps35 kz fun a hE=>?_
 have hW:=WOk.start w Nil
 refine qag [0,1,2] kz ?_
 refine qam (qa7 hW hE (d:=4) (cs:=[.int .i64 ac,.int .i64 af,.int .i64 ag,.int .i64 ae,.int .i64 ah,.int .i64 ai,.int .i64 ab,.slice ay aa.length az]) kz fun ey gn gp e9 fa fb dW dX=>?_)
 refine qam (qa7 dW dX (d:=7) (cs:=[.int .i64 n1,.slice A6 s2.length c7,.bool b3,.slice A8 l4.length c9,.slice aK u5.length aL]) kz fun ez gq gt fe ff fg bz dY=>?_)
 refine qaj [2] [] [(1,.v (.int .i64 v)),(2,.v (.bool flex)),(4,.p 0 0),(7,.p 1 0)] bz dY fun gv dZ=>?_
 refine qaf (qab ?_)
 refine qag [0,1,2,3,4] kz ?_
 refine qaj [0,1,2] [3,4] [(1,.v (.int .i64 v)),(2,.v (.bool flex)),(4,.p 0 0),(7,.p 1 0),(13,.v (.agg #[.int .i64 ac,.int .i64 af,.int .i64 ag,.int .i64 ae,.int .i64 ah,.int .i64 ai,.int .i64 ab,.slice ay aa.length az])),(14,.v (.int .i64 v)),(15,.v (.agg #[.int .i64 n1,.slice A6 s2.length c7,.bool b3,.slice A8 l4.length c9,.slice aK u5.length aL]))] bz dZ fun gw d5=>?_
 refine qam (qal d5 (f:=40) (vs:=[.agg #[.int .i64 ac,.int .i64 af,.int .i64 ag,.int .i64 ae,.int .i64 ah,.int .i64 ai,.int .i64 ab,.slice ay aa.length az],.int .i64 v,.agg #[.int .i64 n1,.slice A6 s2.length c7,.bool b3,.slice A8 l4.length c9,.slice aK u5.length aL]]) (d:=16) kz Tryd.call40 (qkt ac af ag ae ah ai ab aa _ _ v n1 s2 b3 l4 u5 _ _ _ _ _ _ _) ?_)
 rintro e_ gx ⟨rfl,cb⟩
 refine ⟨_,rfl,fun gy d6=>?_⟩
 have aj:=bz.next_nil cb
 have fh:=bz.frN cb
 refine qaj [4] [] [(1,.v (.int .i64 v)),(2,.v (.bool flex)),(4,.p 0 0),(7,.p 1 0),(9,.v (.bool (Fld.nul (Fld.mk ac af ag ae ah ai ab aa) v (Tree.mk n1 s2 b3 l4 u5))))] aj d6 fun gz d7=>?_
 refine qaf (qab ?_)
 refine wp_seq ?_
 refine qar [(1,.v (.int .i64 v)),(2,.v (.bool flex)),(4,.p 0 0),(7,.p 1 0),(9,.v (.bool (Fld.nul (Fld.mk ac af ag ae ah ai ab aa) v (Tree.mk n1 s2 b3 l4 u5)))),(19,.v (.bool (ac == 11)))] aj d7 fun gA bN=>?_
 refine qay bN (b:=ac == 11) kz (fun bO=>?_) (fun bO=>?_)
 ·
  have fi:ac = 11:=by simpa using bO
  refine qag [0,1,2,3] kz ?_
  refine qaj [0,1] [2,3] [(1,.v (.int .i64 v)),(2,.v (.bool flex)),(4,.p 0 0),(9,.v (.bool (Fld.nul (Fld.mk ac af ag ae ah ai ab aa) v (Tree.mk n1 s2 b3 l4 u5)))),(21,.v (.slice A8 l4.length c9))] aj bN fun gB d8=>?_
  refine qam (qal d8 (f:=41) (vs:=[.slice A8 l4.length c9]) (d:=22) kz Tryd.call41 (qfv _ _ l4 (dV.move aj.step nilM aj.imm).le _) ?_)
  rintro e_ gC ⟨rfl,cc⟩
  refine ⟨_,rfl,fun gD d9=>?_⟩
  have aB:=aj.next_nil cc
  have fj:=aj.frN cc
  refine qaj [3] [] [(1,.v (.int .i64 v)),(2,.v (.bool flex)),(4,.p 0 0),(9,.v (.bool (Fld.nul (Fld.mk ac af ag ae ah ai ab aa) v (Tree.mk n1 s2 b3 l4 u5)))),(10,.v (.slice A8 ((qan l4).length) c9))] aB d9 fun gE ea=>?_
  refine qaf (qab ?_)
  refine wp_seq ?_
  refine qar [(1,.v (.int .i64 v)),(2,.v (.bool flex)),(4,.p 0 0),(9,.v (.bool (Fld.nul (Fld.mk ac af ag ae ah ai ab aa) v (Tree.mk n1 s2 b3 l4 u5)))),(10,.v (.slice A8 ((qan l4).length) c9)),(23,.v (.bool (Fld.nul (Fld.mk ac af ag ae ah ai ab aa) v (Tree.mk n1 s2 b3 l4 u5))))] aB ea fun gF bP=>?_
  refine qay bP (b:=Fld.nul (Fld.mk ac af ag ae ah ai ab aa) v (Tree.mk n1 s2 b3 l4 u5)) kz (fun eb=>?_) (fun eb=>?_)
  ·
   refine qat [0] kz ?_
   refine qaj [0] [] [(1,.v (.int .i64 v)),(2,.v (.bool flex)),(4,.p 0 0),(9,.v (.bool (Fld.nul (Fld.mk ac af ag ae ah ai ab aa) v (Tree.mk n1 s2 b3 l4 u5)))),(10,.v (.slice none 0 0))] aB bP fun gG ec=>?_
   refine qaf (qab ?_)
   refine qag [0,1,2,3,4,5] kz ?_
   refine qaj [0,1,2,3] [4,5] [(1,.v (.int .i64 v)),(2,.v (.bool flex)),(4,.p 0 0),(10,.v (.slice none 0 0)),(24,.v (.bool flex)),(25,.v (.bool (Fld.nul (Fld.mk ac af ag ae ah ai ab aa) v (Tree.mk n1 s2 b3 l4 u5)))),(27,.v (.int .i64 0))] aB ec fun gH ee=>?_
   refine qam (qal ee (f:=56) (vs:=[.bool flex,.bool (Fld.nul (Fld.mk ac af ag ae ah ai ab aa) v (Tree.mk n1 s2 b3 l4 u5)),.int .i64 0,.int .i64 4]) (d:=28) kz Tryd.call56 (qdu flex (Fld.nul (Fld.mk ac af ag ae ah ai ab aa) v (Tree.mk n1 s2 b3 l4 u5)) 0 4 (by first | omega | exact Nat.le_trans (qa8 _) (by decide) | exact Nat.le_trans (qcm _) (by decide) | (simp; done) | (have:=hroom; omega)) (by first | decide | omega) _) ?_)
   rintro e_ gI ⟨bZ,b8,rfl,ef,eg⟩
   refine ⟨_,rfl,fun gJ eh=>?_⟩
   obtain ⟨bQ,fk⟩:=aB.frFresh eg (brow bZ b8 5 (qau flex (Fld.nul (Fld.mk ac af ag ae ah ai ab aa) v (Tree.mk n1 s2 b3 l4 u5)) 0 4)) (Nat.le_refl _) ef
   refine qaj [5] [] [(1,.v (.int .i64 v)),(2,.v (.bool flex)),(4,.p 0 0),(10,.v (.slice none 0 0)),(11,.v (.slice bZ ((qau flex (Fld.nul (Fld.mk ac af ag ae ah ai ab aa) v (Tree.mk n1 s2 b3 l4 u5)) 0 4).length) b8))] bQ eh fun gK ei=>?_
   refine qaf (qab ?_)
   refine wp_seq ?_
   refine qar [(1,.v (.int .i64 v)),(2,.v (.bool flex)),(4,.p 0 0),(10,.v (.slice none 0 0)),(11,.v (.slice bZ ((qau flex (Fld.nul (Fld.mk ac af ag ae ah ai ab aa) v (Tree.mk n1 s2 b3 l4 u5)) 0 4).length) b8)),(30,.v (.int .i64 0)),(31,.v (.int .i64 0))] bQ ei fun gL cd=>?_
   refine wp_block ?_
   have hr2:(qau flex (Fld.nul (Fld.mk ac af ag ae ah ai ab aa) v (Tree.mk n1 s2 b3 l4 u5)) 0 4 ++ ([]:List Tree).flatMap (qaQ (qaV d aa v flex) ab false flex)).length ≤ 1099511627776:=by have h_:=hroom; rw [qe6 ‹_› ‹_›] at h_; exact h_
   rw [List.length_append] at hr2
   have hr3:=qcn ([]:List Tree) (qaQ (qaV d aa v flex) ab false flex)
   have ce:(qau flex (Fld.nul (Fld.mk ac af ag ae ah ai ab aa) v (Tree.mk n1 s2 b3 l4 u5)) 0 4) = (qau flex (Fld.nul (Fld.mk ac af ag ae ah ai ab aa) v (Tree.mk n1 s2 b3 l4 u5)) 0 4 ++ (([]:List Tree).take 0).flatMap (qaQ (qaV d aa v flex) ab false flex)):=by simp
   have cm:=congrArg (brow bZ b8 5) ce
   obtain ⟨bC,eB⟩:=bQ.rowEq 0 [brow bZ b8 5 (qau flex (Fld.nul (Fld.mk ac af ag ae ah ai ab aa) v (Tree.mk n1 s2 b3 l4 u5)) 0 4 ++ (([]:List Tree).take 0).flatMap (qaQ (qaV d aa v flex) ab false flex))] cm
   rw [ce] at cd
   refine wp_loop_ghost (fun n_ a_ w_=>∃ (k:Nat) (A_:Option Addr) (c_:Nat),n_ = 0 - k ∧ k ≤ 0 ∧ LInv bC 76 [⟨ey,0,[.int .i64 ac,.int .i64 af,.int .i64 ag,.int .i64 ae,.int .i64 ah,.int .i64 ai,.int .i64 ab,.slice ay aa.length az],true⟩,⟨ez,0,[.int .i64 n1,.slice A6 s2.length c7,.bool b3,.slice A8 l4.length c9,.slice aK u5.length aL],true⟩] [brow A_ c_ 5 (qau flex (Fld.nul (Fld.mk ac af ag ae ah ai ab aa) v (Tree.mk n1 s2 b3 l4 u5)) 0 4 ++ (([]:List Tree).take k).flatMap (qaQ (qaV d aa v flex) ab false flex))] [(1,.v (.int .i64 v)),(2,.v (.bool flex)),(4,.p 0 0),(10,.v (.slice none 0 0)),(11,.v (.slice A_ ((qau flex (Fld.nul (Fld.mk ac af ag ae ah ai ab aa) v (Tree.mk n1 s2 b3 l4 u5)) 0 4 ++ (([]:List Tree).take k).flatMap (qaQ (qaV d aa v flex) ab false flex)).length) c_)),(30,.v (.int .i64 0)),(31,.v (.int .i64 ((k:Nat):Int)))] a_ w_) (0) ⟨0,bZ,b8,by omega,by omega,cd.pk,bC,Fr.refl _ _ _⟩ ?_
   rintro fm fo fq ⟨k,A_,c_,eC,eD,cq,aE,eE⟩
   refine qar [(1,.v (.int .i64 v)),(2,.v (.bool flex)),(4,.p 0 0),(10,.v (.slice none 0 0)),(11,.v (.slice A_ ((qau flex (Fld.nul (Fld.mk ac af ag ae ah ai ab aa) v (Tree.mk n1 s2 b3 l4 u5)) 0 4 ++ (([]:List Tree).take k).flatMap (qaQ (qaV d aa v flex) ab false flex)).length) c_)),(30,.v (.int .i64 0)),(31,.v (.int .i64 ((k:Nat):Int))),(32,.v (.bool (decide (((k:Nat):Int) < 0))))] aE cq fun fr bD=>?_
   refine wp_seq ?_
   refine qap bD (b:=decide (((k:Nat):Int) < 0)) kz (decide_eq_false (by omega)) ?_
   refine wp_exit ?_
   refine qaB ?_
   refine qaB ?_
   refine qaL ?_
   refine qab ?_
   refine qar [(8,.v (.slice A_ ((qau flex (Fld.nul (Fld.mk ac af ag ae ah ai ab aa) v (Tree.mk n1 s2 b3 l4 u5)) 0 4 ++ (([]:List Tree).take k).flatMap (qaQ (qaV d aa v flex) ab false flex)).length) c_))] aE bD fun ft cr=>?_
   refine wp_ret ?_
   refine qao ?_
   refine qaJ cr aE.cells (v:=.slice A_ ((qau flex (Fld.nul (Fld.mk ac af ag ae ah ai ab aa) v (Tree.mk n1 s2 b3 l4 u5)) 0 4 ++ (([]:List Tree).take k).flatMap (qaQ (qaV d aa v flex) ab false flex)).length) c_) kz ?_
   exact qa5 aE (k:=0) rfl (by rw [qe6 ‹_› ‹_›]; simp)
  refine wp_skip ?_
  refine qab ?_
  refine qag [0,1,2,3,4,5] kz ?_
  refine qaj [0,1,2,3] [4,5] [(1,.v (.int .i64 v)),(2,.v (.bool flex)),(4,.p 0 0),(10,.v (.slice A8 ((qan l4).length) c9)),(24,.v (.bool flex)),(25,.v (.bool (Fld.nul (Fld.mk ac af ag ae ah ai ab aa) v (Tree.mk n1 s2 b3 l4 u5)))),(27,.v (.int .i64 (((qan l4).length:Nat):Int)))] aB bP fun fu cu=>?_
  refine qam (qal cu (f:=56) (vs:=[.bool flex,.bool (Fld.nul (Fld.mk ac af ag ae ah ai ab aa) v (Tree.mk n1 s2 b3 l4 u5)),.int .i64 (((qan l4).length:Nat):Int),.int .i64 4]) (d:=28) kz Tryd.call56 (qdu flex (Fld.nul (Fld.mk ac af ag ae ah ai ab aa) v (Tree.mk n1 s2 b3 l4 u5)) ((qan l4).length) 4 (by first | omega | exact Nat.le_trans (qa8 _) (by decide) | exact Nat.le_trans (qcm _) (by decide) | (simp; done) | (have:=hroom; omega)) (by first | decide | omega) _) ?_)
  rintro e_ fv ⟨aM,aN,rfl,cw,cz⟩
  refine ⟨_,rfl,fun fw cA=>?_⟩
  obtain ⟨aO,eF⟩:=aB.frFresh cz (brow aM aN 5 (qau flex (Fld.nul (Fld.mk ac af ag ae ah ai ab aa) v (Tree.mk n1 s2 b3 l4 u5)) ((qan l4).length) 4)) (Nat.le_refl _) cw
  refine qaj [5] [] [(1,.v (.int .i64 v)),(2,.v (.bool flex)),(4,.p 0 0),(10,.v (.slice A8 ((qan l4).length) c9)),(11,.v (.slice aM ((qau flex (Fld.nul (Fld.mk ac af ag ae ah ai ab aa) v (Tree.mk n1 s2 b3 l4 u5)) ((qan l4).length) 4).length) aN))] aO cA fun fx cB=>?_
  refine qaf (qab ?_)
  refine wp_seq ?_
  refine qar [(1,.v (.int .i64 v)),(2,.v (.bool flex)),(4,.p 0 0),(10,.v (.slice A8 ((qan l4).length) c9)),(11,.v (.slice aM ((qau flex (Fld.nul (Fld.mk ac af ag ae ah ai ab aa) v (Tree.mk n1 s2 b3 l4 u5)) ((qan l4).length) 4).length) aN)),(30,.v (.int .i64 (((qan l4).length:Nat):Int))),(31,.v (.int .i64 0))] aO cB fun fy bE=>?_
  refine wp_block ?_
  have hr2:(qau flex (Fld.nul (Fld.mk ac af ag ae ah ai ab aa) v (Tree.mk n1 s2 b3 l4 u5)) ((qan l4).length) 4 ++ (qan l4).flatMap (qaQ (qaV d aa v flex) ab false flex)).length ≤ 1099511627776:=by have h_:=hroom; rw [qfP ‹_› ‹_›] at h_; exact h_
  rw [List.length_append] at hr2
  have hr3:=qcn (qan l4) (qaQ (qaV d aa v flex) ab false flex)
  have hsm3:(qan l4).length ≤ 32767:=by simp only [qan,List.length_take]; omega
  have bF:(qau flex (Fld.nul (Fld.mk ac af ag ae ah ai ab aa) v (Tree.mk n1 s2 b3 l4 u5)) ((qan l4).length) 4) = (qau flex (Fld.nul (Fld.mk ac af ag ae ah ai ab aa) v (Tree.mk n1 s2 b3 l4 u5)) ((qan l4).length) 4 ++ ((qan l4).take 0).flatMap (qaQ (qaV d aa v flex) ab false flex)):=by simp
  have cC:=congrArg (brow aM aN 5) bF
  obtain ⟨bG,eG⟩:=aO.rowEq 0 [brow aM aN 5 (qau flex (Fld.nul (Fld.mk ac af ag ae ah ai ab aa) v (Tree.mk n1 s2 b3 l4 u5)) ((qan l4).length) 4 ++ ((qan l4).take 0).flatMap (qaQ (qaV d aa v flex) ab false flex))] cC
  rw [bF] at bE
  refine wp_loop_ghost (fun n_ a_ w_=>∃ (k:Nat) (A_:Option Addr) (c_:Nat),n_ = (qan l4).length - k ∧ k ≤ (qan l4).length ∧ LInv bG 76 [⟨ey,0,[.int .i64 ac,.int .i64 af,.int .i64 ag,.int .i64 ae,.int .i64 ah,.int .i64 ai,.int .i64 ab,.slice ay aa.length az],true⟩,⟨ez,0,[.int .i64 n1,.slice A6 s2.length c7,.bool b3,.slice A8 l4.length c9,.slice aK u5.length aL],true⟩] [brow A_ c_ 5 (qau flex (Fld.nul (Fld.mk ac af ag ae ah ai ab aa) v (Tree.mk n1 s2 b3 l4 u5)) ((qan l4).length) 4 ++ ((qan l4).take k).flatMap (qaQ (qaV d aa v flex) ab false flex))] [(1,.v (.int .i64 v)),(2,.v (.bool flex)),(4,.p 0 0),(10,.v (.slice A8 ((qan l4).length) c9)),(11,.v (.slice A_ ((qau flex (Fld.nul (Fld.mk ac af ag ae ah ai ab aa) v (Tree.mk n1 s2 b3 l4 u5)) ((qan l4).length) 4 ++ ((qan l4).take k).flatMap (qaQ (qaV d aa v flex) ab false flex)).length) c_)),(30,.v (.int .i64 (((qan l4).length:Nat):Int))),(31,.v (.int .i64 ((k:Nat):Int)))] a_ w_) ((qan l4).length) ⟨0,aM,aN,by omega,by omega,bE.pk,bG,Fr.refl _ _ _⟩ ?_
  rintro fz fA fB ⟨k,A_,c_,eH,eI,cD,ax,cE⟩
  refine qar [(1,.v (.int .i64 v)),(2,.v (.bool flex)),(4,.p 0 0),(10,.v (.slice A8 ((qan l4).length) c9)),(11,.v (.slice A_ ((qau flex (Fld.nul (Fld.mk ac af ag ae ah ai ab aa) v (Tree.mk n1 s2 b3 l4 u5)) ((qan l4).length) 4 ++ ((qan l4).take k).flatMap (qaQ (qaV d aa v flex) ab false flex)).length) c_)),(30,.v (.int .i64 (((qan l4).length:Nat):Int))),(31,.v (.int .i64 ((k:Nat):Int))),(32,.v (.bool (decide (((k:Nat):Int) < (((qan l4).length:Nat):Int)))))] ax cD fun fC aP=>?_
  refine wp_seq ?_
  refine qay aP (b:=decide (((k:Nat):Int) < (((qan l4).length:Nat):Int))) kz (fun aQ=>?_) (fun aQ=>?_)
  ·
   have eJ:=of_decide_eq_true aQ
   refine wp_skip ?_
   refine qab ?_
   refine wp_seq ?_
   refine wp_block ?_
   refine qar [(1,.v (.int .i64 v)),(2,.v (.bool flex)),(4,.p 0 0),(10,.v (.slice A8 ((qan l4).length) c9)),(11,.v (.slice A_ ((qau flex (Fld.nul (Fld.mk ac af ag ae ah ai ab aa) v (Tree.mk n1 s2 b3 l4 u5)) ((qan l4).length) 4 ++ ((qan l4).take k).flatMap (qaQ (qaV d aa v flex) ab false flex)).length) c_)),(12,.v (.int .i64 ((k:Nat):Int))),(30,.v (.int .i64 (((qan l4).length:Nat):Int))),(31,.v (.int .i64 ((k:Nat):Int)))] ax aP fun fD cG=>?_
   refine qdd 13 kz ax fun fE cH ar aR=>?_
   refine qaD [0,1,2,3,4,5,6,7,8] [(1,.v (.int .i64 v)),(2,.v (.bool flex)),(4,.p 0 0),(10,.v (.slice A8 ((qan l4).length) c9)),(11,.v (.slice A_ ((qau flex (Fld.nul (Fld.mk ac af ag ae ah ai ab aa) v (Tree.mk n1 s2 b3 l4 u5)) ((qan l4).length) 4 ++ ((qan l4).take k).flatMap (qaQ (qaV d aa v flex) ab false flex)).length) c_)),(30,.v (.int .i64 (((qan l4).length:Nat):Int))),(31,.v (.int .i64 ((k:Nat):Int))),(34,.v (.slice A_ ((qau flex (Fld.nul (Fld.mk ac af ag ae ah ai ab aa) v (Tree.mk n1 s2 b3 l4 u5)) ((qan l4).length) 4 ++ ((qan l4).take k).flatMap (qaQ (qaV d aa v flex) ab false flex)).length) c_)),(36,.v (.int .i64 ab)),(38,.v (.slice ay aa.length az)),(39,.v (.int .i64 v)),(40,.v (.bool flex)),(41,.v (.slice A8 ((qan l4).length) c9)),(42,.v (.int .i64 ((k:Nat):Int)))] 5 (qac (qaa (qaa (qac (qaa (qaa qad)))))) (fun _ h=>h.cells) aR cG fun fF cI=>?_
   obtain ⟨bR,bS,cJ,eK,aS⟩:=Slots.get (qct dV) (i:=k) (by omega)
   obtain ⟨ej,aF⟩:∃ x,(qan l4)[k]? = some x:=⟨_,List.getElem?_eq_getElem (by omega)⟩
   have aT:=(qcR eZ) k ej aF
   obtain ⟨ak,al,am,ao,ap,aU,aV,aW,aX,aY,aZ,eL,rfl,ba,ek,em,fG,fH⟩:=aT.open_
   rw [ba] at aT
   have eo:=ek.small
   have ep:=em.small
   rw [ba] at aS
   refine qaH cI (i:=9) (t:=23) (A:=A8) (m:=((qan l4).length)) (q:=((k:Nat):Int)) (d:=43) kz (e:=26) (size:=5) (bytes:=88) kz cJ rfl (by omega) kz kz (qac (qaa (qaa (qac (qaa (qaa qad)))))) aR fun fI cK=>?_
   refine qaT cK (i:=10) (t:=26) (b:=bR) (o:=bS + k * 5) (d:=44) kz (cs:=[.int .i64 ak,.slice aU al.length aV,.bool am,.slice aW ao.length aX,.slice aY ap.length aZ]) (v:=.agg #[.int .i64 ak,.slice aU al.length aV,.bool am,.slice aW ao.length aX,.slice aY ap.length aZ]) kz (fun w' h'=>(AtF.move aS (TT.step0 ar h') nilM qaX).at_) kz kz (qac (qaa (qaa (qac (qaa (qaa qad)))))) aR fun fJ cL=>?_
   refine qaw (i:=11) kz (qal cL (f:=57) (vs:=[.int .i64 ab,.slice ay aa.length az,.bool false,.int .i64 v,.bool flex,.agg #[.int .i64 ak,.slice aU al.length aV,.bool am,.slice aW ao.length aX,.slice aY ap.length aZ]]) (d:=45) kz Tryd.call57 (qiP hp ab _ _ aa false v flex _ (Tree.mk ak al am ao ap) _ _ ⟨bx,(ca.move ar.step nilM ar.imm),(fun i_ x_ h_=>((dU i_ x_ h_).move ar.step nilM ar.imm))⟩ hd (aT.move ar.step nilM ar.imm) (by have:=qe5 (g:=qaQ (qaV d aa v flex) ab false flex) aF; omega)) ?_)
   rintro e_ fK ⟨bd,bf,rfl,cM,cN⟩
   refine ⟨_,rfl,fun fL cO=>?_⟩
   obtain ⟨aG,bg⟩:=ar.frFresh cN (brow bd bf 5 (qaQ (qaV d aa v flex) ab false flex (Tree.mk ak al am ao ap))) (Nat.le_refl _) cM
   have cP:=TT.ofW bg aG
   refine ⟨fun _=>cP,?_⟩
   refine qaw (i:=12) kz (qaO aG cO (k:=0) (d:=46) (t:=22) (e:=5) (size:=1) (bytes:=1) (A:=A_) (As:=bd) (m0:=((qau flex (Fld.nul (Fld.mk ac af ag ae ah ai ab aa) v (Tree.mk n1 s2 b3 l4 u5)) ((qan l4).length) 4 ++ ((qan l4).take k).flatMap (qaQ (qaV d aa v flex) ab false flex)).length)) (c:=c_) (m:=((qaQ (qaV d aa v flex) ab false flex (Tree.mk ak al am ao ap)).length)) (cs:=bf) (xs:=(bc (qau flex (Fld.nul (Fld.mk ac af ag ae ah ai ab aa) v (Tree.mk n1 s2 b3 l4 u5)) ((qan l4).length) 4 ++ ((qan l4).take k).flatMap (qaQ (qaV d aa v flex) ab false flex)))) (news:=bc (qaQ (qaV d aa v flex) ab false flex (Tree.mk ak al am ao ap))) kz kz rfl (qbo (aG.own 1 _ rfl) (qcH _)) (qbA (aG.own 1 _ rfl)) (by rw [List.length_append]; have h8_:=hr3 k; have h9_:=qe5 (g:=qaQ (qaV d aa v flex) ab false flex) aF; omega) fun av aw fM fN bH cQ cR=>?_)
   have cS:(⟨av,aw,5,1,(qau flex (Fld.nul (Fld.mk ac af ag ae ah ai ab aa) v (Tree.mk n1 s2 b3 l4 u5)) ((qan l4).length) 4 ++ ((qan l4).take k).flatMap (qaQ (qaV d aa v flex) ab false flex)).length + (qaQ (qaV d aa v flex) ab false flex (Tree.mk ak al am ao ap)).length,bc (qau flex (Fld.nul (Fld.mk ac af ag ae ah ai ab aa) v (Tree.mk n1 s2 b3 l4 u5)) ((qan l4).length) 4 ++ ((qan l4).take k).flatMap (qaQ (qaV d aa v flex) ab false flex)) ++ bc (qaQ (qaV d aa v flex) ab false flex (Tree.mk ak al am ao ap))⟩:Rw) = brow av aw 5 (qau flex (Fld.nul (Fld.mk ac af ag ae ah ai ab aa) v (Tree.mk n1 s2 b3 l4 u5)) ((qan l4).length) 4 ++ ((qan l4).take k).flatMap (qaQ (qaV d aa v flex) ab false flex) ++ (qaQ (qaV d aa v flex) ab false flex (Tree.mk ak al am ao ap))):=qbz (rfl) rfl
   obtain ⟨aH,bI⟩:=cQ.rowEq 0 [brow av aw 5 (qau flex (Fld.nul (Fld.mk ac af ag ae ah ai ab aa) v (Tree.mk n1 s2 b3 l4 u5)) ((qan l4).length) 4 ++ ((qan l4).take k).flatMap (qaQ (qaV d aa v flex) ab false flex) ++ (qaQ (qaV d aa v flex) ab false flex (Tree.mk ak al am ao ap))),brow bd bf 5 (qaQ (qaV d aa v flex) ab false flex (Tree.mk ak al am ao ap))] cS
   have cT:=EnvOk.pick cR (ks:=[1,2,4,10,11,30,31,34,36,38,39,40,41,42,43,44,45,46]) (env':=[(1,.v (.int .i64 v)),(2,.v (.bool flex)),(4,.p 0 0),(10,.v (.slice A8 ((qan l4).length) c9)),(11,.v (.slice A_ ((qau flex (Fld.nul (Fld.mk ac af ag ae ah ai ab aa) v (Tree.mk n1 s2 b3 l4 u5)) ((qan l4).length) 4 ++ ((qan l4).take k).flatMap (qaQ (qaV d aa v flex) ab false flex)).length) c_)),(30,.v (.int .i64 (((qan l4).length:Nat):Int))),(31,.v (.int .i64 ((k:Nat):Int))),(34,.v (.slice A_ ((qau flex (Fld.nul (Fld.mk ac af ag ae ah ai ab aa) v (Tree.mk n1 s2 b3 l4 u5)) ((qan l4).length) 4 ++ ((qan l4).take k).flatMap (qaQ (qaV d aa v flex) ab false flex)).length) c_)),(36,.v (.int .i64 ab)),(38,.v (.slice ay aa.length az)),(39,.v (.int .i64 v)),(40,.v (.bool flex)),(41,.v (.slice A8 ((qan l4).length) c9)),(42,.v (.int .i64 ((k:Nat):Int))),(43,.v (.pointer (some ⟨bR,bS + k * 5,none⟩))),(44,.v (.agg #[.int .i64 ak,.slice aU al.length aV,.bool am,.slice aW ao.length aX,.slice aY ap.length aZ])),(45,.v (.slice bd ((qaQ (qaV d aa v flex) ab false flex (Tree.mk ak al am ao ap)).length) bf)),(46,.v (.slice av ((qau flex (Fld.nul (Fld.mk ac af ag ae ah ai ab aa) v (Tree.mk n1 s2 b3 l4 u5)) ((qan l4).length) 4 ++ ((qan l4).take k).flatMap (qaQ (qaV d aa v flex) ab false flex)).length + (qaQ (qaV d aa v flex) ab false flex (Tree.mk ak al am ao ap)).length) aw))]) kz
   have cU:=cT.cast (env':=[(1,.v (.int .i64 v)),(2,.v (.bool flex)),(4,.p 0 0),(10,.v (.slice A8 ((qan l4).length) c9)),(11,.v (.slice A_ ((qau flex (Fld.nul (Fld.mk ac af ag ae ah ai ab aa) v (Tree.mk n1 s2 b3 l4 u5)) ((qan l4).length) 4 ++ ((qan l4).take k).flatMap (qaQ (qaV d aa v flex) ab false flex)).length) c_)),(30,.v (.int .i64 (((qan l4).length:Nat):Int))),(31,.v (.int .i64 ((k:Nat):Int))),(34,.v (.slice A_ ((qau flex (Fld.nul (Fld.mk ac af ag ae ah ai ab aa) v (Tree.mk n1 s2 b3 l4 u5)) ((qan l4).length) 4 ++ ((qan l4).take k).flatMap (qaQ (qaV d aa v flex) ab false flex)).length) c_)),(36,.v (.int .i64 ab)),(38,.v (.slice ay aa.length az)),(39,.v (.int .i64 v)),(40,.v (.bool flex)),(41,.v (.slice A8 ((qan l4).length) c9)),(42,.v (.int .i64 ((k:Nat):Int))),(43,.v (.pointer (some ⟨bR,bS + k * 5,none⟩))),(44,.v (.agg #[.int .i64 ak,.slice aU al.length aV,.bool am,.slice aW ao.length aX,.slice aY ap.length aZ])),(45,.v (.slice bd ((qaQ (qaV d aa v flex) ab false flex (Tree.mk ak al am ao ap)).length) bf)),(46,.v (.slice av ((qau flex (Fld.nul (Fld.mk ac af ag ae ah ai ab aa) v (Tree.mk n1 s2 b3 l4 u5)) ((qan l4).length) 4 ++ ((qan l4).take k).flatMap (qaQ (qaV d aa v flex) ab false flex) ++ (qaQ (qaV d aa v flex) ab false flex (Tree.mk ak al am ao ap))).length) aw))]) (by simp only [List.length_append,List.length_cons,List.length_nil,Nat.zero_add])
   have cV:=TT.ofW ((bg.trans bH).trans bI) aH
   refine ⟨fun _=>cV,?_⟩
   refine qaw (i:=13) kz (qa9 [1,2,4,10,11,30,31] aH.cells cU (env':=[(1,.v (.int .i64 v)),(2,.v (.bool flex)),(4,.p 0 0),(10,.v (.slice A8 ((qan l4).length) c9)),(11,.v (.slice av ((qau flex (Fld.nul (Fld.mk ac af ag ae ah ai ab aa) v (Tree.mk n1 s2 b3 l4 u5)) ((qan l4).length) 4 ++ ((qan l4).take k).flatMap (qaQ (qaV d aa v flex) ab false flex) ++ (qaQ (qaV d aa v flex) ab false flex (Tree.mk ak al am ao ap))).length) aw)),(30,.v (.int .i64 (((qan l4).length:Nat):Int))),(31,.v (.int .i64 ((k:Nat):Int)))]) kz fun fO cW=>?_)
   refine ⟨fun h=>absurd rfl h,?_⟩
   refine qaF kz ?_ _
   refine qaq ?_
   refine qab ?_
   refine qat [0,1] kz ?_
   refine qaj [0,1] [] [(1,.v (.int .i64 v)),(2,.v (.bool flex)),(4,.p 0 0),(10,.v (.slice A8 ((qan l4).length) c9)),(11,.v (.slice av ((qau flex (Fld.nul (Fld.mk ac af ag ae ah ai ab aa) v (Tree.mk n1 s2 b3 l4 u5)) ((qan l4).length) 4 ++ ((qan l4).take k).flatMap (qaQ (qaV d aa v flex) ab false flex) ++ (qaQ (qaV d aa v flex) ab false flex (Tree.mk ak al am ao ap))).length) aw)),(30,.v (.int .i64 (((qan l4).length:Nat):Int))),(31,.v (.int .i64 (IntKind.i64.wrap (((k:Nat):Int) + 1))))] aH cW fun fP bh=>?_
   refine qaf (qab ?_)
   obtain ⟨cX,cY⟩:=aH.cutR 1 [brow av aw 5 (qau flex (Fld.nul (Fld.mk ac af ag ae ah ai ab aa) v (Tree.mk n1 s2 b3 l4 u5)) ((qan l4).length) 4 ++ ((qan l4).take k).flatMap (qaQ (qaV d aa v flex) ab false flex) ++ (qaQ (qaV d aa v flex) ab false flex (Tree.mk ak al am ao ap)))]
   have bJ:(qau flex (Fld.nul (Fld.mk ac af ag ae ah ai ab aa) v (Tree.mk n1 s2 b3 l4 u5)) ((qan l4).length) 4 ++ ((qan l4).take k).flatMap (qaQ (qaV d aa v flex) ab false flex) ++ (qaQ (qaV d aa v flex) ab false flex (Tree.mk ak al am ao ap))) = (qau flex (Fld.nul (Fld.mk ac af ag ae ah ai ab aa) v (Tree.mk n1 s2 b3 l4 u5)) ((qan l4).length) 4 ++ ((qan l4).take (k + 1)).flatMap (qaQ (qaV d aa v flex) ab false flex)):=by rw [qcI aF,List.append_assoc]
   have cZ:=congrArg (brow av aw 5) bJ
   obtain ⟨c5,c6⟩:=cX.rowEq 0 [brow av aw 5 (qau flex (Fld.nul (Fld.mk ac af ag ae ah ai ab aa) v (Tree.mk n1 s2 b3 l4 u5)) ((qan l4).length) 4 ++ ((qan l4).take (k + 1)).flatMap (qaQ (qaV d aa v flex) ab false flex))] cZ
   rw [bJ] at bh
   have da:IntKind.i64.wrap (((k:Nat):Int) + 1) = ((k + 1:Nat):Int):=qaN (by omega)
   rw [da] at bh
   exact ⟨(qan l4).length - (k + 1),by omega,k + 1,av,aw,rfl,by omega,bh.pk,c5,((((((cE.trans cH).trans bg).trans bH).trans bI).trans cY).trans c6)⟩
  have eM:=of_decide_eq_false aQ
  refine wp_exit ?_
  refine qaB ?_
  refine qaB ?_
  refine qaL ?_
  refine qab ?_
  refine qar [(8,.v (.slice A_ ((qau flex (Fld.nul (Fld.mk ac af ag ae ah ai ab aa) v (Tree.mk n1 s2 b3 l4 u5)) ((qan l4).length) 4 ++ ((qan l4).take k).flatMap (qaQ (qaV d aa v flex) ab false flex)).length) c_))] ax aP fun fQ db=>?_
  refine wp_ret ?_
  refine qao ?_
  refine qaJ db ax.cells (v:=.slice A_ ((qau flex (Fld.nul (Fld.mk ac af ag ae ah ai ab aa) v (Tree.mk n1 s2 b3 l4 u5)) ((qan l4).length) 4 ++ ((qan l4).take k).flatMap (qaQ (qaV d aa v flex) ab false flex)).length) c_) kz ?_
  have hkk:(qan l4).take k = qan l4:=List.take_of_length_le (by omega)
  exact qa5 ax (k:=0) rfl (by rw [hkk,qfP ‹_› ‹_›]; rfl)
 have eN:ac ≠ 11:=by simpa using bO
 refine wp_skip ?_
 refine qab ?_
 refine wp_seq ?_
 refine qag [0,1,2,3,4,5,6,7] kz ?_
 refine qaj [0,1,2,3] [4,5,6,7] [(1,.v (.int .i64 v)),(2,.v (.bool flex)),(4,.p 0 0),(7,.p 1 0),(9,.v (.bool (Fld.nul (Fld.mk ac af ag ae ah ai ab aa) v (Tree.mk n1 s2 b3 l4 u5)))),(52,.v (.bool (ac == 10)))] aj bN fun fR bK=>?_
 refine (Bool.eq_false_or_eq_true (ac == 10)).elim (fun aA=>?_) (fun aA=>?_)
 ·
  have eO:ac = 10:=by simpa using aA
  have dc:=bK.cast (env':=[(1,.v (.int .i64 v)),(2,.v (.bool flex)),(4,.p 0 0),(7,.p 1 0),(9,.v (.bool (Fld.nul (Fld.mk ac af ag ae ah ai ab aa) v (Tree.mk n1 s2 b3 l4 u5)))),(52,.v (.bool true))]) (by rw [aA])
  refine qaj [4,5,6,7] [] [(1,.v (.int .i64 v)),(2,.v (.bool flex)),(4,.p 0 0),(7,.p 1 0),(9,.v (.bool (Fld.nul (Fld.mk ac af ag ae ah ai ab aa) v (Tree.mk n1 s2 b3 l4 u5)))),(56,.v (.bool (decide (ae ≥ 0))))] aj dc fun fS bj=>?_
  refine qaf (qab ?_)
  refine qay bj (b:=decide (ae ≥ 0)) kz (fun bk=>?_) (fun bk=>?_)
  ·
   have eP:=of_decide_eq_true bk
   refine wp_seq ?_
   refine qar [(1,.v (.int .i64 v)),(2,.v (.bool flex)),(4,.p 0 0),(7,.p 1 0),(57,.v (.bool (Fld.nul (Fld.mk ac af ag ae ah ai ab aa) v (Tree.mk n1 s2 b3 l4 u5))))] aj bj fun fT bn=>?_
   refine qay bn (b:=Fld.nul (Fld.mk ac af ag ae ah ai ab aa) v (Tree.mk n1 s2 b3 l4 u5)) kz (fun de=>?_) (fun de=>?_)
   ·
    refine qag [0,1] kz ?_
    refine qam (qal bn (f:=38) (vs:=[.int .i64 (-1),.int .i64 1]) (d:=58) kz Tryd.call38 (qeT (-1) 1 (by first | decide | exact qbh _ | omega) _) ?_)
    rintro e_ fU ⟨bT,bU,rfl,df,dg⟩
    refine ⟨_,rfl,fun fV dh=>?_⟩
    obtain ⟨bo,eQ⟩:=aj.frFresh dg (brow bT bU 5 (be 1 (-1))) (Nat.le_refl _) df
    refine qaj [1] [] [(8,.v (.slice bT ((be 1 (-1)).length) bU))] bo dh fun fW di=>?_
    refine qaf (qab ?_)
    refine wp_ret ?_
    refine qao ?_
    refine qao ?_
    refine qaJ di bo.cells (v:=.slice bT ((be 1 (-1)).length) bU) kz ?_
    exact qa5 bo (k:=0) rfl (by first | rw [qdh ‹_› ‹_›] | rw [qdg ‹_› ‹_› ‹_›] | rw [qcJ ‹_› ‹_› ‹_› ‹_›] | rw [qdf ‹_› ‹_› ‹_› ‹_›])
   refine wp_skip ?_
   refine qab ?_
   refine qaG 8 kz aj fun fX eR dj dl=>?_
   refine qaD [1,2,3,4,5] [(61,.v (.slice ay aa.length az)),(62,.v (.int .i64 v)),(63,.v (.bool flex)),(64,.v (.agg #[.int .i64 n1,.slice A6 s2.length c7,.bool b3,.slice A8 l4.length c9,.slice aK u5.length aL]))] 4 (qaa (qaa qad)) (fun _ h=>h.cells) dl bn fun fY dp=>?_
   refine qaw (i:=0) kz (qal dp (f:=38) (vs:=[.int .i64 1,.int .i64 1]) (d:=59) kz Tryd.call38 (qeT 1 1 (by first | decide | exact qbh _ | omega) _) ?_)
   rintro e_ fZ ⟨bA,bB,rfl,dq,dr⟩
   refine ⟨_,rfl,fun f5 dt=>?_⟩
   obtain ⟨au,bp⟩:=dj.frFresh dr (brow bA bB 5 (be 1 1)) (Nat.le_refl _) dq
   have du:=TT.ofW bp au
   refine ⟨fun _=>du,?_⟩
   refine qaw (i:=6) kz (qal dt (f:=19) (vs:=[.slice ay aa.length az,.int .i64 v,.bool flex,.agg #[.int .i64 n1,.slice A6 s2.length c7,.bool b3,.slice A8 l4.length c9,.slice aK u5.length aL]]) (d:=65) kz Tryd.call19 (hp _ _ aa v flex _ (Tree.mk n1 s2 b3 l4 u5) _ _ ⟨bx,(ca.move au.step nilM au.imm),(fun i_ x_ h_=>((dU i_ x_ h_).move au.step nilM au.imm))⟩ hd (ht.move au.step nilM au.imm) (by have h9_:=hroom; rw [qcJ ‹_› ‹_› ‹_› ‹_›,List.length_append] at h9_; omega)) ?_)
   rintro e_ f7 ⟨bq,bt,rfl,dv,dw⟩
   refine ⟨_,rfl,fun f8 dx=>?_⟩
   obtain ⟨aI,bL⟩:=au.frFresh dw (brow bq bt 5 (qaV d aa v flex (Tree.mk n1 s2 b3 l4 u5))) (Nat.le_refl _) dv
   have dy:=TT.ofW (bp.trans bL) aI
   refine ⟨fun _=>dy,?_⟩
   refine qaw (i:=7) kz (qaO aI dx (k:=0) (d:=66) (t:=22) (e:=5) (size:=1) (bytes:=1) (A:=bA) (As:=bq) (m0:=((be 1 1).length)) (c:=bB) (m:=((qaV d aa v flex (Tree.mk n1 s2 b3 l4 u5)).length)) (cs:=bt) (xs:=(bc (be 1 1))) (news:=bc (qaV d aa v flex (Tree.mk n1 s2 b3 l4 u5))) kz kz rfl (qbo (aI.own 1 _ rfl) (qcH _)) (qbA (aI.own 1 _ rfl)) (by have h9_:=hroom; rw [qcJ ‹_› ‹_› ‹_› ‹_›,List.length_append] at h9_; omega) fun aC aD f9 ga dA dB dC=>?_)
   have dD:(⟨aC,aD,5,1,(be 1 1).length + (qaV d aa v flex (Tree.mk n1 s2 b3 l4 u5)).length,bc (be 1 1) ++ bc (qaV d aa v flex (Tree.mk n1 s2 b3 l4 u5))⟩:Rw) = brow aC aD 5 (be 1 1 ++ (qaV d aa v flex (Tree.mk n1 s2 b3 l4 u5))):=qbz (rfl) rfl
   obtain ⟨aJ,dE⟩:=dB.rowEq 0 [brow aC aD 5 (be 1 1 ++ (qaV d aa v flex (Tree.mk n1 s2 b3 l4 u5))),brow bq bt 5 (qaV d aa v flex (Tree.mk n1 s2 b3 l4 u5))] dD
   have dF:=EnvOk.pick dC (ks:=[61,62,63,64,59,65,66]) (env':=[(61,.v (.slice ay aa.length az)),(62,.v (.int .i64 v)),(63,.v (.bool flex)),(64,.v (.agg #[.int .i64 n1,.slice A6 s2.length c7,.bool b3,.slice A8 l4.length c9,.slice aK u5.length aL])),(59,.v (.slice bA ((be 1 1).length) bB)),(65,.v (.slice bq ((qaV d aa v flex (Tree.mk n1 s2 b3 l4 u5)).length) bt)),(66,.v (.slice aC ((be 1 1).length + (qaV d aa v flex (Tree.mk n1 s2 b3 l4 u5)).length) aD))]) kz
   have dG:=dF.cast (env':=[(61,.v (.slice ay aa.length az)),(62,.v (.int .i64 v)),(63,.v (.bool flex)),(64,.v (.agg #[.int .i64 n1,.slice A6 s2.length c7,.bool b3,.slice A8 l4.length c9,.slice aK u5.length aL])),(59,.v (.slice bA ((be 1 1).length) bB)),(65,.v (.slice bq ((qaV d aa v flex (Tree.mk n1 s2 b3 l4 u5)).length) bt)),(66,.v (.slice aC ((be 1 1 ++ (qaV d aa v flex (Tree.mk n1 s2 b3 l4 u5))).length) aD))]) (by simp only [List.length_append,List.length_cons,List.length_nil,Nat.zero_add])
   have dH:=TT.ofW (((bp.trans bL).trans dA).trans dE) aJ
   refine ⟨fun _=>dH,?_⟩
   refine qaw (i:=8) kz (qa9 [8] aJ.cells dG (env':=[(8,.v (.slice aC ((be 1 1 ++ (qaV d aa v flex (Tree.mk n1 s2 b3 l4 u5))).length) aD))]) kz fun gb dI=>?_)
   refine ⟨fun h=>absurd rfl h,?_⟩
   refine qaF kz ?_ _
   refine qab ?_
   refine wp_ret ?_
   refine qao ?_
   refine qaJ dI aJ.cells (v:=.slice aC ((be 1 1 ++ (qaV d aa v flex (Tree.mk n1 s2 b3 l4 u5))).length) aD) kz ?_
   exact qa5 aJ (k:=0) rfl (by first | rw [qdh ‹_› ‹_›] | rw [qdg ‹_› ‹_› ‹_›] | rw [qcJ ‹_› ‹_› ‹_› ‹_›] | rw [qdf ‹_› ‹_› ‹_› ‹_›])
  have eS:=of_decide_eq_false bk
  refine wp_skip ?_
  refine qab ?_
  refine qag [0,1,2,3,4,5,6,7,8,9] kz ?_
  refine qaj [0,1,2,3,4,5,6,7] [8,9] [(68,.v (.int .i64 ac)),(70,.v (.slice ay aa.length az)),(71,.v (.bool (Fld.nul (Fld.mk ac af ag ae ah ai ab aa) v (Tree.mk n1 s2 b3 l4 u5)))),(72,.v (.int .i64 v)),(73,.v (.bool flex)),(74,.v (.agg #[.int .i64 n1,.slice A6 s2.length c7,.bool b3,.slice A8 l4.length c9,.slice aK u5.length aL]))] aj bj fun gc dJ=>?_
  refine qam (qal dJ (f:=57) (vs:=[.int .i64 ac,.slice ay aa.length az,.bool (Fld.nul (Fld.mk ac af ag ae ah ai ab aa) v (Tree.mk n1 s2 b3 l4 u5)),.int .i64 v,.bool flex,.agg #[.int .i64 n1,.slice A6 s2.length c7,.bool b3,.slice A8 l4.length c9,.slice aK u5.length aL]]) (d:=75) kz Tryd.call57 (qiP hp ac _ _ aa (Fld.nul (Fld.mk ac af ag ae ah ai ab aa) v (Tree.mk n1 s2 b3 l4 u5)) v flex _ (Tree.mk n1 s2 b3 l4 u5) _ _ ⟨bx,(ca.move aj.step nilM aj.imm),(fun i_ x_ h_=>((dU i_ x_ h_).move aj.step nilM aj.imm))⟩ hd (ht.move aj.step nilM aj.imm) (by have h_:=hroom; (first | rw [qdh ‹_› ‹_›] at h_ | rw [qdg ‹_› ‹_› ‹_›] at h_); exact h_)) ?_)
  rintro e_ gd ⟨bV,bW,rfl,dK,dL⟩
  refine ⟨_,rfl,fun ge dM=>?_⟩
  obtain ⟨bu,eU⟩:=aj.frFresh dL (brow bV bW 5 (qaQ (qaV d aa v flex) ac (Fld.nul (Fld.mk ac af ag ae ah ai ab aa) v (Tree.mk n1 s2 b3 l4 u5)) flex (Tree.mk n1 s2 b3 l4 u5))) (Nat.le_refl _) dK
  refine qaj [9] [] [(8,.v (.slice bV ((qaQ (qaV d aa v flex) ac (Fld.nul (Fld.mk ac af ag ae ah ai ab aa) v (Tree.mk n1 s2 b3 l4 u5)) flex (Tree.mk n1 s2 b3 l4 u5)).length) bW))] bu dM fun gg dN=>?_
  refine qaf (qab ?_)
  refine wp_ret ?_
  refine qaJ dN bu.cells (v:=.slice bV ((qaQ (qaV d aa v flex) ac (Fld.nul (Fld.mk ac af ag ae ah ai ab aa) v (Tree.mk n1 s2 b3 l4 u5)) flex (Tree.mk n1 s2 b3 l4 u5)).length) bW) kz ?_
  exact qa5 bu (k:=0) rfl (by first | rw [qdh ‹_› ‹_›] | rw [qdg ‹_› ‹_› ‹_›] | rw [qcJ ‹_› ‹_› ‹_› ‹_›] | rw [qdf ‹_› ‹_› ‹_› ‹_›])
 have eV:ac ≠ 10:=by simpa using aA
 have dO:=bK.cast (env':=[(1,.v (.int .i64 v)),(2,.v (.bool flex)),(4,.p 0 0),(7,.p 1 0),(9,.v (.bool (Fld.nul (Fld.mk ac af ag ae ah ai ab aa) v (Tree.mk n1 s2 b3 l4 u5)))),(52,.v (.bool false))]) (by rw [aA])
 refine qaj [4,5,6,7] [] [(1,.v (.int .i64 v)),(2,.v (.bool flex)),(4,.p 0 0),(7,.p 1 0),(9,.v (.bool (Fld.nul (Fld.mk ac af ag ae ah ai ab aa) v (Tree.mk n1 s2 b3 l4 u5)))),(56,.v (.bool false))] aj dO fun gh bM=>?_
 refine qaf (qab ?_)
 refine qap bM (b:=false) kz rfl ?_
 refine wp_skip ?_
 refine qab ?_
 refine qag [0,1,2,3,4,5,6,7,8,9] kz ?_
 refine qaj [0,1,2,3,4,5,6,7] [8,9] [(68,.v (.int .i64 ac)),(70,.v (.slice ay aa.length az)),(71,.v (.bool (Fld.nul (Fld.mk ac af ag ae ah ai ab aa) v (Tree.mk n1 s2 b3 l4 u5)))),(72,.v (.int .i64 v)),(73,.v (.bool flex)),(74,.v (.agg #[.int .i64 n1,.slice A6 s2.length c7,.bool b3,.slice A8 l4.length c9,.slice aK u5.length aL]))] aj bM fun gi dP=>?_
 refine qam (qal dP (f:=57) (vs:=[.int .i64 ac,.slice ay aa.length az,.bool (Fld.nul (Fld.mk ac af ag ae ah ai ab aa) v (Tree.mk n1 s2 b3 l4 u5)),.int .i64 v,.bool flex,.agg #[.int .i64 n1,.slice A6 s2.length c7,.bool b3,.slice A8 l4.length c9,.slice aK u5.length aL]]) (d:=75) kz Tryd.call57 (qiP hp ac _ _ aa (Fld.nul (Fld.mk ac af ag ae ah ai ab aa) v (Tree.mk n1 s2 b3 l4 u5)) v flex _ (Tree.mk n1 s2 b3 l4 u5) _ _ ⟨bx,(ca.move aj.step nilM aj.imm),(fun i_ x_ h_=>((dU i_ x_ h_).move aj.step nilM aj.imm))⟩ hd (ht.move aj.step nilM aj.imm) (by have h_:=hroom; (first | rw [qdh ‹_› ‹_›] at h_ | rw [qdg ‹_› ‹_› ‹_›] at h_); exact h_)) ?_)
 rintro e_ gj ⟨bX,bY,rfl,dQ,dR⟩
 refine ⟨_,rfl,fun gk dS=>?_⟩
 obtain ⟨bw,eW⟩:=aj.frFresh dR (brow bX bY 5 (qaQ (qaV d aa v flex) ac (Fld.nul (Fld.mk ac af ag ae ah ai ab aa) v (Tree.mk n1 s2 b3 l4 u5)) flex (Tree.mk n1 s2 b3 l4 u5))) (Nat.le_refl _) dQ
 refine qaj [9] [] [(8,.v (.slice bX ((qaQ (qaV d aa v flex) ac (Fld.nul (Fld.mk ac af ag ae ah ai ab aa) v (Tree.mk n1 s2 b3 l4 u5)) flex (Tree.mk n1 s2 b3 l4 u5)).length) bY))] bw dS fun gl dT=>?_
 refine qaf (qab ?_)
 refine wp_ret ?_
 refine qaJ dT bw.cells (v:=.slice bX ((qaQ (qaV d aa v flex) ac (Fld.nul (Fld.mk ac af ag ae ah ai ab aa) v (Tree.mk n1 s2 b3 l4 u5)) flex (Tree.mk n1 s2 b3 l4 u5)).length) bY) kz ?_
 exact qa5 bw (k:=0) rfl (by first | rw [qdh ‹_› ‹_›] | rw [qdg ‹_› ‹_› ‹_›] | rw [qcJ ‹_› ‹_› ‹_› ‹_›] | rw [qdf ‹_› ‹_› ‹_› ‹_›])
theorem qfw (Af:Option Addr) (cf:Nat) (l:List Fld) (A:Option Addr) (c:Nat) (u:List (Int × Bs)) (w:World) (F:Nat → Nat → Prop) (hl:FldsR w F Af cf l) (hu:TagsR w F A c u) :
  Calls Tryd.prog 25 #[.slice Af l.length cf,.slice A u.length c] w (qjU w F (qai l u)):=by
 obtain ⟨xf,hf1,hf2⟩:=hl.ex
 obtain ⟨xu,hu1,hu2⟩:=hu.ex
 have hsmu:=hu1.small
 have hule:(u.take 32767).length ≤ 32767:=by rw [List.length_take]; omega
 refine enter (n:=85) Tryd.func25 rfl Tryd.ntmps25 kz fun a hE=>?_
 have hW:=WOk.start w Nil
 refine qar [(0,.v (.slice Af l.length cf)),(1,.v (.slice A u.length c))] hW hE fun a1 hE2=>?_
 refine qag [0,1,2] kz ?_
 refine qaj [0] [1,2] [(1,.v (.slice A u.length c)),(11,.v (.slice Af l.length cf))] hW hE2 fun a3 hE4=>?_
 refine qam (qal hE4 (f:=36) (vs:=[.slice Af l.length cf]) (d:=12) kz Tryd.call36 (qjZ _ _ l _ _ ⟨xf,(hf1.move hW.step nilM hW.imm),(fun i_ x_ h_=>((hf2 i_ x_ h_).move hW.step nilM hW.imm))⟩) ?_)
 rintro e_ w6 ⟨rfl,hs5⟩
 refine ⟨_,rfl,fun a7 hE8=>?_⟩
 have hW9:=hW.next_nil hs5
 have fB:=hW.frN hs5
 refine qaj [2] [] [(1,.v (.slice A u.length c)),(5,.v (.int .u32 (qaz l)))] hW9 hE8 fun ib eE=>?_
 refine qaf (qab ?_)
 refine qar [(1,.v (.slice A u.length c)),(5,.v (.int .u32 (qaz l))),(6,.v (.slice none 0 0))] hW9 eE fun ic eF=>?_
 refine wp_seq ?_
 refine qag [0,1,2,3,4,5,6] kz ?_
 refine qaj [0,1,2,3] [4,5,6] [(5,.v (.int .u32 (qaz l))),(6,.v (.slice none 0 0)),(13,.v (.slice A u.length c)),(16,.v (.int .i64 (if 32767 < ((u.length:Nat):Int) then 32767 else ((u.length:Nat):Int))))] hW9 eF fun ig eG=>?_
 refine qam (qcQ eG (t:=24) (A:=A) (m:=u.length) (cp:=c) (q:=(if 32767 < ((u.length:Nat):Int) then 32767 else ((u.length:Nat):Int))) (d:=17) (j:=(u.take 32767).length) kz (e:=65) (size:=2) (bytes:=32) kz (by simpa using qgl u.length) (by rw [List.length_take]; have:=hu1.le; omega) fun ii eH=>?_)
 refine qaj [5,6] [] [(5,.v (.int .u32 (qaz l))),(6,.v (.slice none 0 0)),(17,.v (.slice A ((u.take 32767).length) c)),(18,.v (.int .i64 (((u.take 32767).length:Nat):Int))),(19,.v (.int .i64 0))] hW9 eH fun ij eI=>?_
 refine qaf (qab ?_)
 refine wp_block ?_
 have cI:=hW9.addNil 65 2
 have fC:=hW9.frNil 65 2
 refine wp_loop_ghost (fun n_ a_ w_=>∃ (k:Nat) (A_:Option Addr) (c_:Nat) (out:List (Int × Bs)) (css:List (List Value)),n_ = (u.take 32767).length - k ∧ k ≤ (u.take 32767).length ∧ (TagsE w_ (Imm F w w_ [] [⟨A_,c_,65,2,out.length,css.flatten⟩]) out css) ∧ (out = ((u.take 32767).take k).foldl (qbn (qaz l)) []) ∧ (out.length ≤ k) ∧ LInv cI 85 [] [⟨A_,c_,65,2,out.length,css.flatten⟩] [(5,.v (.int .u32 (qaz l))),(6,.v (.slice A_ out.length c_)),(17,.v (.slice A ((u.take 32767).length) c)),(18,.v (.int .i64 (((u.take 32767).length:Nat):Int))),(19,.v (.int .i64 ((k:Nat):Int)))] a_ w_) ((u.take 32767).length) ⟨0,none,0,[],[],by omega,by omega,TagsE.nil _ _,rfl,Nat.zero_le _,eI.pk,cI,Fr.refl _ _ _⟩ ?_
 rintro ik il im ⟨k,A_,c_,out,css,fD,fE,hT,hout,hlen,eJ,aO,aR⟩
 refine qar [(5,.v (.int .u32 (qaz l))),(6,.v (.slice A_ out.length c_)),(17,.v (.slice A ((u.take 32767).length) c)),(18,.v (.int .i64 (((u.take 32767).length:Nat):Int))),(19,.v (.int .i64 ((k:Nat):Int))),(20,.v (.bool (decide (((k:Nat):Int) < (((u.take 32767).length:Nat):Int)))))] aO eJ fun io cA=>?_
 refine wp_seq ?_
 refine qay cA (b:=decide (((k:Nat):Int) < (((u.take 32767).length:Nat):Int))) kz (fun cB=>?_) (fun cB=>?_)
 ·
  have fF:=of_decide_eq_true cB
  refine wp_skip ?_
  refine qab ?_
  refine wp_seq ?_
  refine wp_block ?_
  refine qag [0,1,2,3] kz ?_
  obtain ⟨fG,fH,eK,fI,bG⟩:=Slots.get (qeK hu1 32767) (i:=k) (by omega)
  obtain ⟨⟨al,ax⟩,aP⟩:∃ x,(u.take 32767)[k]? = some x:=⟨_,List.getElem?_eq_getElem (by omega)⟩
  obtain ⟨⟨aI,aJ,cJ,cK⟩,fa,fb⟩:=(qeX hu2 32767) k al ax aP
  rw [cJ] at bG
  refine qam (qaC cA (t:=24) (A:=A) (m:=((u.take 32767).length)) (q:=((k:Nat):Int)) (d:=21) kz (e:=65) (size:=2) (bytes:=32) kz eK rfl (by omega) fun ip eL=>?_)
  refine qam (qaM eL (t:=65) (b:=fG) (o:=fH + k * 2) (d:=22) kz (cs:=[.int .u32 al,.slice aI ax.length aJ]) (v:=.agg #[.int .u32 al,.slice aI ax.length aJ]) kz (AtF.move bG aO.step nilM qaX).at_ fun iq eM=>?_)
  refine qam (qaR aO eM (d:=8) (cs:=[.int .u32 0,.slice none 0 0]) kz fun eN ir iu fJ fK ac eO eP=>?_)
  refine qam (qav eO eP (oi:=0) (cs:=[.int .u32 al,.slice aI ax.length aJ]) kz fun iv ae cC eQ=>?_)
  refine qaf (qab ?_)
  refine qar [(5,.v (.int .u32 (qaz l))),(6,.v (.slice A_ out.length c_)),(8,.p 0 0),(9,.v (.int .i64 0)),(17,.v (.slice A ((u.take 32767).length) c)),(18,.v (.int .i64 (((u.take 32767).length:Nat):Int))),(19,.v (.int .i64 ((k:Nat):Int)))] cC eQ fun iw eR=>?_
  refine wp_seq ?_
  refine wp_block ?_
  refine wp_loop_ghost (fun n_ a_ w_=>∃ (i:Nat),n_ = out.length - i ∧ (i ≤ out.length) ∧ (∀ q,q < i → (out.getD q (0,[])).1 < al) ∧ LInv cC 85 [⟨eN,0,[.int .u32 al,.slice aI ax.length aJ],true⟩] [⟨A_,c_,65,2,out.length,css.flatten⟩] [(5,.v (.int .u32 (qaz l))),(6,.v (.slice A_ out.length c_)),(8,.p 0 0),(9,.v (.int .i64 ((i:Nat):Int))),(17,.v (.slice A ((u.take 32767).length) c)),(18,.v (.int .i64 (((u.take 32767).length:Nat):Int))),(19,.v (.int .i64 ((k:Nat):Int)))] a_ w_) (out.length - 0) ⟨0,rfl,Nat.zero_le _,fun q h_=>absurd h_ (Nat.not_lt_zero q),eR.pk,cC,Fr.refl _ _ _⟩ ?_
  rintro ix iy iz ⟨i,fL,hi,hlt,eS,eU,aa⟩
  refine wp_seq ?_
  refine qbD kz eU fun iA ab aB=>?_
  refine qaD [0,1,2,3,4] [(5,.v (.int .u32 (qaz l))),(6,.v (.slice A_ out.length c_)),(8,.p 0 0),(9,.v (.int .i64 ((i:Nat):Int))),(17,.v (.slice A ((u.take 32767).length) c)),(18,.v (.int .i64 (((u.take 32767).length:Nat):Int))),(19,.v (.int .i64 ((k:Nat):Int))),(27,.v (.bool (decide (((i:Nat):Int) < ((out.length:Nat):Int)))))] 9 (qaa (qaa (qaa (qac (qaa (qac (qaa (qaa (qac (qaa qad)))))))))) (fun _ h=>h ▸ aB.cells) rfl eS fun iB cL=>?_
  refine (Bool.eq_false_or_eq_true (decide (((i:Nat):Int) < ((out.length:Nat):Int)))).elim (fun aN=>?_) (fun aN=>?_)
  ·
   have fM:=of_decide_eq_true aN
   have eV:=cL.cast (env':=[(5,.v (.int .u32 (qaz l))),(6,.v (.slice A_ out.length c_)),(8,.p 0 0),(9,.v (.int .i64 ((i:Nat):Int))),(17,.v (.slice A ((u.take 32767).length) c)),(18,.v (.int .i64 (((u.take 32767).length:Nat):Int))),(19,.v (.int .i64 ((k:Nat):Int))),(27,.v (.bool true))]) (by rw [aN])
   refine qaD [5,6,10,11] [(5,.v (.int .u32 (qaz l))),(6,.v (.slice A_ out.length c_)),(8,.p 0 0),(9,.v (.int .i64 ((i:Nat):Int))),(17,.v (.slice A ((u.take 32767).length) c)),(18,.v (.int .i64 (((u.take 32767).length:Nat):Int))),(19,.v (.int .i64 ((k:Nat):Int))),(27,.v (.bool true)),(28,.v (.slice A_ out.length c_)),(29,.v (.int .i64 ((i:Nat):Int))),(34,.v (.int .u32 al))] 5 (qaa (qaa (qaa (qac (qaa (qac (qaa (qaa (qac (qaa qad)))))))))) (fun _ h=>h ▸ aB.cells) rfl eV fun iC eW=>?_
   obtain ⟨eX,cM⟩:=qbH (aB.own 0 _ rfl) (show 0 < out.length by omega)
   obtain ⟨⟨eD,iD⟩,bw⟩:∃ x,out[i]? = some x:=⟨_,List.getElem?_eq_getElem (by omega)⟩
   obtain ⟨iE,iF,eY,fN,iG,iH⟩:=TagsE.get2 (hT.move (((ac.trans ae).trans aa).trans ab).step immM (((ac.trans ae).trans aa).trans ab).to') bw
   have cN:=qgK (aB.own 0 _ rfl) cM (qdl (hT.move (((ac.trans ae).trans aa).trans ab).step immM (((ac.trans ae).trans aa).trans ab).to').two eY)
   refine qaH eW (i:=7) (t:=24) (A:=A_) (m:=out.length) (q:=((i:Nat):Int)) (d:=30) kz (e:=65) (size:=2) (bytes:=32) kz (b:=eX) (o:=0) (j:=i) cM (rfl) (by omega) kz kz (qaa (qaa (qaa (qac (qaa (qac (qaa (qaa (qac (qaa qad)))))))))) rfl fun iI eZ=>?_
   refine qaD [8] [(5,.v (.int .u32 (qaz l))),(6,.v (.slice A_ out.length c_)),(8,.p 0 0),(9,.v (.int .i64 ((i:Nat):Int))),(17,.v (.slice A ((u.take 32767).length) c)),(18,.v (.int .i64 (((u.take 32767).length:Nat):Int))),(19,.v (.int .i64 ((k:Nat):Int))),(27,.v (.bool true)),(31,.v (.pointer (some ⟨eX,0 + i * 2,none⟩))),(34,.v (.int .u32 al))] 3 (qaa (qaa (qaa (qac (qaa (qac (qaa (qaa (qac (qaa qad)))))))))) (fun _ h=>h ▸ aB.cells) rfl eZ fun iJ e9=>?_
   refine qaT e9 (i:=9) (t:=63) (b:=eX) (o:=0 + i * 2) (d:=32) kz (cs:=[.int .u32 eD]) (v:=.int .u32 eD) kz (fun w' h'=>h' ▸ (At.drop cN 0 1)) kz kz (qaa (qaa (qaa (qac (qaa (qac (qaa (qaa (qac (qaa qad)))))))))) rfl fun fO cO=>?_
   refine qaD [12,13] [(5,.v (.int .u32 (qaz l))),(6,.v (.slice A_ out.length c_)),(8,.p 0 0),(9,.v (.int .i64 ((i:Nat):Int))),(17,.v (.slice A ((u.take 32767).length) c)),(18,.v (.int .i64 (((u.take 32767).length:Nat):Int))),(19,.v (.int .i64 ((k:Nat):Int))),(36,.v (.bool (decide (eD < al))))] 0 (qaa (qaa (qaa (qac (qaa (qac (qaa (qaa (qac (qaa qad)))))))))) (fun _ h=>h ▸ aB.cells) rfl cO fun fP aS=>?_
   refine qaF kz ?_ _
   refine qab ?_
   refine qay aS (b:=decide (eD < al)) kz (fun aT=>?_) (fun aT=>?_)
   ·
    have fe:=of_decide_eq_true aT
    refine wp_skip ?_
    refine qab ?_
    refine wp_block ?_
    refine qat [0,1,2] kz ?_
    refine qaj [0,1,2] [] [(5,.v (.int .u32 (qaz l))),(6,.v (.slice A_ out.length c_)),(8,.p 0 0),(9,.v (.int .i64 (IntKind.i64.wrap (((i:Nat):Int) + 1)))),(17,.v (.slice A ((u.take 32767).length) c)),(18,.v (.int .i64 (((u.take 32767).length:Nat):Int))),(19,.v (.int .i64 ((k:Nat):Int)))] aB aS fun fQ bH=>?_
    refine qaf ?_
    refine qaq ?_
    refine qab ?_
    have cP:IntKind.i64.wrap (((i:Nat):Int) + 1) = ((i + 1:Nat):Int):=qaN (by omega)
    rw [cP] at bH
    exact ⟨out.length - (i + 1),by omega,(i + 1),rfl,by omega,fun q hq=>by rcases Nat.lt_succ_iff_lt_or_eq.1 hq with h_ | h_; exact hlt q h_; rw [h_,qil bw]; assumption,bH.pk,aB,(aa.trans ab)⟩
   have ff:=of_decide_eq_false aT
   refine wp_exit ?_
   refine qaB ?_
   refine qaB ?_
   refine qaL ?_
   refine qab ?_
   refine wp_seq ?_
   refine qbD kz aB fun fR af ap=>?_
   refine qaD [0,1,2,3,4] [(5,.v (.int .u32 (qaz l))),(6,.v (.slice A_ out.length c_)),(8,.p 0 0),(9,.v (.int .i64 ((i:Nat):Int))),(17,.v (.slice A ((u.take 32767).length) c)),(18,.v (.int .i64 (((u.take 32767).length:Nat):Int))),(19,.v (.int .i64 ((k:Nat):Int))),(43,.v (.bool (decide (al < (qaz l)))))] 15 (qaa (qaa (qac (qaa (qaa (qac (qaa qad))))))) (fun _ h=>h ▸ ap.cells) rfl aS fun fS bI=>?_
   refine (Bool.eq_false_or_eq_true (decide (al < (qaz l)))).elim (fun aK=>?_) (fun aK=>?_)
   ·
    have fg:=of_decide_eq_true aK
    have cQ:=bI.cast (env':=[(5,.v (.int .u32 (qaz l))),(6,.v (.slice A_ out.length c_)),(8,.p 0 0),(9,.v (.int .i64 ((i:Nat):Int))),(17,.v (.slice A ((u.take 32767).length) c)),(18,.v (.int .i64 (((u.take 32767).length:Nat):Int))),(19,.v (.int .i64 ((k:Nat):Int))),(43,.v (.bool true))]) (by rw [aK])
    refine qaD [5,6,7,8,9,10,11,12,13,14,15,16,17,18,19] [(5,.v (.int .u32 (qaz l))),(6,.v (.slice A_ out.length c_)),(8,.p 0 0),(9,.v (.int .i64 ((i:Nat):Int))),(17,.v (.slice A ((u.take 32767).length) c)),(18,.v (.int .i64 (((u.take 32767).length:Nat):Int))),(19,.v (.int .i64 ((k:Nat):Int))),(58,.v (.bool true))] 0 (qaa (qaa (qac (qaa (qaa (qac (qaa qad))))))) (fun _ h=>h ▸ ap.cells) rfl cQ fun fT bJ=>?_
    refine qaF kz ?_ _
    refine qab ?_
    refine qaU bJ (b:=true) kz rfl ?_
    refine wp_exit ?_
    refine qaB ?_
    refine qaL ?_
    refine qab ?_
    refine qat [0,1] kz ?_
    refine qaj [0,1] [] [(5,.v (.int .u32 (qaz l))),(6,.v (.slice A_ out.length c_)),(17,.v (.slice A ((u.take 32767).length) c)),(18,.v (.int .i64 (((u.take 32767).length:Nat):Int))),(19,.v (.int .i64 (IntKind.i64.wrap (((k:Nat):Int) + 1))))] ap bJ fun fU cR=>?_
    refine qaf (qab ?_)
    obtain ⟨bK,cS,aU⟩:=ap.cutB cR 0 [] [(5,.v (.int .u32 (qaz l))),(6,.v (.slice A_ out.length c_)),(17,.v (.slice A ((u.take 32767).length) c)),(18,.v (.int .i64 (((u.take 32767).length:Nat):Int))),(19,.v (.int .i64 (IntKind.i64.wrap (((k:Nat):Int) + 1))))]
    have cT:IntKind.i64.wrap (((k:Nat):Int) + 1) = ((k + 1:Nat):Int):=qaN (by omega)
    rw [cT] at bK
    exact ⟨(u.take 32767).length - (k + 1),by omega,k + 1,A_,c_,out,css,rfl,by omega,(hT.move (((((ac.trans ae).trans aa).trans ab).trans af).trans aU).step immM (((((ac.trans ae).trans aa).trans ab).trans af).trans aU).to'),by rw [qbF aP,← hout]; exact (qim ‹_›).symm,by omega,bK.pk,cS,((((((aR.trans ac).trans ae).trans aa).trans ab).trans af).trans aU)⟩
   have fh:=of_decide_eq_false aK
   have cU:=bI.cast (env':=[(5,.v (.int .u32 (qaz l))),(6,.v (.slice A_ out.length c_)),(8,.p 0 0),(9,.v (.int .i64 ((i:Nat):Int))),(17,.v (.slice A ((u.take 32767).length) c)),(18,.v (.int .i64 (((u.take 32767).length:Nat):Int))),(19,.v (.int .i64 ((k:Nat):Int))),(43,.v (.bool false))]) (by rw [aK])
   refine qaD [5,6,7,8,9] [(5,.v (.int .u32 (qaz l))),(6,.v (.slice A_ out.length c_)),(8,.p 0 0),(9,.v (.int .i64 ((i:Nat):Int))),(17,.v (.slice A ((u.take 32767).length) c)),(18,.v (.int .i64 (((u.take 32767).length:Nat):Int))),(19,.v (.int .i64 ((k:Nat):Int))),(43,.v (.bool false)),(48,.v (.bool (decide (((i:Nat):Int) < ((out.length:Nat):Int)))))] 10 (qaa (qaa (qac (qaa (qaa (qac (qaa qad))))))) (fun _ h=>h ▸ ap.cells) rfl cU fun fV cV=>?_
   have cW:(decide (((i:Nat):Int) < ((out.length:Nat):Int))) = true:=aN
   have cX:=cV.cast (env':=[(5,.v (.int .u32 (qaz l))),(6,.v (.slice A_ out.length c_)),(8,.p 0 0),(9,.v (.int .i64 ((i:Nat):Int))),(17,.v (.slice A ((u.take 32767).length) c)),(18,.v (.int .i64 (((u.take 32767).length:Nat):Int))),(19,.v (.int .i64 ((k:Nat):Int))),(43,.v (.bool false)),(48,.v (.bool true))]) (by rw [cW])
   refine qaD [10,11,15,16] [(5,.v (.int .u32 (qaz l))),(6,.v (.slice A_ out.length c_)),(8,.p 0 0),(9,.v (.int .i64 ((i:Nat):Int))),(17,.v (.slice A ((u.take 32767).length) c)),(18,.v (.int .i64 (((u.take 32767).length:Nat):Int))),(19,.v (.int .i64 ((k:Nat):Int))),(43,.v (.bool false)),(48,.v (.bool true)),(49,.v (.slice A_ out.length c_)),(50,.v (.int .i64 ((i:Nat):Int))),(55,.v (.int .u32 al))] 6 (qaa (qaa (qac (qaa (qaa (qac (qaa qad))))))) (fun _ h=>h ▸ ap.cells) rfl cX fun fW cY=>?_
   obtain ⟨cD,bL⟩:=qbH (ap.own 0 _ rfl) (show 0 < out.length by omega)
   obtain ⟨⟨aQ,fX⟩,aL⟩:∃ x,out[i]? = some x:=⟨_,List.getElem?_eq_getElem (by omega)⟩
   obtain ⟨fY,fZ,cZ,fi,f5,f7⟩:=TagsE.get2 (hT.move ((((ac.trans ae).trans aa).trans ab).trans af).step immM ((((ac.trans ae).trans aa).trans ab).trans af).to') aL
   have cE:=qgK (ap.own 0 _ rfl) bL (qdl (hT.move ((((ac.trans ae).trans aa).trans ab).trans af).step immM ((((ac.trans ae).trans aa).trans ab).trans af).to').two cZ)
   refine qaH cY (i:=12) (t:=24) (A:=A_) (m:=out.length) (q:=((i:Nat):Int)) (d:=51) kz (e:=65) (size:=2) (bytes:=32) kz (b:=cD) (o:=0) (j:=i) bL (rfl) (by omega) kz kz (qaa (qaa (qac (qaa (qaa (qac (qaa qad))))))) rfl fun f8 c5=>?_
   refine qaD [13] [(5,.v (.int .u32 (qaz l))),(6,.v (.slice A_ out.length c_)),(8,.p 0 0),(9,.v (.int .i64 ((i:Nat):Int))),(17,.v (.slice A ((u.take 32767).length) c)),(18,.v (.int .i64 (((u.take 32767).length:Nat):Int))),(19,.v (.int .i64 ((k:Nat):Int))),(43,.v (.bool false)),(48,.v (.bool true)),(52,.v (.pointer (some ⟨cD,0 + i * 2,none⟩))),(55,.v (.int .u32 al))] 4 (qaa (qaa (qac (qaa (qaa (qac (qaa qad))))))) (fun _ h=>h ▸ ap.cells) rfl c5 fun f9 c6=>?_
   refine qaT c6 (i:=14) (t:=63) (b:=cD) (o:=0 + i * 2) (d:=53) kz (cs:=[.int .u32 aQ]) (v:=.int .u32 aQ) kz (fun w' h'=>h' ▸ (At.drop cE 0 1)) kz kz (qaa (qaa (qac (qaa (qaa (qac (qaa qad))))))) rfl fun ga da=>?_
   refine qaD [17,18,19] [(5,.v (.int .u32 (qaz l))),(6,.v (.slice A_ out.length c_)),(8,.p 0 0),(9,.v (.int .i64 ((i:Nat):Int))),(17,.v (.slice A ((u.take 32767).length) c)),(18,.v (.int .i64 (((u.take 32767).length:Nat):Int))),(19,.v (.int .i64 ((k:Nat):Int))),(58,.v (.bool (aQ == al)))] 0 (qaa (qaa (qac (qaa (qaa (qac (qaa qad))))))) (fun _ h=>h ▸ ap.cells) rfl da fun gb aV=>?_
   refine qaF kz ?_ _
   refine qab ?_
   refine qay aV (b:=aQ == al) kz (fun aW=>?_) (fun aW=>?_)
   ·
    have fj:aQ = al:=by simpa using aW
    refine wp_exit ?_
    refine qaB ?_
    refine qaL ?_
    refine qab ?_
    refine qat [0,1] kz ?_
    refine qaj [0,1] [] [(5,.v (.int .u32 (qaz l))),(6,.v (.slice A_ out.length c_)),(17,.v (.slice A ((u.take 32767).length) c)),(18,.v (.int .i64 (((u.take 32767).length:Nat):Int))),(19,.v (.int .i64 (IntKind.i64.wrap (((k:Nat):Int) + 1))))] ap aV fun gc db=>?_
    refine qaf (qab ?_)
    obtain ⟨bM,dc,aX⟩:=ap.cutB db 0 [] [(5,.v (.int .u32 (qaz l))),(6,.v (.slice A_ out.length c_)),(17,.v (.slice A ((u.take 32767).length) c)),(18,.v (.int .i64 (((u.take 32767).length:Nat):Int))),(19,.v (.int .i64 (IntKind.i64.wrap (((k:Nat):Int) + 1))))]
    have de:IntKind.i64.wrap (((k:Nat):Int) + 1) = ((k + 1:Nat):Int):=qaN (by omega)
    rw [de] at bM
    exact ⟨(u.take 32767).length - (k + 1),by omega,k + 1,A_,c_,out,css,rfl,by omega,(hT.move (((((ac.trans ae).trans aa).trans ab).trans af).trans aX).step immM (((((ac.trans ae).trans aa).trans ab).trans af).trans aX).to'),by rw [qbF aP,← hout]; exact (qjv (qeJ hi hlt (fun _=>by rw [qdm aL]; omega)) (by omega) (by rw [qdm aL]; omega)).symm,by omega,bM.pk,dc,((((((aR.trans ac).trans ae).trans aa).trans ab).trans af).trans aX)⟩
   have fk:aQ ≠ al:=by simpa using aW
   refine wp_skip ?_
   refine qab ?_
   refine qag [0,1,2,3,4] kz ?_
   refine qaj [0,1] [2,3,4] [(5,.v (.int .u32 (qaz l))),(8,.p 0 0),(9,.v (.int .i64 ((i:Nat):Int))),(17,.v (.slice A ((u.take 32767).length) c)),(18,.v (.int .i64 (((u.take 32767).length:Nat):Int))),(19,.v (.int .i64 ((k:Nat):Int))),(59,.v (.slice A_ out.length c_)),(60,.v (.agg #[.int .u32 0,.slice none 0 0]))] ap aV fun gd df=>?_
   refine qb1 ap df (k:=0) (e:=65) (size:=2) (len:=1) (cs:=[.int .u32 0,.slice none 0 0]) (d1:=61) (d:=62) kz (t:=24) (bytes:=32) kz (fun _=>by kernel_rfl) rfl kz (by omega) fun ag ai ge gg am aY ⟨_,dg⟩=>?_
   refine qaj [4] [] [(5,.v (.int .u32 (qaz l))),(6,.v (.slice ag (out.length + 1) ai)),(8,.p 0 0),(9,.v (.int .i64 ((i:Nat):Int))),(17,.v (.slice A ((u.take 32767).length) c)),(18,.v (.int .i64 (((u.take 32767).length:Nat):Int))),(19,.v (.int .i64 ((k:Nat):Int)))] aY dg fun gh dh=>?_
   refine qaf (qab ?_)
   refine wp_seq ?_
   refine qar [(5,.v (.int .u32 (qaz l))),(6,.v (.slice ag (out.length + 1) ai)),(8,.p 0 0),(9,.v (.int .i64 ((i:Nat):Int))),(10,.v (.int .i64 (IntKind.i64.wrap (((out.length + 1:Nat):Int) - 1)))),(17,.v (.slice A ((u.take 32767).length) c)),(18,.v (.int .i64 (((u.take 32767).length:Nat):Int))),(19,.v (.int .i64 ((k:Nat):Int)))] aY dh fun gi bN=>?_
   refine wp_block ?_
   have hcl0:=(hT.move (((((ac.trans ae).trans aa).trans ab).trans af).trans am).step immM (((((ac.trans ae).trans aa).trans ab).trans af).trans am).to').len
   have di:(⟨ag,ai,65,2,out.length + 1,css.flatten ++ [.int .u32 0,.slice none 0 0]⟩:Rw) = ⟨ag,ai,65,2,out.length + 1,(qbt css [.int .u32 0,.slice none 0 0] out.length).flatten⟩:=by rw [qgN hcl0]
   obtain ⟨bO,av⟩:=aY.rowEq 0 [⟨ag,ai,65,2,out.length + 1,(qbt css [.int .u32 0,.slice none 0 0] out.length).flatten⟩] di
   have dj:IntKind.i64.wrap (((out.length + 1:Nat):Int) - 1) = ((out.length:Nat):Int):=by rw [wrap_i64 (by omega) (by omega)]; omega
   rw [dj] at bN
   refine wp_loop_ghost (fun n_ a_ w_=>∃ (j:Nat),n_ = j ∧ (i ≤ j) ∧ (j ≤ out.length) ∧ LInv bO 85 [⟨eN,0,[.int .u32 al,.slice aI ax.length aJ],true⟩] [⟨ag,ai,65,2,out.length + 1,(qbt css [.int .u32 0,.slice none 0 0] j).flatten⟩] [(5,.v (.int .u32 (qaz l))),(6,.v (.slice ag (out.length + 1) ai)),(8,.p 0 0),(9,.v (.int .i64 ((i:Nat):Int))),(10,.v (.int .i64 ((j:Nat):Int))),(17,.v (.slice A ((u.take 32767).length) c)),(18,.v (.int .i64 (((u.take 32767).length:Nat):Int))),(19,.v (.int .i64 ((k:Nat):Int)))] a_ w_) (out.length) ⟨out.length,rfl,hi,Nat.le_refl _,bN.pk,bO,Fr.refl _ _ _⟩ ?_
   rintro gj gk gl ⟨j,fm,hij,hjl,dl,ay,ar⟩
   refine wp_seq ?_
   refine qar [(5,.v (.int .u32 (qaz l))),(6,.v (.slice ag (out.length + 1) ai)),(8,.p 0 0),(9,.v (.int .i64 ((i:Nat):Int))),(10,.v (.int .i64 ((j:Nat):Int))),(17,.v (.slice A ((u.take 32767).length) c)),(18,.v (.int .i64 (((u.take 32767).length:Nat):Int))),(19,.v (.int .i64 ((k:Nat):Int))),(68,.v (.bool (decide (((j:Nat):Int) > ((i:Nat):Int)))))] ay dl fun gm aZ=>?_
   refine qay aZ (b:=decide (((j:Nat):Int) > ((i:Nat):Int))) kz (fun ba=>?_) (fun ba=>?_)
   ·
    have fo:=of_decide_eq_true ba
    refine wp_skip ?_
    refine qab ?_
    refine wp_seq ?_
    refine wp_block ?_
    refine qat [0,1,2,3,4,5,6,7,8] kz ?_
    refine qaj [0,1,2,3,4] [5,6,7,8] [(5,.v (.int .u32 (qaz l))),(6,.v (.slice ag (out.length + 1) ai)),(8,.p 0 0),(9,.v (.int .i64 ((i:Nat):Int))),(10,.v (.int .i64 ((j:Nat):Int))),(17,.v (.slice A ((u.take 32767).length) c)),(18,.v (.int .i64 (((u.take 32767).length:Nat):Int))),(19,.v (.int .i64 ((k:Nat):Int))),(71,.v (.slice ag (out.length + 1) ai)),(72,.v (.int .i64 ((j:Nat):Int))),(73,.v (.slice ag (out.length + 1) ai)),(75,.v (.int .i64 (IntKind.i64.wrap (((j:Nat):Int) - 1))))] ay aZ fun gn dp=>?_
    obtain ⟨dq,bP⟩:=qbH (ay.own 0 _ rfl) (show 0 < out.length + 1 by omega)
    obtain ⟨⟨bx,bz⟩,dr⟩:∃ x,out[j - 1]? = some x:=⟨_,List.getElem?_eq_getElem (by omega)⟩
    obtain ⟨bA,bB,bQ,fq,gp,gq⟩:=TagsE.get2 (hT.move (((((((ac.trans ae).trans aa).trans ab).trans af).trans am).trans av).trans ar).step immM (((((((ac.trans ae).trans aa).trans ab).trans af).trans am).trans av).trans ar).to') dr
    have cG:=qgK (ay.own 0 _ rfl) bP (qdl (qd0 (hT.move (((((((ac.trans ae).trans aa).trans ab).trans af).trans am).trans av).trans ar).step immM (((((((ac.trans ae).trans aa).trans ab).trans af).trans am).trans av).trans ar).to').two rfl j) (qfV (show j - 1 < j by omega) bQ))
    refine qam (qaC dp (t:=24) (A:=ag) (m:=(out.length + 1)) (q:=(IntKind.i64.wrap (((j:Nat):Int) - 1))) (d:=76) kz (e:=65) (size:=2) (bytes:=32) kz (b:=dq) (o:=0) (j:=(j - 1)) bP (by rw [wrap_i64 (by omega) (by omega)]; omega) (by omega) fun gt dt=>?_)
    refine qam (qaM dt (t:=65) (b:=dq) (o:=0 + (j - 1) * 2) (d:=77) kz (cs:=[.int .u32 bx,.slice bA bz.length bB]) (v:=.agg #[.int .u32 bx,.slice bA bz.length bB]) kz cG fun gv du=>?_)
    obtain ⟨dv,bR⟩:=qbH (ay.own 0 _ rfl) (show 0 < out.length + 1 by omega)
    refine qam (qaC du (t:=24) (A:=ag) (m:=(out.length + 1)) (q:=((j:Nat):Int)) (d:=78) kz (e:=65) (size:=2) (bytes:=32) kz (b:=dv) (o:=0) (j:=j) bR (rfl) (by omega) fun gw dw=>?_)
    refine qam (qbC ay dw (k:=0) (g:=dv) (o:=j * 2) (c:=ai) (m:=(out.length + 1)) (size:=2) (e:=65) (A:=ag) (xs:=((qbt css [.int .u32 0,.slice none 0 0] j).flatten)) (vs:=[.int .u32 bx,.slice bA bz.length bB]) kz rfl bR (by simp only [List.length_cons,List.length_nil]; omega) fun gx bd bS dx=>?_)
    refine qaf ?_
    refine qaq ?_
    refine qab ?_
    refine qat [0,1,2] kz ?_
    refine qaj [0,1,2] [] [(5,.v (.int .u32 (qaz l))),(6,.v (.slice ag (out.length + 1) ai)),(8,.p 0 0),(9,.v (.int .i64 ((i:Nat):Int))),(10,.v (.int .i64 (IntKind.i64.wrap (((j:Nat):Int) - 1)))),(17,.v (.slice A ((u.take 32767).length) c)),(18,.v (.int .i64 (((u.take 32767).length:Nat):Int))),(19,.v (.int .i64 ((k:Nat):Int)))] bS dx fun gy bT=>?_
    refine qaf (qab ?_)
    have dy:(⟨ag,ai,65,2,out.length + 1,qba ((qbt css [.int .u32 0,.slice none 0 0] j).flatten) (j * 2) [.int .u32 bx,.slice bA bz.length bB]⟩:Rw) = ⟨ag,ai,65,2,out.length + 1,(qbt css [.int .u32 0,.slice none 0 0] (j - 1)).flatten⟩:=by rw [qfW (hT.move ((((((((ac.trans ae).trans aa).trans ab).trans af).trans am).trans av).trans ar).trans bd).step immM ((((((((ac.trans ae).trans aa).trans ab).trans af).trans am).trans av).trans ar).trans bd).to').two rfl (by omega) (by omega) bQ]
    obtain ⟨dA,dB⟩:=bS.rowEq 0 [⟨ag,ai,65,2,out.length + 1,(qbt css [.int .u32 0,.slice none 0 0] (j - 1)).flatten⟩] dy
    have dC:IntKind.i64.wrap (((j:Nat):Int) - 1) = ((j - 1:Nat):Int):=by rw [wrap_i64 (by omega) (by omega)]; omega
    rw [dC] at bT
    exact ⟨(j - 1),by omega,(j - 1),rfl,by omega,by omega,bT.pk,dA,((ar.trans bd).trans dB)⟩
   have fr:=of_decide_eq_false ba
   refine wp_exit ?_
   refine qaB ?_
   refine qaB ?_
   refine qaL ?_
   refine qab ?_
   refine qat [0,1,2,3,4] kz ?_
   refine qaj [0,1,2] [3,4] [(5,.v (.int .u32 (qaz l))),(6,.v (.slice ag (out.length + 1) ai)),(17,.v (.slice A ((u.take 32767).length) c)),(18,.v (.int .i64 (((u.take 32767).length:Nat):Int))),(19,.v (.int .i64 ((k:Nat):Int))),(79,.v (.slice ag (out.length + 1) ai)),(80,.v (.int .i64 ((i:Nat):Int))),(81,.v (.agg #[.int .u32 al,.slice aI ax.length aJ]))] ay aZ fun gz dD=>?_
   have hji:j = i:=by omega
   have dE:(⟨ag,ai,65,2,out.length + 1,(qbt css [.int .u32 0,.slice none 0 0] j).flatten⟩:Rw) = ⟨ag,ai,65,2,out.length + 1,(qbt css [.int .u32 0,.slice none 0 0] i).flatten⟩:=by rw [hji]
   obtain ⟨bU,aC⟩:=ay.rowEq 0 [⟨ag,ai,65,2,out.length + 1,(qbt css [.int .u32 0,.slice none 0 0] i).flatten⟩] dE
   obtain ⟨dF,bV⟩:=qbH (bU.own 0 _ rfl) (show 0 < out.length + 1 by omega)
   refine qam (qaC dD (t:=24) (A:=ag) (m:=(out.length + 1)) (q:=((i:Nat):Int)) (d:=82) kz (e:=65) (size:=2) (bytes:=32) kz (b:=dF) (o:=0) (j:=i) bV (rfl) (by omega) fun gA dG=>?_)
   refine qam (qbC bU dG (k:=0) (g:=dF) (o:=i * 2) (c:=ai) (m:=(out.length + 1)) (size:=2) (e:=65) (A:=ag) (xs:=((qbt css [.int .u32 0,.slice none 0 0] i).flatten)) (vs:=[.int .u32 al,.slice aI ax.length aJ]) kz rfl bV (by simp only [List.length_cons,List.length_nil]; omega) fun gB aD bW dH=>?_)
   refine qaf ?_
   refine qaq ?_
   refine qab ?_
   refine qat [0,1] kz ?_
   refine qaj [0,1] [] [(5,.v (.int .u32 (qaz l))),(6,.v (.slice ag (out.length + 1) ai)),(17,.v (.slice A ((u.take 32767).length) c)),(18,.v (.int .i64 (((u.take 32767).length:Nat):Int))),(19,.v (.int .i64 (IntKind.i64.wrap (((k:Nat):Int) + 1))))] bW dH fun gC dI=>?_
   refine qaf (qab ?_)
   obtain ⟨bf,dJ,aE⟩:=bW.cutB dI 0 [] [(5,.v (.int .u32 (qaz l))),(6,.v (.slice ag (out.length + 1) ai)),(17,.v (.slice A ((u.take 32767).length) c)),(18,.v (.int .i64 (((u.take 32767).length:Nat):Int))),(19,.v (.int .i64 (IntKind.i64.wrap (((k:Nat):Int) + 1))))]
   have hcl:=(hT.move ((((((((((ac.trans ae).trans aa).trans ab).trans af).trans am).trans av).trans ar).trans aC).trans aD).trans aE).step immM ((((((((((ac.trans ae).trans aa).trans ab).trans af).trans am).trans av).trans ar).trans aC).trans aD).trans aE).to').len
   have dK:(⟨ag,ai,65,2,out.length + 1,qba ((qbt css [.int .u32 0,.slice none 0 0] i).flatten) (i * 2) [.int .u32 al,.slice aI ax.length aJ]⟩:Rw) = ⟨ag,ai,65,2,(out.take i ++ (al,ax) :: out.drop i).length,(css.take i ++ [.int .u32 al,.slice aI ax.length aJ] :: css.drop i).flatten⟩:=by rw [qfX (hT.move ((((((((((ac.trans ae).trans aa).trans ab).trans af).trans am).trans av).trans ar).trans aC).trans aD).trans aE).step immM ((((((((((ac.trans ae).trans aa).trans ab).trans af).trans am).trans av).trans ar).trans aC).trans aD).trans aE).to').two rfl (by omega) rfl,qcg (al,ax) hi]
   obtain ⟨bg,bh⟩:=dJ.rowEq 0 [⟨ag,ai,65,2,(out.take i ++ (al,ax) :: out.drop i).length,(css.take i ++ [.int .u32 al,.slice aI ax.length aJ] :: css.drop i).flatten⟩] dK
   have dL:IntKind.i64.wrap (((k:Nat):Int) + 1) = ((k + 1:Nat):Int):=qaN (by omega)
   rw [dL] at bf
   have dM:out.length + 1 = (out.take i ++ (al,ax) :: out.drop i).length:=qcg (al,ax) hi
   rw [dM] at bf
   exact ⟨(u.take 32767).length - (k + 1),by omega,k + 1,ag,ai,(out.take i ++ (al,ax) :: out.drop i),(css.take i ++ [.int .u32 al,.slice aI ax.length aJ] :: css.drop i),rfl,by omega,(hT.move (((((((((((ac.trans ae).trans aa).trans ab).trans af).trans am).trans av).trans ar).trans aC).trans aD).trans aE).trans bh).step immM (((((((((((ac.trans ae).trans aa).trans ab).trans af).trans am).trans av).trans ar).trans aC).trans aD).trans aE).trans bh).to').ins ⟨⟨aI,aJ,rfl,(cK.move bg.step nilM bg.imm)⟩,fa,fb⟩ hi,by rw [qbF aP,← hout]; exact (qin (qeJ hi hlt (fun _=>by first | (rw [qdm bw]; omega) | (rw [qdm aL]; omega))) ‹_› (fun _=>by first | (rw [qdm bw]; omega) | (rw [qdm aL]; omega))).symm,by rw [← qcg (al,ax) hi]; omega,bf.pk,bg,((((((((((((aR.trans ac).trans ae).trans aa).trans ab).trans af).trans am).trans av).trans ar).trans aC).trans aD).trans aE).trans bh)⟩
  have ft:=of_decide_eq_false aN
  have dN:=cL.cast (env':=[(5,.v (.int .u32 (qaz l))),(6,.v (.slice A_ out.length c_)),(8,.p 0 0),(9,.v (.int .i64 ((i:Nat):Int))),(17,.v (.slice A ((u.take 32767).length) c)),(18,.v (.int .i64 (((u.take 32767).length:Nat):Int))),(19,.v (.int .i64 ((k:Nat):Int))),(27,.v (.bool false))]) (by rw [aN])
  refine qaD [5,6,7,8,9,10,11,12,13] [(5,.v (.int .u32 (qaz l))),(6,.v (.slice A_ out.length c_)),(8,.p 0 0),(9,.v (.int .i64 ((i:Nat):Int))),(17,.v (.slice A ((u.take 32767).length) c)),(18,.v (.int .i64 (((u.take 32767).length:Nat):Int))),(19,.v (.int .i64 ((k:Nat):Int))),(36,.v (.bool false))] 0 (qaa (qaa (qaa (qac (qaa (qac (qaa (qaa (qac (qaa qad)))))))))) (fun _ h=>h ▸ aB.cells) rfl dN fun gD bX=>?_
  refine qaF kz ?_ _
  refine qab ?_
  refine qap bX (b:=false) kz rfl ?_
  refine wp_exit ?_
  refine qaB ?_
  refine qaB ?_
  refine qaL ?_
  refine qab ?_
  refine wp_seq ?_
  refine qbD kz aB fun gE ak az=>?_
  refine qaD [0,1,2,3,4] [(5,.v (.int .u32 (qaz l))),(6,.v (.slice A_ out.length c_)),(8,.p 0 0),(9,.v (.int .i64 ((i:Nat):Int))),(17,.v (.slice A ((u.take 32767).length) c)),(18,.v (.int .i64 (((u.take 32767).length:Nat):Int))),(19,.v (.int .i64 ((k:Nat):Int))),(43,.v (.bool (decide (al < (qaz l)))))] 15 (qaa (qaa (qac (qaa (qaa (qac (qaa qad))))))) (fun _ h=>h ▸ az.cells) rfl bX fun gF bY=>?_
  refine (Bool.eq_false_or_eq_true (decide (al < (qaz l)))).elim (fun aM=>?_) (fun aM=>?_)
  ·
   have fu:=of_decide_eq_true aM
   have dO:=bY.cast (env':=[(5,.v (.int .u32 (qaz l))),(6,.v (.slice A_ out.length c_)),(8,.p 0 0),(9,.v (.int .i64 ((i:Nat):Int))),(17,.v (.slice A ((u.take 32767).length) c)),(18,.v (.int .i64 (((u.take 32767).length:Nat):Int))),(19,.v (.int .i64 ((k:Nat):Int))),(43,.v (.bool true))]) (by rw [aM])
   refine qaD [5,6,7,8,9,10,11,12,13,14,15,16,17,18,19] [(5,.v (.int .u32 (qaz l))),(6,.v (.slice A_ out.length c_)),(8,.p 0 0),(9,.v (.int .i64 ((i:Nat):Int))),(17,.v (.slice A ((u.take 32767).length) c)),(18,.v (.int .i64 (((u.take 32767).length:Nat):Int))),(19,.v (.int .i64 ((k:Nat):Int))),(58,.v (.bool true))] 0 (qaa (qaa (qac (qaa (qaa (qac (qaa qad))))))) (fun _ h=>h ▸ az.cells) rfl dO fun gG bZ=>?_
   refine qaF kz ?_ _
   refine qab ?_
   refine qaU bZ (b:=true) kz rfl ?_
   refine wp_exit ?_
   refine qaB ?_
   refine qaL ?_
   refine qab ?_
   refine qat [0,1] kz ?_
   refine qaj [0,1] [] [(5,.v (.int .u32 (qaz l))),(6,.v (.slice A_ out.length c_)),(17,.v (.slice A ((u.take 32767).length) c)),(18,.v (.int .i64 (((u.take 32767).length:Nat):Int))),(19,.v (.int .i64 (IntKind.i64.wrap (((k:Nat):Int) + 1))))] az bZ fun gH dP=>?_
   refine qaf (qab ?_)
   obtain ⟨b8,dQ,bj⟩:=az.cutB dP 0 [] [(5,.v (.int .u32 (qaz l))),(6,.v (.slice A_ out.length c_)),(17,.v (.slice A ((u.take 32767).length) c)),(18,.v (.int .i64 (((u.take 32767).length:Nat):Int))),(19,.v (.int .i64 (IntKind.i64.wrap (((k:Nat):Int) + 1))))]
   have dR:IntKind.i64.wrap (((k:Nat):Int) + 1) = ((k + 1:Nat):Int):=qaN (by omega)
   rw [dR] at b8
   exact ⟨(u.take 32767).length - (k + 1),by omega,k + 1,A_,c_,out,css,rfl,by omega,(hT.move (((((ac.trans ae).trans aa).trans ab).trans ak).trans bj).step immM (((((ac.trans ae).trans aa).trans ab).trans ak).trans bj).to'),by rw [qbF aP,← hout]; exact (qim ‹_›).symm,by omega,b8.pk,dQ,((((((aR.trans ac).trans ae).trans aa).trans ab).trans ak).trans bj)⟩
  have fv:=of_decide_eq_false aM
  have dS:=bY.cast (env':=[(5,.v (.int .u32 (qaz l))),(6,.v (.slice A_ out.length c_)),(8,.p 0 0),(9,.v (.int .i64 ((i:Nat):Int))),(17,.v (.slice A ((u.take 32767).length) c)),(18,.v (.int .i64 (((u.take 32767).length:Nat):Int))),(19,.v (.int .i64 ((k:Nat):Int))),(43,.v (.bool false))]) (by rw [aM])
  refine qaD [5,6,7,8,9] [(5,.v (.int .u32 (qaz l))),(6,.v (.slice A_ out.length c_)),(8,.p 0 0),(9,.v (.int .i64 ((i:Nat):Int))),(17,.v (.slice A ((u.take 32767).length) c)),(18,.v (.int .i64 (((u.take 32767).length:Nat):Int))),(19,.v (.int .i64 ((k:Nat):Int))),(43,.v (.bool false)),(48,.v (.bool (decide (((i:Nat):Int) < ((out.length:Nat):Int)))))] 10 (qaa (qaa (qac (qaa (qaa (qac (qaa qad))))))) (fun _ h=>h ▸ az.cells) rfl dS fun gI dT=>?_
  have dU:(decide (((i:Nat):Int) < ((out.length:Nat):Int))) = false:=aN
  have dV:=dT.cast (env':=[(5,.v (.int .u32 (qaz l))),(6,.v (.slice A_ out.length c_)),(8,.p 0 0),(9,.v (.int .i64 ((i:Nat):Int))),(17,.v (.slice A ((u.take 32767).length) c)),(18,.v (.int .i64 (((u.take 32767).length:Nat):Int))),(19,.v (.int .i64 ((k:Nat):Int))),(43,.v (.bool false)),(48,.v (.bool false))]) (by rw [dU])
  refine qaD [10,11,12,13,14,15,16,17,18,19] [(5,.v (.int .u32 (qaz l))),(6,.v (.slice A_ out.length c_)),(8,.p 0 0),(9,.v (.int .i64 ((i:Nat):Int))),(17,.v (.slice A ((u.take 32767).length) c)),(18,.v (.int .i64 (((u.take 32767).length:Nat):Int))),(19,.v (.int .i64 ((k:Nat):Int))),(58,.v (.bool false))] 0 (qaa (qaa (qac (qaa (qaa (qac (qaa qad))))))) (fun _ h=>h ▸ az.cells) rfl dV fun gJ ca=>?_
  refine qaF kz ?_ _
  refine qab ?_
  refine qap ca (b:=false) kz rfl ?_
  refine wp_skip ?_
  refine qab ?_
  refine qag [0,1,2,3,4] kz ?_
  refine qaj [0,1] [2,3,4] [(5,.v (.int .u32 (qaz l))),(8,.p 0 0),(9,.v (.int .i64 ((i:Nat):Int))),(17,.v (.slice A ((u.take 32767).length) c)),(18,.v (.int .i64 (((u.take 32767).length:Nat):Int))),(19,.v (.int .i64 ((k:Nat):Int))),(59,.v (.slice A_ out.length c_)),(60,.v (.agg #[.int .u32 0,.slice none 0 0]))] az ca fun gK dW=>?_
  refine qb1 az dW (k:=0) (e:=65) (size:=2) (len:=1) (cs:=[.int .u32 0,.slice none 0 0]) (d1:=61) (d:=62) kz (t:=24) (bytes:=32) kz (fun _=>by kernel_rfl) rfl kz (by omega) fun ah aj gL gM ao bk ⟨_,dX⟩=>?_
  refine qaj [4] [] [(5,.v (.int .u32 (qaz l))),(6,.v (.slice ah (out.length + 1) aj)),(8,.p 0 0),(9,.v (.int .i64 ((i:Nat):Int))),(17,.v (.slice A ((u.take 32767).length) c)),(18,.v (.int .i64 (((u.take 32767).length:Nat):Int))),(19,.v (.int .i64 ((k:Nat):Int)))] bk dX fun gN dY=>?_
  refine qaf (qab ?_)
  refine wp_seq ?_
  refine qar [(5,.v (.int .u32 (qaz l))),(6,.v (.slice ah (out.length + 1) aj)),(8,.p 0 0),(9,.v (.int .i64 ((i:Nat):Int))),(10,.v (.int .i64 (IntKind.i64.wrap (((out.length + 1:Nat):Int) - 1)))),(17,.v (.slice A ((u.take 32767).length) c)),(18,.v (.int .i64 (((u.take 32767).length:Nat):Int))),(19,.v (.int .i64 ((k:Nat):Int)))] bk dY fun gO cb=>?_
  refine wp_block ?_
  have hcl0:=(hT.move (((((ac.trans ae).trans aa).trans ab).trans ak).trans ao).step immM (((((ac.trans ae).trans aa).trans ab).trans ak).trans ao).to').len
  have dZ:(⟨ah,aj,65,2,out.length + 1,css.flatten ++ [.int .u32 0,.slice none 0 0]⟩:Rw) = ⟨ah,aj,65,2,out.length + 1,(qbt css [.int .u32 0,.slice none 0 0] out.length).flatten⟩:=by rw [qgN hcl0]
  obtain ⟨cc,aw⟩:=bk.rowEq 0 [⟨ah,aj,65,2,out.length + 1,(qbt css [.int .u32 0,.slice none 0 0] out.length).flatten⟩] dZ
  have d5:IntKind.i64.wrap (((out.length + 1:Nat):Int) - 1) = ((out.length:Nat):Int):=by rw [wrap_i64 (by omega) (by omega)]; omega
  rw [d5] at cb
  refine wp_loop_ghost (fun n_ a_ w_=>∃ (j:Nat),n_ = j ∧ (i ≤ j) ∧ (j ≤ out.length) ∧ LInv cc 85 [⟨eN,0,[.int .u32 al,.slice aI ax.length aJ],true⟩] [⟨ah,aj,65,2,out.length + 1,(qbt css [.int .u32 0,.slice none 0 0] j).flatten⟩] [(5,.v (.int .u32 (qaz l))),(6,.v (.slice ah (out.length + 1) aj)),(8,.p 0 0),(9,.v (.int .i64 ((i:Nat):Int))),(10,.v (.int .i64 ((j:Nat):Int))),(17,.v (.slice A ((u.take 32767).length) c)),(18,.v (.int .i64 (((u.take 32767).length:Nat):Int))),(19,.v (.int .i64 ((k:Nat):Int)))] a_ w_) (out.length) ⟨out.length,rfl,hi,Nat.le_refl _,cb.pk,cc,Fr.refl _ _ _⟩ ?_
  rintro gP gQ gR ⟨j,fw,hij,hjl,d6,aA,au⟩
  refine wp_seq ?_
  refine qar [(5,.v (.int .u32 (qaz l))),(6,.v (.slice ah (out.length + 1) aj)),(8,.p 0 0),(9,.v (.int .i64 ((i:Nat):Int))),(10,.v (.int .i64 ((j:Nat):Int))),(17,.v (.slice A ((u.take 32767).length) c)),(18,.v (.int .i64 (((u.take 32767).length:Nat):Int))),(19,.v (.int .i64 ((k:Nat):Int))),(68,.v (.bool (decide (((j:Nat):Int) > ((i:Nat):Int)))))] aA d6 fun gS bn=>?_
  refine qay bn (b:=decide (((j:Nat):Int) > ((i:Nat):Int))) kz (fun bo=>?_) (fun bo=>?_)
  ·
   have fx:=of_decide_eq_true bo
   refine wp_skip ?_
   refine qab ?_
   refine wp_seq ?_
   refine wp_block ?_
   refine qat [0,1,2,3,4,5,6,7,8] kz ?_
   refine qaj [0,1,2,3,4] [5,6,7,8] [(5,.v (.int .u32 (qaz l))),(6,.v (.slice ah (out.length + 1) aj)),(8,.p 0 0),(9,.v (.int .i64 ((i:Nat):Int))),(10,.v (.int .i64 ((j:Nat):Int))),(17,.v (.slice A ((u.take 32767).length) c)),(18,.v (.int .i64 (((u.take 32767).length:Nat):Int))),(19,.v (.int .i64 ((k:Nat):Int))),(71,.v (.slice ah (out.length + 1) aj)),(72,.v (.int .i64 ((j:Nat):Int))),(73,.v (.slice ah (out.length + 1) aj)),(75,.v (.int .i64 (IntKind.i64.wrap (((j:Nat):Int) - 1))))] aA bn fun gT d7=>?_
   obtain ⟨d8,cd⟩:=qbH (aA.own 0 _ rfl) (show 0 < out.length + 1 by omega)
   obtain ⟨⟨bC,bD⟩,d9⟩:∃ x,out[j - 1]? = some x:=⟨_,List.getElem?_eq_getElem (by omega)⟩
   obtain ⟨bE,bF,ce,fy,gU,gV⟩:=TagsE.get2 (hT.move (((((((ac.trans ae).trans aa).trans ab).trans ak).trans ao).trans aw).trans au).step immM (((((((ac.trans ae).trans aa).trans ab).trans ak).trans ao).trans aw).trans au).to') d9
   have cH:=qgK (aA.own 0 _ rfl) cd (qdl (qd0 (hT.move (((((((ac.trans ae).trans aa).trans ab).trans ak).trans ao).trans aw).trans au).step immM (((((((ac.trans ae).trans aa).trans ab).trans ak).trans ao).trans aw).trans au).to').two rfl j) (qfV (show j - 1 < j by omega) ce))
   refine qam (qaC d7 (t:=24) (A:=ah) (m:=(out.length + 1)) (q:=(IntKind.i64.wrap (((j:Nat):Int) - 1))) (d:=76) kz (e:=65) (size:=2) (bytes:=32) kz (b:=d8) (o:=0) (j:=(j - 1)) cd (by rw [wrap_i64 (by omega) (by omega)]; omega) (by omega) fun gW ea=>?_)
   refine qam (qaM ea (t:=65) (b:=d8) (o:=0 + (j - 1) * 2) (d:=77) kz (cs:=[.int .u32 bC,.slice bE bD.length bF]) (v:=.agg #[.int .u32 bC,.slice bE bD.length bF]) kz cH fun gX eb=>?_)
   obtain ⟨ec,cm⟩:=qbH (aA.own 0 _ rfl) (show 0 < out.length + 1 by omega)
   refine qam (qaC eb (t:=24) (A:=ah) (m:=(out.length + 1)) (q:=((j:Nat):Int)) (d:=78) kz (e:=65) (size:=2) (bytes:=32) kz (b:=ec) (o:=0) (j:=j) cm (rfl) (by omega) fun gY ee=>?_)
   refine qam (qbC aA ee (k:=0) (g:=ec) (o:=j * 2) (c:=aj) (m:=(out.length + 1)) (size:=2) (e:=65) (A:=ah) (xs:=((qbt css [.int .u32 0,.slice none 0 0] j).flatten)) (vs:=[.int .u32 bC,.slice bE bD.length bF]) kz rfl cm (by simp only [List.length_cons,List.length_nil]; omega) fun gZ bp cq ef=>?_)
   refine qaf ?_
   refine qaq ?_
   refine qab ?_
   refine qat [0,1,2] kz ?_
   refine qaj [0,1,2] [] [(5,.v (.int .u32 (qaz l))),(6,.v (.slice ah (out.length + 1) aj)),(8,.p 0 0),(9,.v (.int .i64 ((i:Nat):Int))),(10,.v (.int .i64 (IntKind.i64.wrap (((j:Nat):Int) - 1)))),(17,.v (.slice A ((u.take 32767).length) c)),(18,.v (.int .i64 (((u.take 32767).length:Nat):Int))),(19,.v (.int .i64 ((k:Nat):Int)))] cq ef fun g9 cr=>?_
   refine qaf (qab ?_)
   have eg:(⟨ah,aj,65,2,out.length + 1,qba ((qbt css [.int .u32 0,.slice none 0 0] j).flatten) (j * 2) [.int .u32 bC,.slice bE bD.length bF]⟩:Rw) = ⟨ah,aj,65,2,out.length + 1,(qbt css [.int .u32 0,.slice none 0 0] (j - 1)).flatten⟩:=by rw [qfW (hT.move ((((((((ac.trans ae).trans aa).trans ab).trans ak).trans ao).trans aw).trans au).trans bp).step immM ((((((((ac.trans ae).trans aa).trans ab).trans ak).trans ao).trans aw).trans au).trans bp).to').two rfl (by omega) (by omega) ce]
   obtain ⟨eh,ei⟩:=cq.rowEq 0 [⟨ah,aj,65,2,out.length + 1,(qbt css [.int .u32 0,.slice none 0 0] (j - 1)).flatten⟩] eg
   have ej:IntKind.i64.wrap (((j:Nat):Int) - 1) = ((j - 1:Nat):Int):=by rw [wrap_i64 (by omega) (by omega)]; omega
   rw [ej] at cr
   exact ⟨(j - 1),by omega,(j - 1),rfl,by omega,by omega,cr.pk,eh,((au.trans bp).trans ei)⟩
  have fz:=of_decide_eq_false bo
  refine wp_exit ?_
  refine qaB ?_
  refine qaB ?_
  refine qaL ?_
  refine qab ?_
  refine qat [0,1,2,3,4] kz ?_
  refine qaj [0,1,2] [3,4] [(5,.v (.int .u32 (qaz l))),(6,.v (.slice ah (out.length + 1) aj)),(17,.v (.slice A ((u.take 32767).length) c)),(18,.v (.int .i64 (((u.take 32767).length:Nat):Int))),(19,.v (.int .i64 ((k:Nat):Int))),(79,.v (.slice ah (out.length + 1) aj)),(80,.v (.int .i64 ((i:Nat):Int))),(81,.v (.agg #[.int .u32 al,.slice aI ax.length aJ]))] aA bn fun hC ek=>?_
  have hji:j = i:=by omega
  have em:(⟨ah,aj,65,2,out.length + 1,(qbt css [.int .u32 0,.slice none 0 0] j).flatten⟩:Rw) = ⟨ah,aj,65,2,out.length + 1,(qbt css [.int .u32 0,.slice none 0 0] i).flatten⟩:=by rw [hji]
  obtain ⟨cu,aF⟩:=aA.rowEq 0 [⟨ah,aj,65,2,out.length + 1,(qbt css [.int .u32 0,.slice none 0 0] i).flatten⟩] em
  obtain ⟨eo,cw⟩:=qbH (cu.own 0 _ rfl) (show 0 < out.length + 1 by omega)
  refine qam (qaC ek (t:=24) (A:=ah) (m:=(out.length + 1)) (q:=((i:Nat):Int)) (d:=82) kz (e:=65) (size:=2) (bytes:=32) kz (b:=eo) (o:=0) (j:=i) cw (rfl) (by omega) fun hJ ep=>?_)
  refine qam (qbC cu ep (k:=0) (g:=eo) (o:=i * 2) (c:=aj) (m:=(out.length + 1)) (size:=2) (e:=65) (A:=ah) (xs:=((qbt css [.int .u32 0,.slice none 0 0] i).flatten)) (vs:=[.int .u32 al,.slice aI ax.length aJ]) kz rfl cw (by simp only [List.length_cons,List.length_nil]; omega) fun hK aG cz eu=>?_)
  refine qaf ?_
  refine qaq ?_
  refine qab ?_
  refine qat [0,1] kz ?_
  refine qaj [0,1] [] [(5,.v (.int .u32 (qaz l))),(6,.v (.slice ah (out.length + 1) aj)),(17,.v (.slice A ((u.take 32767).length) c)),(18,.v (.int .i64 (((u.take 32767).length:Nat):Int))),(19,.v (.int .i64 (IntKind.i64.wrap (((k:Nat):Int) + 1))))] cz eu fun hZ ev=>?_
  refine qaf (qab ?_)
  obtain ⟨bq,ew,aH⟩:=cz.cutB ev 0 [] [(5,.v (.int .u32 (qaz l))),(6,.v (.slice ah (out.length + 1) aj)),(17,.v (.slice A ((u.take 32767).length) c)),(18,.v (.int .i64 (((u.take 32767).length:Nat):Int))),(19,.v (.int .i64 (IntKind.i64.wrap (((k:Nat):Int) + 1))))]
  have hcl:=(hT.move ((((((((((ac.trans ae).trans aa).trans ab).trans ak).trans ao).trans aw).trans au).trans aF).trans aG).trans aH).step immM ((((((((((ac.trans ae).trans aa).trans ab).trans ak).trans ao).trans aw).trans au).trans aF).trans aG).trans aH).to').len
  have ey:(⟨ah,aj,65,2,out.length + 1,qba ((qbt css [.int .u32 0,.slice none 0 0] i).flatten) (i * 2) [.int .u32 al,.slice aI ax.length aJ]⟩:Rw) = ⟨ah,aj,65,2,(out.take i ++ (al,ax) :: out.drop i).length,(css.take i ++ [.int .u32 al,.slice aI ax.length aJ] :: css.drop i).flatten⟩:=by rw [qfX (hT.move ((((((((((ac.trans ae).trans aa).trans ab).trans ak).trans ao).trans aw).trans au).trans aF).trans aG).trans aH).step immM ((((((((((ac.trans ae).trans aa).trans ab).trans ak).trans ao).trans aw).trans au).trans aF).trans aG).trans aH).to').two rfl (by omega) rfl,qcg (al,ax) hi]
  obtain ⟨bt,bu⟩:=ew.rowEq 0 [⟨ah,aj,65,2,(out.take i ++ (al,ax) :: out.drop i).length,(css.take i ++ [.int .u32 al,.slice aI ax.length aJ] :: css.drop i).flatten⟩] ey
  have ez:IntKind.i64.wrap (((k:Nat):Int) + 1) = ((k + 1:Nat):Int):=qaN (by omega)
  rw [ez] at bq
  have eB:out.length + 1 = (out.take i ++ (al,ax) :: out.drop i).length:=qcg (al,ax) hi
  rw [eB] at bq
  exact ⟨(u.take 32767).length - (k + 1),by omega,k + 1,ah,aj,(out.take i ++ (al,ax) :: out.drop i),(css.take i ++ [.int .u32 al,.slice aI ax.length aJ] :: css.drop i),rfl,by omega,(hT.move (((((((((((ac.trans ae).trans aa).trans ab).trans ak).trans ao).trans aw).trans au).trans aF).trans aG).trans aH).trans bu).step immM (((((((((((ac.trans ae).trans aa).trans ab).trans ak).trans ao).trans aw).trans au).trans aF).trans aG).trans aH).trans bu).to').ins ⟨⟨aI,aJ,rfl,(cK.move bt.step nilM bt.imm)⟩,fa,fb⟩ hi,by rw [qbF aP,← hout]; exact (qin (qeJ hi hlt (fun h_=>absurd h_ (by omega))) ‹_› (fun h_=>absurd h_ (by omega))).symm,by rw [← qcg (al,ax) hi]; omega,bq.pk,bt,((((((((((((aR.trans ac).trans ae).trans aa).trans ab).trans ak).trans ao).trans aw).trans au).trans aF).trans aG).trans aH).trans bu)⟩
 have fA:=of_decide_eq_false cB
 refine wp_exit ?_
 refine qaB ?_
 refine qaB ?_
 refine qaL ?_
 refine qab ?_
 refine qar [(4,.v (.slice A_ out.length c_))] aO cA fun ia eC=>?_
 refine wp_ret ?_
 refine qaJ eC aO.cells (v:=.slice A_ out.length c_) kz ?_
 exact qgr aO (k:=0) rfl rfl rfl hT (by omega) (by rw [hout,List.take_of_length_le (by omega)]; rfl)
def qiQ (d:Nat):Prop:=∀ (cf:List Value) (f:Fld) (ct:List Value) (t:Tree) (w:World) (F:Nat → Nat → Prop),FldR w F cf f → f.depth ≤ d → TreeR w F ct t →
  Calls Tryd.prog 22 #[.agg cf.toArray,.agg ct.toArray] w (qbO w (.bool (f.usual t)))
theorem qgz {d:Nat} (hu:qiQ d) (cf:List Value) (f:Fld) (ct:List Value) (t:Tree) (w:World) (F:Nat → Nat → Prop) (hf:FldR w F cf f) (hd:f.depth ≤ d + 1) (ht:TreeR w F ct t) :
  Calls Tryd.prog 22 #[.agg cf.toArray,.agg ct.toArray] w (qbO w (.bool (f.usual t))):=by
 obtain ⟨k1,y2,y3,y4,y5,y6,y7,l8,A9,aA,dC,rfl,rfl,dD,ek⟩:=hf.open_
 have em:=dD.small
 obtain ⟨af,ab,aC,aK,aB,ah,ai,bT,bU,bu,bw,fe,rfl,rfl,eo,ff,gK,fg⟩:=ht.open_
 have ep:=eo.small
 have eu:=ff.small
 refine enter (n:=91) Tryd.func22 rfl Tryd.ntmps22 kz fun a hE=>?_
 have hW:=WOk.start w Nil
 refine qag [0,1,2] kz ?_
 refine qam (qa7 hW hE (d:=2) (cs:=[.int .i64 k1,.int .i64 y2,.int .i64 y3,.int .i64 y4,.int .i64 y5,.int .i64 y6,.int .i64 y7,.slice A9 l8.length aA]) kz fun dE gL gM fh fi fj dF dG=>?_)
 refine qam (qa7 dF dG (d:=3) (cs:=[.int .i64 af,.slice ah ab.length ai,.bool aC,.slice bT aK.length bU,.slice bu aB.length bw]) kz fun dH gN gO fk fm fo aa dI=>?_)
 refine qaj [2] [] [(2,.p 0 0),(3,.p 1 0)] aa dI fun gP dJ=>?_
 refine qaf (qab ?_)
 refine wp_seq ?_
 refine qar [(2,.p 0 0),(3,.p 1 0),(10,.v (.int .i64 k1))] aa dJ fun gQ dK=>?_
 refine wp_block ?_
 refine qar [(2,.p 0 0),(3,.p 1 0),(10,.v (.int .i64 k1)),(11,.v (.bool (k1 == 0)))] aa dK fun gR bN=>?_
 refine qay bN (b:=k1 == 0) kz (fun bO=>?_) (fun bO=>?_)
 ·
  have fq:k1 = 0:=by simpa using bO
  refine qar [(4,.v (.bool ((IntKind.i64.wrap (BitVec.ofInt 64 af &&& BitVec.ofInt 64 1).toNat) == y6)))] aa bN fun gS dL=>?_
  refine wp_ret ?_
  refine qax ?_
  refine qao ?_
  refine qaJ dL aa.cells (v:=.bool ((IntKind.i64.wrap (BitVec.ofInt 64 af &&& BitVec.ofInt 64 1).toNat) == y6)) kz ?_
  refine ⟨congrArg (fun b_=>Ending.returned (Value.bool b_)) ?_,aa.step⟩
  first
   | (rw [qco ‹_›]; simp only [and1]; done)
   | (rw [qbl ‹_› ‹_›]; exact qbj hz (by omega); done)
   | (rw [qbl ‹_› ‹_›]; exact qbf (k:=k) (by omega) (by omega) ‹_›; done)
   | (rw [qbG ‹_› ‹_› (by omega) ‹_›]; done)
   | (rw [qbV ‹_› ‹_› (by omega) ‹_›]; done)
   | (rw [qbW ‹_› ‹_› ‹_› ‹_› ‹_›]; done)
   | (rw [qbM ‹_› ‹_› ‹_› ‹_› ‹_› ‹_›,huu,qbr (by omega),Bool.true_and]; done)
   | (rw [qbq ‹_› ‹_› ‹_› ‹_› ‹_› ‹_›]; done)
 have fr:k1 ≠ 0:=by simpa using bO
 refine qar [(2,.p 0 0),(3,.p 1 0),(10,.v (.int .i64 k1)),(19,.v (.bool (k1 == 7)))] aa bN fun gT bP=>?_
 refine qay bP (b:=k1 == 7) kz (fun bQ=>?_) (fun bQ=>?_)
 ·
  have ft:k1 = 7:=by simpa using bQ
  refine wp_seq ?_
  refine qar [(22,.v (.slice ah ab.length ai)),(23,.v (.int .i64 ((ab.length:Nat):Int))),(24,.v (.int .i64 0))] aa bP fun gU dM=>?_
  refine wp_block ?_
  refine wp_loop_ghost (fun n_ a_ w_=>∃ (k:Nat),n_ = ab.length - k ∧ k ≤ ab.length ∧ (∀ q,q < k → q < 16 → (((ab.getD q 0).toNat:Nat):Int) = 0) ∧ LInv aa 91 [⟨dE,0,[.int .i64 k1,.int .i64 y2,.int .i64 y3,.int .i64 y4,.int .i64 y5,.int .i64 y6,.int .i64 y7,.slice A9 l8.length aA],true⟩,⟨dH,0,[.int .i64 af,.slice ah ab.length ai,.bool aC,.slice bT aK.length bU,.slice bu aB.length bw],true⟩] [] [(22,.v (.slice ah ab.length ai)),(23,.v (.int .i64 ((ab.length:Nat):Int))),(24,.v (.int .i64 ((k:Nat):Int)))] a_ w_) (ab.length) ⟨0,by omega,by omega,fun q h_=>absurd h_ (Nat.not_lt_zero q),dM.pk,aa,Fr.refl _ _ _⟩ ?_
  rintro gV gW gX ⟨k,fu,fv,hz,dN,ae,bV⟩
  refine qar [(22,.v (.slice ah ab.length ai)),(23,.v (.int .i64 ((ab.length:Nat):Int))),(24,.v (.int .i64 ((k:Nat):Int))),(25,.v (.bool (decide (((k:Nat):Int) < ((ab.length:Nat):Int)))))] ae dN fun gY bR=>?_
  refine wp_seq ?_
  refine qay bR (b:=decide (((k:Nat):Int) < ((ab.length:Nat):Int))) kz (fun bS=>?_) (fun bS=>?_)
  ·
   have fw:=of_decide_eq_true bS
   refine wp_skip ?_
   refine qab ?_
   refine wp_seq ?_
   refine wp_block ?_
   refine qag [0,1,2,3,4] kz ?_
   refine qaj [0] [1,2,3,4] [(22,.v (.slice ah ab.length ai)),(23,.v (.int .i64 ((ab.length:Nat):Int))),(24,.v (.int .i64 ((k:Nat):Int))),(26,.v (.int .i64 ((k:Nat):Int)))] ae bR fun gZ dO=>?_
   obtain ⟨fx,fy,dP,fz,bW⟩:=Slots.get eo (i:=k) (by omega)
   refine qam (qaC dO (t:=22) (A:=ah) (m:=ab.length) (q:=((k:Nat):Int)) (d:=27) kz (e:=5) (size:=1) (bytes:=1) kz dP rfl (by omega) fun g9 dQ=>?_)
   refine qam (qaM dQ (t:=5) (b:=fx) (o:=fy + k * 1) (d:=28) kz (cs:=[.int .u8 ((ab.getD k 0).toNat:Int)]) (v:=.int .u8 ((ab.getD k 0).toNat:Int)) kz (AtF.move bW ae.step nilM qaX).at_ fun hC dR=>?_)
   refine qaj [3,4] [] [(5,.v (.int .i64 ((k:Nat):Int))),(6,.v (.int .u8 ((ab.getD k 0).toNat:Int))),(22,.v (.slice ah ab.length ai)),(23,.v (.int .i64 ((ab.length:Nat):Int))),(24,.v (.int .i64 ((k:Nat):Int)))] ae dR fun hJ dS=>?_
   refine qaf (qab ?_)
   refine qag [0,1,2,3,4,5] kz ?_
   refine qaj [0,1,2] [3,4,5] [(6,.v (.int .u8 ((ab.getD k 0).toNat:Int))),(22,.v (.slice ah ab.length ai)),(23,.v (.int .i64 ((ab.length:Nat):Int))),(24,.v (.int .i64 ((k:Nat):Int))),(31,.v (.bool (decide (((k:Nat):Int) < 16))))] ae dS fun hK bX=>?_
   refine (Bool.eq_false_or_eq_true (decide (((k:Nat):Int) < 16))).elim (fun aL=>?_) (fun aL=>?_)
   ·
    have fA:=of_decide_eq_true aL
    have dT:=bX.cast (env':=[(6,.v (.int .u8 ((ab.getD k 0).toNat:Int))),(22,.v (.slice ah ab.length ai)),(23,.v (.int .i64 ((ab.length:Nat):Int))),(24,.v (.int .i64 ((k:Nat):Int))),(31,.v (.bool true))]) (by rw [aL])
    refine qaj [3,4,5] [] [(22,.v (.slice ah ab.length ai)),(23,.v (.int .i64 ((ab.length:Nat):Int))),(24,.v (.int .i64 ((k:Nat):Int))),(34,.v (.bool (((ab.getD k 0).toNat:Int) != 0)))] ae dT fun hZ aM=>?_
    refine qaf (qab ?_)
    refine qay aM (b:=((ab.getD k 0).toNat:Int) != 0) kz (fun aN=>?_) (fun aN=>?_)
    ·
     have ev:((ab.getD k 0).toNat:Int) ≠ 0:=by simpa using aN
     refine qar [(4,.v (.bool false))] ae aM fun fB bY=>?_
     refine wp_ret ?_
     refine qax ?_
     refine qao ?_
     refine qao ?_
     refine qax ?_
     refine qao ?_
     refine qax ?_
     refine qao ?_
     refine qaJ bY ae.cells (v:=.bool false) kz ?_
     refine ⟨congrArg (fun b_=>Ending.returned (Value.bool b_)) ?_,ae.step⟩
     first
      | (rw [qco ‹_›]; simp only [and1]; done)
      | (rw [qbl ‹_› ‹_›]; exact qbj hz (by omega); done)
      | (rw [qbl ‹_› ‹_›]; exact qbf (k:=k) (by omega) (by omega) ‹_›; done)
      | (rw [qbG ‹_› ‹_› (by omega) ‹_›]; done)
      | (rw [qbV ‹_› ‹_› (by omega) ‹_›]; done)
      | (rw [qbW ‹_› ‹_› ‹_› ‹_› ‹_›]; done)
      | (rw [qbM ‹_› ‹_› ‹_› ‹_› ‹_› ‹_›,huu,qbr (by omega),Bool.true_and]; done)
      | (rw [qbq ‹_› ‹_› ‹_› ‹_› ‹_› ‹_›]; done)
    have ew:((ab.getD k 0).toNat:Int) = 0:=by simpa using aN
    refine wp_skip ?_
    refine qaq ?_
    refine qab ?_
    refine qat [0,1] kz ?_
    refine qaj [0,1] [] [(22,.v (.slice ah ab.length ai)),(23,.v (.int .i64 ((ab.length:Nat):Int))),(24,.v (.int .i64 (IntKind.i64.wrap (((k:Nat):Int) + 1))))] ae aM fun fC bx=>?_
    refine qaf (qab ?_)
    have bZ:IntKind.i64.wrap (((k:Nat):Int) + 1) = ((k + 1:Nat):Int):=qaN (by omega)
    rw [bZ] at bx
    exact ⟨ab.length - (k + 1),by omega,k + 1,rfl,by omega,fun q hq b8=>by rcases Nat.lt_succ_iff_lt_or_eq.1 hq with h_ | h_; exact hz q h_ b8; rw [h_] at b8 ⊢; first | assumption | omega,bx.pk,ae,bV⟩
   have ey:=of_decide_eq_false aL
   have ca:=bX.cast (env':=[(6,.v (.int .u8 ((ab.getD k 0).toNat:Int))),(22,.v (.slice ah ab.length ai)),(23,.v (.int .i64 ((ab.length:Nat):Int))),(24,.v (.int .i64 ((k:Nat):Int))),(31,.v (.bool false))]) (by rw [aL])
   refine qaj [3,4,5] [] [(22,.v (.slice ah ab.length ai)),(23,.v (.int .i64 ((ab.length:Nat):Int))),(24,.v (.int .i64 ((k:Nat):Int))),(34,.v (.bool false))] ae ca fun fD bz=>?_
   refine qaf (qab ?_)
   refine qap bz (b:=false) kz rfl ?_
   refine wp_skip ?_
   refine qaq ?_
   refine qab ?_
   refine qat [0,1] kz ?_
   refine qaj [0,1] [] [(22,.v (.slice ah ab.length ai)),(23,.v (.int .i64 ((ab.length:Nat):Int))),(24,.v (.int .i64 (IntKind.i64.wrap (((k:Nat):Int) + 1))))] ae bz fun fE bA=>?_
   refine qaf (qab ?_)
   have cb:IntKind.i64.wrap (((k:Nat):Int) + 1) = ((k + 1:Nat):Int):=qaN (by omega)
   rw [cb] at bA
   exact ⟨ab.length - (k + 1),by omega,k + 1,rfl,by omega,fun q hq b8=>by rcases Nat.lt_succ_iff_lt_or_eq.1 hq with h_ | h_; exact hz q h_ b8; rw [h_] at b8 ⊢; first | assumption | omega,bA.pk,ae,bV⟩
  have ez:=of_decide_eq_false bS
  refine wp_exit ?_
  refine qaB ?_
  refine qaB ?_
  refine qaL ?_
  refine qab ?_
  refine qar [(4,.v (.bool true))] ae bR fun fF cc=>?_
  refine wp_ret ?_
  refine qax ?_
  refine qao ?_
  refine qaJ cc ae.cells (v:=.bool true) kz ?_
  refine ⟨congrArg (fun b_=>Ending.returned (Value.bool b_)) ?_,ae.step⟩
  first
   | (rw [qco ‹_›]; simp only [and1]; done)
   | (rw [qbl ‹_› ‹_›]; exact qbj hz (by omega); done)
   | (rw [qbl ‹_› ‹_›]; exact qbf (k:=k) (by omega) (by omega) ‹_›; done)
   | (rw [qbG ‹_› ‹_› (by omega) ‹_›]; done)
   | (rw [qbV ‹_› ‹_› (by omega) ‹_›]; done)
   | (rw [qbW ‹_› ‹_› ‹_› ‹_› ‹_›]; done)
   | (rw [qbM ‹_› ‹_› ‹_› ‹_› ‹_› ‹_›,huu,qbr (by omega),Bool.true_and]; done)
   | (rw [qbq ‹_› ‹_› ‹_› ‹_› ‹_› ‹_›]; done)
 have eB:k1 ≠ 7:=by simpa using bQ
 refine wp_seq ?_
 refine qar [(2,.p 0 0),(3,.p 1 0),(10,.v (.int .i64 k1)),(36,.v (.bool (k1 == 8)))] aa bP fun fG aD=>?_
 refine qay aD (b:=k1 == 8) kz (fun aE=>?_) (fun aE=>?_)
 ·
  have eC:k1 = 8:=by simpa using aE
  refine wp_skip ?_
  refine qab ?_
  refine qaU aD (b:=k1 == 8) kz (aE) ?_
  refine wp_seq ?_
  refine qar [(3,.p 1 0),(41,.v (.bool (decide (y4 ≥ 0))))] aa aD fun fH aO=>?_
  refine qay aO (b:=decide (y4 ≥ 0)) kz (fun aP=>?_) (fun aP=>?_)
  ·
   have eD:=of_decide_eq_true aP
   refine qar [(4,.v (.bool aC))] aa aO fun fI cd=>?_
   refine wp_ret ?_
   refine qao ?_
   refine qax ?_
   refine qao ?_
   refine qaJ cd aa.cells (v:=.bool aC) kz ?_
   refine ⟨congrArg (fun b_=>Ending.returned (Value.bool b_)) ?_,aa.step⟩
   first
    | (rw [qco ‹_›]; simp only [and1]; done)
    | (rw [qbl ‹_› ‹_›]; exact qbj hz (by omega); done)
    | (rw [qbl ‹_› ‹_›]; exact qbf (k:=k) (by omega) (by omega) ‹_›; done)
    | (rw [qbG ‹_› ‹_› (by omega) ‹_›]; done)
    | (rw [qbV ‹_› ‹_› (by omega) ‹_›]; done)
    | (rw [qbW ‹_› ‹_› ‹_› ‹_› ‹_›]; done)
    | (rw [qbM ‹_› ‹_› ‹_› ‹_› ‹_› ‹_›,huu,qbr (by omega),Bool.true_and]; done)
    | (rw [qbq ‹_› ‹_› ‹_› ‹_› ‹_› ‹_›]; done)
  have eE:=of_decide_eq_false aP
  refine wp_skip ?_
  refine qab ?_
  refine qar [(4,.v (.bool (((ab.length:Nat):Int) == 0)))] aa aO fun fJ ce=>?_
  refine wp_ret ?_
  refine qax ?_
  refine qao ?_
  refine qaJ ce aa.cells (v:=.bool (((ab.length:Nat):Int) == 0)) kz ?_
  refine ⟨congrArg (fun b_=>Ending.returned (Value.bool b_)) ?_,aa.step⟩
  first
   | (rw [qco ‹_›]; simp only [and1]; done)
   | (rw [qbl ‹_› ‹_›]; exact qbj hz (by omega); done)
   | (rw [qbl ‹_› ‹_›]; exact qbf (k:=k) (by omega) (by omega) ‹_›; done)
   | (rw [qbG ‹_› ‹_› (by omega) ‹_›]; done)
   | (rw [qbV ‹_› ‹_› (by omega) ‹_›]; done)
   | (rw [qbW ‹_› ‹_› ‹_› ‹_› ‹_›]; done)
   | (rw [qbM ‹_› ‹_› ‹_› ‹_› ‹_› ‹_›,huu,qbr (by omega),Bool.true_and]; done)
   | (rw [qbq ‹_› ‹_› ‹_› ‹_› ‹_› ‹_›]; done)
 have eF:k1 ≠ 8:=by simpa using aE
 refine qat [0,1] kz ?_
 refine qaj [0,1] [] [(2,.p 0 0),(3,.p 1 0),(10,.v (.int .i64 k1)),(36,.v (.bool (k1 == 9)))] aa aD fun fK aQ=>?_
 refine qaf (qab ?_)
 refine qay aQ (b:=k1 == 9) kz (fun aR=>?_) (fun aR=>?_)
 ·
  have eG:k1 = 9:=by simpa using aR
  refine wp_seq ?_
  refine qar [(3,.p 1 0),(41,.v (.bool (decide (y4 ≥ 0))))] aa aQ fun fL aS=>?_
  refine qay aS (b:=decide (y4 ≥ 0)) kz (fun aT=>?_) (fun aT=>?_)
  ·
   have eH:=of_decide_eq_true aT
   refine qar [(4,.v (.bool aC))] aa aS fun fM cm=>?_
   refine wp_ret ?_
   refine qao ?_
   refine qax ?_
   refine qao ?_
   refine qaJ cm aa.cells (v:=.bool aC) kz ?_
   refine ⟨congrArg (fun b_=>Ending.returned (Value.bool b_)) ?_,aa.step⟩
   first
    | (rw [qco ‹_›]; simp only [and1]; done)
    | (rw [qbl ‹_› ‹_›]; exact qbj hz (by omega); done)
    | (rw [qbl ‹_› ‹_›]; exact qbf (k:=k) (by omega) (by omega) ‹_›; done)
    | (rw [qbG ‹_› ‹_› (by omega) ‹_›]; done)
    | (rw [qbV ‹_› ‹_› (by omega) ‹_›]; done)
    | (rw [qbW ‹_› ‹_› ‹_› ‹_› ‹_›]; done)
    | (rw [qbM ‹_› ‹_› ‹_› ‹_› ‹_› ‹_›,huu,qbr (by omega),Bool.true_and]; done)
    | (rw [qbq ‹_› ‹_› ‹_› ‹_› ‹_› ‹_›]; done)
  have eI:=of_decide_eq_false aT
  refine wp_skip ?_
  refine qab ?_
  refine qar [(4,.v (.bool (((ab.length:Nat):Int) == 0)))] aa aS fun fN cq=>?_
  refine wp_ret ?_
  refine qax ?_
  refine qao ?_
  refine qaJ cq aa.cells (v:=.bool (((ab.length:Nat):Int) == 0)) kz ?_
  refine ⟨congrArg (fun b_=>Ending.returned (Value.bool b_)) ?_,aa.step⟩
  first
   | (rw [qco ‹_›]; simp only [and1]; done)
   | (rw [qbl ‹_› ‹_›]; exact qbj hz (by omega); done)
   | (rw [qbl ‹_› ‹_›]; exact qbf (k:=k) (by omega) (by omega) ‹_›; done)
   | (rw [qbG ‹_› ‹_› (by omega) ‹_›]; done)
   | (rw [qbV ‹_› ‹_› (by omega) ‹_›]; done)
   | (rw [qbW ‹_› ‹_› ‹_› ‹_› ‹_›]; done)
   | (rw [qbM ‹_› ‹_› ‹_› ‹_› ‹_› ‹_›,huu,qbr (by omega),Bool.true_and]; done)
   | (rw [qbq ‹_› ‹_› ‹_› ‹_› ‹_› ‹_›]; done)
 have eJ:k1 ≠ 9:=by simpa using aR
 refine qar [(2,.p 0 0),(3,.p 1 0),(10,.v (.int .i64 k1)),(48,.v (.bool (k1 == 11)))] aa aQ fun fO aU=>?_
 refine qay aU (b:=k1 == 11) kz (fun aV=>?_) (fun aV=>?_)
 ·
  have eK:k1 = 11:=by simpa using aV
  refine qar [(4,.v (.bool (((aK.length:Nat):Int) == 0)))] aa aU fun fP cr=>?_
  refine wp_ret ?_
  refine qax ?_
  refine qao ?_
  refine qaJ cr aa.cells (v:=.bool (((aK.length:Nat):Int) == 0)) kz ?_
  refine ⟨congrArg (fun b_=>Ending.returned (Value.bool b_)) ?_,aa.step⟩
  first
   | (rw [qco ‹_›]; simp only [and1]; done)
   | (rw [qbl ‹_› ‹_›]; exact qbj hz (by omega); done)
   | (rw [qbl ‹_› ‹_›]; exact qbf (k:=k) (by omega) (by omega) ‹_›; done)
   | (rw [qbG ‹_› ‹_› (by omega) ‹_›]; done)
   | (rw [qbV ‹_› ‹_› (by omega) ‹_›]; done)
   | (rw [qbW ‹_› ‹_› ‹_› ‹_› ‹_›]; done)
   | (rw [qbM ‹_› ‹_› ‹_› ‹_› ‹_› ‹_›,huu,qbr (by omega),Bool.true_and]; done)
   | (rw [qbq ‹_› ‹_› ‹_› ‹_› ‹_› ‹_›]; done)
 have eL:k1 ≠ 11:=by simpa using aV
 refine qar [(2,.p 0 0),(3,.p 1 0),(54,.v (.bool (k1 == 10)))] aa aU fun fQ aW=>?_
 refine qay aW (b:=k1 == 10) kz (fun aX=>?_) (fun aX=>?_)
 ·
  have eM:k1 = 10:=by simpa using aX
  refine wp_seq ?_
  refine qar [(2,.p 0 0),(3,.p 1 0),(57,.v (.slice A9 l8.length aA)),(58,.v (.int .i64 ((l8.length:Nat):Int))),(59,.v (.int .i64 0))] aa aW fun fR cu=>?_
  refine wp_block ?_
  refine wp_loop_ghost (fun n_ a_ w_=>∃ (k:Nat),n_ = l8.length - k ∧ k ≤ l8.length ∧ (usuals l8 (Tree.mk af ab aC aK aB) 0 = usuals (l8.drop k) (Tree.mk af ab aC aK aB) k) ∧ LInv aa 91 [⟨dE,0,[.int .i64 k1,.int .i64 y2,.int .i64 y3,.int .i64 y4,.int .i64 y5,.int .i64 y6,.int .i64 y7,.slice A9 l8.length aA],true⟩,⟨dH,0,[.int .i64 af,.slice ah ab.length ai,.bool aC,.slice bT aK.length bU,.slice bu aB.length bw],true⟩] [] [(2,.p 0 0),(3,.p 1 0),(57,.v (.slice A9 l8.length aA)),(58,.v (.int .i64 ((l8.length:Nat):Int))),(59,.v (.int .i64 ((k:Nat):Int)))] a_ w_) (l8.length) ⟨0,by omega,by omega,rfl,cu.pk,aa,Fr.refl _ _ _⟩ ?_
  rintro fS fT fU ⟨k,eN,eO,huu,cw,ac,cz⟩
  refine qar [(2,.p 0 0),(3,.p 1 0),(57,.v (.slice A9 l8.length aA)),(58,.v (.int .i64 ((l8.length:Nat):Int))),(59,.v (.int .i64 ((k:Nat):Int))),(60,.v (.bool (decide (((k:Nat):Int) < ((l8.length:Nat):Int)))))] ac cw fun fV aY=>?_
  refine wp_seq ?_
  refine qay aY (b:=decide (((k:Nat):Int) < ((l8.length:Nat):Int))) kz (fun aZ=>?_) (fun aZ=>?_)
  ·
   have eP:=of_decide_eq_true aZ
   refine wp_skip ?_
   refine qab ?_
   refine wp_seq ?_
   refine wp_block ?_
   refine qag [0,1,2,3,4,5] kz ?_
   refine qaj [0] [1,2,3,4,5] [(2,.p 0 0),(3,.p 1 0),(57,.v (.slice A9 l8.length aA)),(58,.v (.int .i64 ((l8.length:Nat):Int))),(59,.v (.int .i64 ((k:Nat):Int))),(61,.v (.int .i64 ((k:Nat):Int)))] ac aY fun fW cA=>?_
   obtain ⟨dU,dV,cB,eQ,ba⟩:=Slots.get dD (i:=k) (by omega)
   obtain ⟨dW,aF⟩:∃ x,l8[k]? = some x:=⟨_,List.getElem?_eq_getElem (by omega)⟩
   have bd:=ek k dW aF
   obtain ⟨aj,ak,al,am,ao,ap,ar,au,aI,aJ,eR,rfl,bf,dX,fX⟩:=bd.open_
   rw [bf] at bd
   have dY:=dX.small
   rw [bf] at ba
   refine qam (qaC cA (t:=29) (A:=A9) (m:=l8.length) (q:=((k:Nat):Int)) (d:=62) kz (e:=51) (size:=8) (bytes:=80) kz cB rfl (by omega) fun fY cC=>?_)
   refine qam (qaM cC (t:=51) (b:=dU) (o:=dV + k * 8) (d:=63) kz (cs:=[.int .i64 aj,.int .i64 ak,.int .i64 al,.int .i64 am,.int .i64 ao,.int .i64 ap,.int .i64 ar,.slice aI au.length aJ]) (v:=.agg #[.int .i64 aj,.int .i64 ak,.int .i64 al,.int .i64 am,.int .i64 ao,.int .i64 ap,.int .i64 ar,.slice aI au.length aJ]) kz (AtF.move ba ac.step nilM qaX).at_ fun fZ cD=>?_)
   refine qam (qaR ac cD (d:=8) (cs:=[.int .i64 0,.int .i64 0,.int .i64 0,.int .i64 0,.int .i64 0,.int .i64 0,.int .i64 0,.slice none 0 0]) kz fun f5 f7 f8 eS eU cE bB cG=>?_)
   refine qaj [4] [5] [(2,.p 0 0),(3,.p 1 0),(7,.v (.int .i64 ((k:Nat):Int))),(8,.p 2 0),(57,.v (.slice A9 l8.length aA)),(58,.v (.int .i64 ((l8.length:Nat):Int))),(59,.v (.int .i64 ((k:Nat):Int))),(63,.v (.agg #[.int .i64 aj,.int .i64 ak,.int .i64 al,.int .i64 am,.int .i64 ao,.int .i64 ap,.int .i64 ar,.slice aI au.length aJ]))] bB cG fun f9 cH=>?_
   refine qam (qav bB cH (oi:=2) (cs:=[.int .i64 aj,.int .i64 ak,.int .i64 al,.int .i64 am,.int .i64 ao,.int .i64 ap,.int .i64 ar,.slice aI au.length aJ]) kz fun ga cI cJ cK=>?_)
   refine qaf (qab ?_)
   refine qaG 6 kz cJ fun gb cL av cM=>?_
   refine qaD [0,1,2] [(2,.p 0 0),(3,.p 1 0),(57,.v (.slice A9 l8.length aA)),(58,.v (.int .i64 ((l8.length:Nat):Int))),(59,.v (.int .i64 ((k:Nat):Int))),(64,.v (.agg #[.int .i64 aj,.int .i64 ak,.int .i64 al,.int .i64 am,.int .i64 ao,.int .i64 ap,.int .i64 ar,.slice aI au.length aJ])),(65,.v (.agg #[.int .i64 af,.slice ah ab.length ai,.bool aC,.slice bT aK.length bU,.slice bu aB.length bw])),(66,.v (.int .i64 ((k:Nat):Int)))] 3 (qaa (qac (qaa (qaa (qac (qaa (qac (qaa qad)))))))) (fun _ h=>h.cells) cM cK fun gc cN=>?_
   refine qaw (i:=3) kz (qal cN (f:=20) (vs:=[.agg #[.int .i64 af,.slice ah ab.length ai,.bool aC,.slice bT aK.length bU,.slice bu aB.length bw],.int .i64 ((k:Nat):Int)]) (d:=67) kz Tryd.call20 (sAt _ _ k _ _ (ht.move av.step nilM av.imm)) ?_)
   rintro e_ gd ⟨eV,rfl,cO,aw⟩
   have bg:=cO.move aw nilM (fun b o h_ hb_=>av.laid (G:=F) aw b o (.inl h_) (Nat.lt_of_lt_of_le hb_ aw.size))
   obtain ⟨dZ,d5,d6,d7,d8,d9,ea,eb,ec,ee,ef,eW,eX,bh,eg,eh,ge,gg⟩:=bg.open_
   rw [bh] at bg
   have ei:=eg.small
   have ej:=eh.small
   rw [bh]
   refine ⟨_,rfl,fun gh cP=>?_⟩
   have ax:=av.next_nil aw
   have bj:=av.frN aw
   have cQ:=TT.ofW bj ax
   refine ⟨fun _=>cQ,?_⟩
   refine qaw (i:=4) kz (qal cP (f:=22) (vs:=[.agg #[.int .i64 aj,.int .i64 ak,.int .i64 al,.int .i64 am,.int .i64 ao,.int .i64 ap,.int .i64 ar,.slice aI au.length aJ],.agg #[.int .i64 dZ,.slice d9 d5.length ea,.bool d6,.slice eb d7.length ec,.slice ee d8.length ef]]) (d:=68) kz Tryd.call22 ( hu _ _ _ _ _ _ (bd.move ax.step nilM ax.imm) (by have h_:=qdn aF; rw [qew] at hd; omega) bg) ?_)
   rintro e_ gi ⟨rfl,bC⟩
   refine ⟨_,rfl,fun gj cR=>?_⟩
   have ag:=ax.next_nil bC
   have bD:=ax.frN bC
   have bE:=TT.ofW (bj.trans bD) ag
   refine ⟨fun _=>bE,?_⟩
   refine qaD [5] [(2,.p 0 0),(3,.p 1 0),(57,.v (.slice A9 l8.length aA)),(58,.v (.int .i64 ((l8.length:Nat):Int))),(59,.v (.int .i64 ((k:Nat):Int))),(69,.v (.bool (!(Fld.usual (Fld.mk aj ak al am ao ap ar au) (Tree.at_ (Tree.mk af ab aC aK aB) k)))))] 0 (qaa (qac (qaa (qaa (qac (qaa (qac (qaa qad)))))))) (fun _ h=>h.cells) bE cR fun gk bk=>?_
   refine qaF kz ?_ _
   refine qab ?_
   refine qay bk (b:=!(Fld.usual (Fld.mk aj ak al am ao ap ar au) (Tree.at_ (Tree.mk af ab aC aK aB) k))) kz (fun bn=>?_) (fun bn=>?_)
   ·
    refine qar [(4,.v (.bool false))] ag bk fun gl cS=>?_
    refine wp_ret ?_
    refine qax ?_
    refine qao ?_
    refine qao ?_
    refine qax ?_
    refine qao ?_
    refine qax ?_
    refine qao ?_
    refine qaJ cS ag.cells (v:=.bool false) kz ?_
    refine ⟨congrArg (fun b_=>Ending.returned (Value.bool b_)) ?_,ag.step⟩
    first
     | (rw [qco ‹_›]; simp only [and1]; done)
     | (rw [qbl ‹_› ‹_›]; exact qbj hz (by omega); done)
     | (rw [qbl ‹_› ‹_›]; exact qbf (k:=k) (by omega) (by omega) ‹_›; done)
     | (rw [qbG ‹_› ‹_› (by omega) ‹_›]; done)
     | (rw [qbV ‹_› ‹_› (by omega) ‹_›]; done)
     | (rw [qbW ‹_› ‹_› ‹_› ‹_› ‹_›]; done)
     | (rw [qbM ‹_› ‹_› ‹_› ‹_› ‹_› ‹_›,huu,qbr (by omega),Bool.true_and]; done)
     | (rw [qbq ‹_› ‹_› ‹_› ‹_› ‹_› ‹_›]; done)
     | (rw [qbM ‹_› ‹_› ‹_› ‹_› ‹_› ‹_›,huu,qgt aF (by simpa using bn),Bool.false_and]; done)
   refine wp_skip ?_
   refine qaq ?_
   refine qab ?_
   refine qat [0,1] kz ?_
   refine qaj [0,1] [] [(2,.p 0 0),(3,.p 1 0),(57,.v (.slice A9 l8.length aA)),(58,.v (.int .i64 ((l8.length:Nat):Int))),(59,.v (.int .i64 (IntKind.i64.wrap (((k:Nat):Int) + 1))))] ag bk fun gm cT=>?_
   refine qaf (qab ?_)
   obtain ⟨bF,cU,cV⟩:=ag.cutB cT 2 [⟨dE,0,[.int .i64 k1,.int .i64 y2,.int .i64 y3,.int .i64 y4,.int .i64 y5,.int .i64 y6,.int .i64 y7,.slice A9 l8.length aA],true⟩,⟨dH,0,[.int .i64 af,.slice ah ab.length ai,.bool aC,.slice bT aK.length bU,.slice bu aB.length bw],true⟩] [(2,.p 0 0),(3,.p 1 0),(57,.v (.slice A9 l8.length aA)),(58,.v (.int .i64 ((l8.length:Nat):Int))),(59,.v (.int .i64 (IntKind.i64.wrap (((k:Nat):Int) + 1))))]
   have cW:IntKind.i64.wrap (((k:Nat):Int) + 1) = ((k + 1:Nat):Int):=qaN (by omega)
   rw [cW] at bF
   exact ⟨l8.length - (k + 1),by omega,k + 1,rfl,by omega,by rw [huu]; exact qgs aF (by simpa using bn),bF.pk,cU,((((((cz.trans cE).trans cI).trans cL).trans bj).trans bD).trans cV)⟩
  have eY:=of_decide_eq_false aZ
  refine wp_exit ?_
  refine qaB ?_
  refine qaB ?_
  refine qaL ?_
  refine qab ?_
  refine qag [0,1,2,3,4,5,6,7] kz ?_
  refine qaj [0,1,2,3] [4,5,6,7] [(72,.v (.slice A9 l8.length aA)),(74,.v (.slice bu aB.length bw))] ac aY fun gn cX=>?_
  refine qam (qal cX (f:=25) (vs:=[.slice A9 l8.length aA,.slice bu aB.length bw]) (d:=75) kz Tryd.call25 (qfw _ _ l8 _ _ aB _ _ ⟨dC,(dD.move ac.step nilM ac.imm),(fun i_ x_ h_=>((ek i_ x_ h_).move ac.step nilM ac.imm))⟩ (fg.move ac.step nilM ac.imm)) ?_)
  rintro e_ gp ⟨gq,gt,rfl,cY,bo⟩
  have eZ:=cY.move (Step.refl _ Nil) nilM (ac.laid (G:=F) bo)
  refine ⟨_,rfl,fun gv cZ=>?_⟩
  have bp:=ac.next_nil bo
  have e9:=ac.frN bo
  refine qaj [5,6,7] [] [(4,.v (.bool ((((qai l8 aB).length:Nat):Int) == 0)))] bp cZ fun gw c5=>?_
  refine qaf (qab ?_)
  refine wp_ret ?_
  refine qax ?_
  refine qao ?_
  refine qaJ c5 bp.cells (v:=.bool ((((qai l8 aB).length:Nat):Int) == 0)) kz ?_
  refine ⟨congrArg (fun b_=>Ending.returned (Value.bool b_)) ?_,bp.step⟩
  first
   | (rw [qco ‹_›]; simp only [and1]; done)
   | (rw [qbl ‹_› ‹_›]; exact qbj hz (by omega); done)
   | (rw [qbl ‹_› ‹_›]; exact qbf (k:=k) (by omega) (by omega) ‹_›; done)
   | (rw [qbG ‹_› ‹_› (by omega) ‹_›]; done)
   | (rw [qbV ‹_› ‹_› (by omega) ‹_›]; done)
   | (rw [qbW ‹_› ‹_› ‹_› ‹_› ‹_›]; done)
   | (rw [qbM ‹_› ‹_› ‹_› ‹_› ‹_› ‹_›,huu,qbr (by omega),Bool.true_and]; done)
   | (rw [qbq ‹_› ‹_› ‹_› ‹_› ‹_› ‹_›]; done)
 have fa:k1 ≠ 10:=by simpa using aX
 refine wp_skip ?_
 refine qaq ?_
 refine qab ?_
 refine qaG 13 kz aa fun gx fb bG c6=>?_
 refine qaD [0,1,2,3,6,7,8,9] [(79,.v (.int .i64 af)),(81,.v (.int .i64 k1)),(85,.v (.int .i64 y6)),(87,.v (.int .i64 k1))] 6 (qaa qad) (fun _ h=>h.cells) c6 aW fun gy da=>?_
 refine qaw (i:=4) kz (qal da (f:=39) (vs:=[.int .i64 k1]) (d:=82) kz Tryd.call39 (qiN k1 _) ?_)
 rintro e_ gz ⟨rfl,bH⟩
 refine ⟨_,rfl,fun gA db=>?_⟩
 have bI:=bG.next_nil bH
 have ay:=bG.frN bH
 have dc:=TT.ofW ay bI
 refine ⟨fun _=>dc,?_⟩
 refine qaw (i:=5) kz (qal db (f:=38) (vs:=[.int .i64 af,.int .i64 ((qbg k1:Nat):Int)]) (d:=83) kz Tryd.call38 (qeT af (qbg k1) (by first | decide | exact qbh _ | omega) _) ?_)
 rintro e_ gB ⟨de,df,rfl,dg,dh⟩
 refine ⟨_,rfl,fun gC di=>?_⟩
 obtain ⟨bq,aG⟩:=bI.frFresh dh (brow de df 5 (be (qbg k1) af)) (Nat.le_refl _) dg
 have dj:=TT.ofW (ay.trans aG) bq
 refine ⟨fun _=>dj,?_⟩
 refine qaw (i:=10) kz (qal di (f:=39) (vs:=[.int .i64 k1]) (d:=88) kz Tryd.call39 (qiN k1 _) ?_)
 rintro e_ gD ⟨rfl,bJ⟩
 refine ⟨_,rfl,fun gE dl=>?_⟩
 have bK:=bq.next_nil bJ
 have bt:=bq.frN bJ
 have dp:=TT.ofW ((ay.trans aG).trans bt) bK
 refine ⟨fun _=>dp,?_⟩
 refine qaw (i:=11) kz (qal dl (f:=38) (vs:=[.int .i64 y6,.int .i64 ((qbg k1:Nat):Int)]) (d:=89) kz Tryd.call38 (qeT y6 (qbg k1) (by first | decide | exact qbh _ | omega) _) ?_)
 rintro e_ gF ⟨dq,dr,rfl,dt,du⟩
 refine ⟨_,rfl,fun gG dv=>?_⟩
 obtain ⟨az,bL⟩:=bK.frFresh du (brow dq dr 5 (be (qbg k1) y6)) (Nat.le_refl _) dt
 have dw:=TT.ofW (((ay.trans aG).trans bt).trans bL) az
 refine ⟨fun _=>dw,?_⟩
 refine qaw (i:=12) kz (qal dv (f:=26) (vs:=[.slice de ((be (qbg k1) af).length) df,.slice dq ((be (qbg k1) y6).length) dr]) (d:=90) kz Tryd.call26 (qdM _ _ _ _ (be (qbg k1) af) (be (qbg k1) y6) _ _ (qbU (az.own 0 _ rfl) (by first | omega | (rw [qa4]; decide) | (simp only [be_length]; exact Nat.le_trans (qbh _) (by decide)) | (have:=hroom; omega) | (have:=hmade; omega) | (simp only [List.length_append,List.length_nil]; omega)) (F:=fun _ _=>True) (fun _ _ _=>trivial)) (qbU (az.own 1 _ rfl) (by first | omega | (rw [qa4]; decide) | (simp only [be_length]; exact Nat.le_trans (qbh _) (by decide)) | (have:=hroom; omega) | (have:=hmade; omega) | (simp only [List.length_append,List.length_nil]; omega)) (F:=fun _ _=>True) (fun _ _ _=>trivial))) ?_)
 rintro e_ gH ⟨rfl,bM⟩
 refine ⟨_,rfl,fun gI dx=>?_⟩
 have aH:=az.next_nil bM
 have dy:=az.frN bM
 have dA:=TT.ofW ((((ay.trans aG).trans bt).trans bL).trans dy) aH
 refine ⟨fun _=>dA,?_⟩
 refine qaw (i:=13) kz (qa9 [4] aH.cells dx (env':=[(4,.v (.bool (decide (be (qbg k1) af = be (qbg k1) y6))))]) kz fun gJ dB=>?_)
 refine ⟨fun h=>absurd rfl h,?_⟩
 refine qaF kz ?_ _
 refine qab ?_
 refine wp_ret ?_
 refine qaJ dB aH.cells (v:=.bool (decide (be (qbg k1) af = be (qbg k1) y6))) kz ?_
 refine ⟨congrArg (fun b_=>Ending.returned (Value.bool b_)) ?_,aH.step⟩
 first
  | (rw [qco ‹_›]; simp only [and1]; done)
  | (rw [qbl ‹_› ‹_›]; exact qbj hz (by omega); done)
  | (rw [qbl ‹_› ‹_›]; exact qbf (k:=k) (by omega) (by omega) ‹_›; done)
  | (rw [qbG ‹_› ‹_› (by omega) ‹_›]; done)
  | (rw [qbV ‹_› ‹_› (by omega) ‹_›]; done)
  | (rw [qbW ‹_› ‹_› ‹_› ‹_› ‹_›]; done)
  | (rw [qbM ‹_› ‹_› ‹_› ‹_› ‹_› ‹_›,huu,qbr (by omega),Bool.true_and]; done)
  | (rw [qbq ‹_› ‹_› ‹_› ‹_› ‹_› ‹_›]; done)
theorem qg3:∀ d,qiQ d
 | 0=>fun cf f ct t w F hf hd ht=>by
  obtain ⟨k,x1,x2,x3,x4,x5,x6,l,A,c,xs,rfl,_⟩:=hf.open_
  rw [qew] at hd; omega
 | d + 1=>qgz (qg3 d)
end Go.Proofs.YtdlaobdadlmcdabDoor.ME