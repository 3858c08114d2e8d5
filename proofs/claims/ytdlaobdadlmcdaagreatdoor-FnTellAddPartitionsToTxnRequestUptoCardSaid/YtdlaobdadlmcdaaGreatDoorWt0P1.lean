/- The texts of a claim, put together: the engine, the contracts, the law. Own work. -/
import Derived.Test.YtdlaobdadlmcdaaGreatDoorWt0P0
import Derived.Test.YtdlaobdadlmcdaaGreatDoorRows
import Derived.WalkKit
import Derived.ProofKit
import Derived.OpenShut
import Derived.JoinedCond
import Derived.WideKeyArgs
import Derived.ChangeSame
import Derived.Laws.BytesArg
import Derived.Test.YtdlaobdadlmcdaaGreatDoorProg
namespace Go.Proofs.YtdlaobdadlmcdaaGreatDoor.ME
open Go
open Go.RowKit
set_option linter.unusedVariables false
set_option linter.unusedSimpArgs false
set_option maxRecDepth 20000
theorem qd3:∀ {l:List Fld} {i:Nat} {f:Fld},l[i]? = some f → f.depth ≤ depths l
 | [],i,f,h=>by simp at h
 | a :: r,0,f,h=>by
  simp only [List.getElem?_cons_zero,Option.some.injEq] at h
  subst h
  exact Nat.le_max_left _ _
 | a :: r,i + 1,f,h=>by
  have:=qd3 (l:=r) (i:=i) (f:=f) (by simpa using h)
  exact Nat.le_trans this (Nat.le_max_right _ _)
theorem qfl (k x1 x2 x3 x4 x5 x6:Int) (l:List Fld):(Fld.mk k x1 x2 x3 x4 x5 x6 l).depth = depths l + 1:=by rw [Fld.depth]
section
variable {k x1 x2 x3 x4 x5 x6 n:Int} {l:List Fld} {s:Bs} {b:Bool} {ll:List Tree} {u:List (Int × Bs)}
theorem qc8 (h:k = 0):Fld.usual (.mk k x1 x2 x3 x4 x5 x6 l) (.mk n s b ll u) = (n % 2 == x5):=by
 subst h; rw [Fld.usual,if_pos rfl]; simp [Tree.N]; rfl
theorem qbU (h0:k ≠ 0) (h:k = 7):Fld.usual (.mk k x1 x2 x3 x4 x5 x6 l) (.mk n s b ll u) = (s.take 16).all (· == 0):=by
 rw [Fld.usual,if_neg h0,if_pos h]; rfl
theorem qcl (h0:k ≠ 0) (h7:k ≠ 7) (h:k = 8 ∨ k = 9) (hn:x3 ≥ 0):Fld.usual (.mk k x1 x2 x3 x4 x5 x6 l) (.mk n s b ll u) = b:=by
 rw [Fld.usual,if_neg h0,if_neg h7,if_pos h,if_pos hn]; rfl
theorem qcB (h0:k ≠ 0) (h7:k ≠ 7) (h:k = 8 ∨ k = 9) (hn:¬ x3 ≥ 0):Fld.usual (.mk k x1 x2 x3 x4 x5 x6 l) (.mk n s b ll u) = (((s.length:Nat):Int) == 0):=by
 rw [Fld.usual,if_neg h0,if_neg h7,if_pos h,if_neg hn,Bool.eq_iff_iff,decide_eq_true_iff,beq_iff_eq]
 show s.length = 0 ↔ _
 omega
theorem qcC (h0:k ≠ 0) (h7:k ≠ 7) (h8:k ≠ 8) (h9:k ≠ 9) (h:k = 11):Fld.usual (.mk k x1 x2 x3 x4 x5 x6 l) (.mk n s b ll u) = (((ll.length:Nat):Int) == 0):=by
 rw [Fld.usual,if_neg h0,if_neg h7,if_neg (by rintro (h | h); exact h8 h; exact h9 h),if_pos h,Bool.eq_iff_iff,decide_eq_true_iff,beq_iff_eq]
 show ll.length = 0 ↔ _
 omega
theorem qcv (h0:k ≠ 0) (h7:k ≠ 7) (h8:k ≠ 8) (h9:k ≠ 9) (h11:k ≠ 11) (h:k = 10):Fld.usual (.mk k x1 x2 x3 x4 x5 x6 l) (.mk n s b ll u) = (usuals l (.mk n s b ll u) 0 && (((qag l u).length:Nat):Int) == 0):=by
 rw [Fld.usual,if_neg h0,if_neg h7,if_neg (by rintro (h | h); exact h8 h; exact h9 h),if_neg h11,if_pos h]
 congr 1
 rw [Bool.eq_iff_iff,decide_eq_true_iff,beq_iff_eq]
 show (qag l u).length = 0 ↔ _
 omega
theorem qb4 (h0:k ≠ 0) (h7:k ≠ 7) (h8:k ≠ 8) (h9:k ≠ 9) (h11:k ≠ 11) (h10:k ≠ 10):Fld.usual (.mk k x1 x2 x3 x4 x5 x6 l) (.mk n s b ll u) = decide (be (qbH k) n = be (qbH k) x5):=by
 rw [Fld.usual,if_neg h0,if_neg h7,if_neg (by rintro (h | h); exact h8 h; exact h9 h),if_neg h11,if_neg h10]; rfl
end
theorem qbS {s:Bs} {k:Nat} (h:∀ q,q < k → q < 16 → (((s.getD q 0).toNat:Nat):Int) = 0) (hk:s.length ≤ k):true = (s.take 16).all (· == 0):=by
 symm
 rw [List.all_eq_true]
 intro x hx
 obtain ⟨i,hi,rfl⟩:=List.getElem_of_mem hx
 rw [List.length_take] at hi
 have:=h i (by omega) (by omega)
 rw [List.getD_eq_getElem?_getD,List.getElem?_eq_getElem (show i < s.length by omega)] at this
 rw [List.getElem_take]
 simp only [Option.getD_some] at this
 have h0:s[i].toNat = 0:=by omega
 have:s[i] = 0:=UInt8.toNat.inj h0
 simp [this]
theorem qbI {s:Bs} {k:Nat} (hk:k < s.length) (h:k < 16) (hn:(((s.getD k 0).toNat:Nat):Int) ≠ 0):false = (s.take 16).all (· == 0):=by
 symm
 rw [← Bool.not_eq_true,List.all_eq_true]
 intro hall
 have:=hall s[k] (by
  rw [List.mem_iff_getElem?]
  exact ⟨k,by rw [List.getElem?_take,if_pos h,List.getElem?_eq_getElem hk]⟩)
 rw [List.getD_eq_getElem?_getD,List.getElem?_eq_getElem hk] at hn
 simp only [beq_iff_eq] at this
 rw [this] at hn
 exact hn rfl
theorem qcw {α:Type} {l:List α} {k:Nat} {x:α} (h:l[k]? = some x):l.drop k = x :: l.drop (k + 1):=by
 obtain ⟨hk,rfl⟩:=List.getElem?_eq_some_iff.1 h
 exact List.drop_eq_getElem_cons hk
theorem qhv {l:List Fld} {k:Nat} {f:Fld} {T:Tree} (h:l[k]? = some f) (hu:f.usual (T.at_ k) = true):usuals (l.drop k) T k = usuals (l.drop (k + 1)) T (k + 1):=by
 rw [qcw h]
 show (f.usual (T.at_ k) && usuals (l.drop (k + 1)) T (k + 1)) = _
 rw [hu,Bool.true_and]
theorem qhw {l:List Fld} {k:Nat} {f:Fld} {T:Tree} (h:l[k]? = some f) (hu:f.usual (T.at_ k) = false):usuals (l.drop k) T k = false:=by
 rw [qcw h]
 show (f.usual (T.at_ k) && usuals (l.drop (k + 1)) T (k + 1)) = _
 rw [hu,Bool.false_and]
theorem qb5 {l:List Fld} {k:Nat} {T:Tree} (h:l.length ≤ k):usuals (l.drop k) T k = true:=by
 rw [List.drop_eq_nil_of_le h]; rfl
section
variable {W:Fld → Tree → Bs} {l:List Fld} {k:Nat} {a x1 x2 x3 x4 x5 x6 v:Int} {s:List Fld} {t:Tree} {m:Nat}
theorem qeF (h:l[k]? = some (.mk a x1 x2 x3 x4 x5 x6 s)) (h1:x4 < 0) (h2:Fld.has (.mk a x1 x2 x3 x4 x5 x6 s) v = true):qa1 W (l.drop k) v t k = W (.mk a x1 x2 x3 x4 x5 x6 s) (t.at_ k) ++ qa1 W (l.drop (k + 1)) v t (k + 1):=by
 rw [qcw h,qa1,if_pos ⟨h1,h2⟩]
theorem qit (h:l[k]? = some (.mk a x1 x2 x3 x4 x5 x6 s)) (h1:¬ x4 < 0):qa1 W (l.drop k) v t k = qa1 W (l.drop (k + 1)) v t (k + 1):=by
 rw [qcw h,qa1,if_neg (fun h=>h1 h.1),List.nil_append]
theorem qiu (h:l[k]? = some (.mk a x1 x2 x3 x4 x5 x6 s)) (h2:Fld.has (.mk a x1 x2 x3 x4 x5 x6 s) v = false):qa1 W (l.drop k) v t k = qa1 W (l.drop (k + 1)) v t (k + 1):=by
 rw [qcw h,qa1,if_neg (fun h=>by rw [h2] at h; cases h.2),List.nil_append]
theorem qg1 (h:l.length ≤ k):qa1 W (l.drop k) v t k = []:=by rw [List.drop_eq_nil_of_le h]; rfl
theorem qd4 (h:l[k]? = some (.mk a x1 x2 x3 x4 x5 x6 s)) (h1:x4 = (m:Int)) (h2:Fld.usual (.mk a x1 x2 x3 x4 x5 x6 s) (t.at_ k) = false):tagB W (l.drop k) m t k = uv m ++ uv (W (.mk a x1 x2 x3 x4 x5 x6 s) (t.at_ k)).length ++ W (.mk a x1 x2 x3 x4 x5 x6 s) (t.at_ k) ++ tagB W (l.drop (k + 1)) m t (k + 1):=by
 rw [qcw h,tagB,if_pos ⟨h1,h2⟩]
theorem qje (h:l[k]? = some (.mk a x1 x2 x3 x4 x5 x6 s)) (h1:x4 ≠ (m:Int)):tagB W (l.drop k) m t k = tagB W (l.drop (k + 1)) m t (k + 1):=by
 rw [qcw h,tagB,if_neg (fun h=>h1 h.1),List.nil_append]
theorem qjf (h:l[k]? = some (.mk a x1 x2 x3 x4 x5 x6 s)) (h2:Fld.usual (.mk a x1 x2 x3 x4 x5 x6 s) (t.at_ k) = true):tagB W (l.drop k) m t k = tagB W (l.drop (k + 1)) m t (k + 1):=by
 rw [qcw h,tagB,if_neg (fun h=>by rw [h2] at h; cases h.2),List.nil_append]
theorem qka (h:l.length ≤ k):tagB W (l.drop k) m t k = []:=by rw [List.drop_eq_nil_of_le h]; rfl
theorem qkb (h:l[k]? = some (.mk a x1 x2 x3 x4 x5 x6 s)) (h1:x4 = (m:Int)) (h2:Fld.usual (.mk a x1 x2 x3 x4 x5 x6 s) (t.at_ k) = false):tagN W (l.drop k) m t k = 1 + tagN W (l.drop (k + 1)) m t (k + 1):=by
 rw [qcw h,tagN,if_pos ⟨h1,h2⟩]
theorem qjg (h:l[k]? = some (.mk a x1 x2 x3 x4 x5 x6 s)) (h1:x4 ≠ (m:Int)):tagN W (l.drop k) m t k = tagN W (l.drop (k + 1)) m t (k + 1):=by
 rw [qcw h,tagN,if_neg (fun h=>h1 h.1),Nat.zero_add]
theorem qjh (h:l[k]? = some (.mk a x1 x2 x3 x4 x5 x6 s)) (h2:Fld.usual (.mk a x1 x2 x3 x4 x5 x6 s) (t.at_ k) = true):tagN W (l.drop k) m t k = tagN W (l.drop (k + 1)) m t (k + 1):=by
 rw [qcw h,tagN,if_neg (fun h=>by rw [h2] at h; cases h.2),Nat.zero_add]
theorem qkc (h:l.length ≤ k):tagN W (l.drop k) m t k = 0:=by rw [List.drop_eq_nil_of_le h]; rfl
theorem qkd (n:Nat):0 < (uv n).length:=by
 rw [uv]; split <;> simp
theorem qhx (W:Fld → Tree → Bs) (m:Nat) (t:Tree):∀ (l:List Fld) (i:Nat),tagN W l m t i ≤ (tagB W l m t i).length
 | [],i=>Nat.zero_le _
 | f :: r,i=>by
  have:=qhx W m t r (i + 1)
  rw [tagN,tagB,List.length_append]
  split
  ·have h1:=qkd m
   simp only [List.length_append]; omega
  simp; omega
theorem qhS (W:Fld → Tree → Bs) (l:List Fld) (t:Tree):∀ k,qa4 W l t k ≤ (qaP W l t k).length
 | 0=>Nat.zero_le _
 | k + 1=>by
  have h1:=qhS W l t k
  have h2:=qhx W k t l 0
  rw [qa4,qaP,List.length_append]; omega
theorem qiv (W:Fld → Tree → Bs) (l:List Fld) (t:Tree) {i j:Nat} (h:i ≤ j):(qaP W l t i).length ≤ (qaP W l t j).length:=by
 induction j with
 | zero=>rw [Nat.le_zero.1 h]; omega
 | succ j ih =>
  rcases Nat.eq_or_lt_of_le h with he | he
  ·rw [he]; omega
  have:=ih (by omega)
  rw [qaP,List.length_append]; omega
end
theorem qf4 (W:Fld → Tree → Bs) (l:List Fld) (v:Int) (n:Int) (s:Bs) (b:Bool) (ll:List Tree) (u:List (Int × Bs)):qek W l v true (.mk n s b ll u) =
  qa1 W l v (.mk n s b ll u) 0 ++ uv (qa4 W l (.mk n s b ll u) (qaC l).toNat + (qag l u).length) ++ (qaP W l (.mk n s b ll u) (qaC l).toNat ++ qbi (qag l u)):=by
 rw [qek,if_pos rfl,List.append_assoc]; rfl
theorem qji (W:Fld → Tree → Bs) (l:List Fld) (v:Int) (t:Tree):qek W l v false t = qa1 W l v t 0:=by
 rw [qek]; simp
theorem qjj (l:List Fld):IntKind.i64.wrap (qaC l) = (((qaC l).toNat:Nat):Int):=by
 have:=qen l
 rw [wrap_i64 (by omega) (by omega)]; omega
theorem qd5 {l:List (Int × Bs)} {k:Nat} {i:Int} {s:Bs} (h:l[k]? = some (i,s)):qbi (l.take (k + 1)) = qbi (l.take k) ++ (uv i.toNat ++ uv (qaH s).length ++ qaH s):=by
 unfold qbi; exact qds h
theorem qgk {l:List (Int × Bs)} (k:Nat):(qbi (l.take k)).length ≤ (qbi l).length:=by
 unfold qbi; exact qc7 l _ k
theorem qhT:∀ {l:List Tree} {i:Nat} {x:Tree},l[i]? = some x → x.depth ≤ deep l
 | [],i,x,h=>by simp at h
 | a :: r,0,x,h=>by
  simp only [List.getElem?_cons_zero,Option.some.injEq] at h
  subst h
  exact Nat.le_max_left _ _
 | a :: r,i + 1,x,h=>Nat.le_trans (qhT (l:=r) (i:=i) (by simpa using h)) (Nat.le_max_right _ _)
theorem qg2 (n:Int) (s:Bs) (b:Bool) (l:List Tree) (u:List (Int × Bs)):(Tree.mk n s b l u).depth = deep l + 1:=by rw [Tree.depth]
theorem qdi {α:Type} {l:List α} {k:Nat} {x:α} (h:l[k]? = some x):l.take (k + 1) = l.take k ++ [x]:=by rw [List.take_add_one,h]; rfl
section
variable {F:Nat → Nat → Prop} {w0 w:World} {tb:Tb} {rs:List Rw}
theorem qjk (hW:WOk w0 Nil w tb rs) {k:Nat} {r:Rw} (hk:rs[k]? = some r):∀ g,r.A.map (·.block) = some g → ∀ o,Fp F w0 g o:=by
 intro g hg o
 rcases hW.ownM k r hk g hg with h | h
 ·exact .inr h
 exact (h 0).elim
theorem qhU (hW:WOk w0 Nil w tb rs) {k:Nat} {A:Option Addr} {c e n:Nat} {xs:List Value} {l:List Tree} {css:List (List Value)} (hk:rs[k]? = some ⟨A,c,e,5,n,xs⟩) (hT:Trees w (Imm F w0 w tb rs) xs l css) (hn:n = l.length) (hsm:l.length ≤ 1099511627776) :
  Slots w (Fp F w0) 5 A c l.length (fun i=>css.getD i []) ∧ ∀ (i:Nat) (x:Tree),l[i]? = some x → TreeR w (Fp F w0) (css.getD i []) x :=
 (hT.move (Step.refl w Nil) nilM qca).slots (hW.own k _ hk) hn hsm (qjk hW hk)
theorem qk3 (hW:WOk w0 Nil w tb rs) {k:Nat} {A:Option Addr} {c e n:Nat} {xs:List Value} {l:List (Int × Bs)} {css:List (List Value)} (hk:rs[k]? = some ⟨A,c,e,2,n,xs⟩) (hT:Tags w (Imm F w0 w tb rs) xs l css) (hn:n = l.length) (hsm:l.length ≤ 1099511627776):TagsR w (Fp F w0) A c l :=
 (hT.move (Step.refl w Nil) nilM qca).slots (hW.own k _ hk) hn hsm (qjk hW hk)
theorem qke (hW:WOk w0 Nil w tb rs) {A1 A2 A3:Option Addr} {c1 c2 c3 n2 n3:Nat} {n:Int} {s:Bs} {b:Bool} {l:List Tree} {u:List (Int × Bs)} {xs:Nat → List Value} {m:Nat} (hm:m = s.length) (hS:Octs w (Fp F w0) A1 c1 s) (hn2:n2 = l.length) (hL:Slots w (Fp F w0) 5 A2 c2 l.length xs ∧ ∀ (i:Nat) (x:Tree),l[i]? = some x → TreeR w (Fp F w0) (xs i) x)
  (hn3:n3 = u.length) (hU:TagsR w (Fp F w0) A3 c3 u) {t:Tree} (ht:t = .mk n s b l u):qdK w0 F t (.returned (.agg #[.int .i64 n,.slice A1 m c1,.bool b,.slice A2 n2 c2,.slice A3 n3 c3])) w:=by
 subst hm; subst hn2; subst hn3; subst ht
 exact ⟨_,rfl,TreeR.mk xs hS hL.1 hL.2 hU,hW.step⟩
theorem qk4 {G:Nat → Nat → Prop}:∀ b o,G b o → b < w0.heap.size → Fp G w0 b o:=fun _ _ h _=>.inl h
end
theorem qg3 (W:Fld → Tree → Tree) (t:Tree):∀ {l:List Fld} {i k:Nat} {f:Fld},l[k]? = some f → (qhp W l t i)[k]? = some (W f (t.at_ (i + k)))
 | [],i,k,f,h=>by simp at h
 | a :: r,i,0,f,h=>by
  simp only [List.getElem?_cons_zero,Option.some.injEq] at h
  subst h; rfl
 | a :: r,i,k + 1,f,h=>by
  rw [qhp,List.getElem?_cons_succ,qg3 W t (l:=r) (i:=i + 1) (by simpa using h),show i + 1 + k = i + (k + 1) by omega]
theorem qkf {W:Fld → Tree → Tree} {t:Tree} {l:List Fld} {k:Nat} {f:Fld} (h:l[k]? = some f):(qhp W l t 0)[k]? = some (W f (t.at_ k)):=by
 have:=qg3 W t (i:=0) h
 rwa [Nat.zero_add] at this
def qcx (u:List (Int × Bs)):List (Int × Bs):=u.map fun x=>(x.1,qaH x.2)
theorem qiw {u:List (Int × Bs)} {k:Nat} {i:Int} {s:Bs} (h:u[k]? = some (i,s)):(qcx u)[k]? = some (i,qaH s):=by
 rw [qcx,List.getElem?_map,h]; rfl
theorem qcL (u:List (Int × Bs)):(qcx u).length = u.length:=by rw [qcx,List.length_map]
section
variable {p:List Fld → Tree → Tree} {k x1 x2 x3 x4 x5 x6 v n:Int} {l:List Fld} {s:Bs} {b null:Bool} {ll:List Tree} {u:List (Int × Bs)}
end
theorem qf5:∀ {l:List Fld} {f:Fld},plains l → f ∈ l → f.plain
 | [],f,_,h=>by cases h
 | a :: r,f,hp,h=>by
  rcases List.mem_cons.1 h with rfl | h
  ·exact hp.1
  exact qf5 (l:=r) hp.2 h
theorem qjl {f:Fld} (h:f.plain):plains f.sub:=by cases f; exact h.2
def qjm (w:World):Ending → World → Prop:=fun en w'=>∃ b,en = .returned (.bool b) ∧ Step w w' Nil
structure Flds (w:World) (F:Nat → Nat → Prop) (xs:List Value) (l:List Fld) (css:List (List Value)):Prop where
 flat:Flat 8 xs css
 len:css.length = l.length
 each:∀ (i:Nat) (c:List Value) (x:Fld),css[i]? = some c → l[i]? = some x → FldR w F c x
theorem Flds.nil (w:World) (F:Nat → Nat → Prop):Flds w F [] [] []:=⟨Flat.nil 8,rfl,fun i c x h=>by simp at h⟩
theorem FldR.eight {w:World} {F:Nat → Nat → Prop} {cs:List Value} {t:Fld} (h:FldR w F cs t):cs.length = 8:=by
 obtain ⟨k,x1,x2,x3,x4,x5,x6,l,A,c,xs,rfl,rfl,_⟩:=h.open_; rfl
theorem FldR.one {w:World} {F:Nat → Nat → Prop} {cs:List Value} {t:Fld} (h:FldR w F cs t):∀ u ∈ cs,u.oneCell' = true:=by
 obtain ⟨k,x1,x2,x3,x4,x5,x6,l,A,c,xs,rfl,rfl,_⟩:=h.open_
 intro v hv
 simp only [List.mem_cons,List.not_mem_nil,or_false] at hv
 rcases hv with rfl | rfl | rfl | rfl | rfl | rfl | rfl | rfl <;> rfl
theorem Flds.snoc {w:World} {F:Nat → Nat → Prop} {xs:List Value} {l:List Fld} {css:List (List Value)} (h:Flds w F xs l css) {c:List Value} {x:Fld} (hx:FldR w F c x):Flds w F (xs ++ c) (l ++ [x]) (css ++ [c]):=by
 refine ⟨h.flat.snoc hx.eight,by simp [h.len],fun i d y hd hy=>?_⟩
 rcases qcd hd with ⟨h1,h2⟩ | ⟨h1,rfl⟩
 ·rcases qcd hy with ⟨_,h3⟩ | ⟨h3,_⟩
  ·exact h.each i d y h2 h3
  have:=h.len; omega
 rcases qcd hy with ⟨h3,_⟩ | ⟨_,rfl⟩
 ·have:=h.len; omega
 exact hx
theorem Flds.slots {w0 w:World} {tb:Tb} {rs:List Rw} {F:Nat → Nat → Prop} (hW:WOk w0 Nil w tb rs) {k e n:Nat} {A:Option Addr} {c:Nat} {xs:List Value} {l:List Fld} {css:List (List Value)} (hk:rs[k]? = some ⟨A,c,e,8,n,xs⟩) (h:Flds w (Fp F w0) xs l css) (hn:n = l.length) (hsm:l.length ≤ 1099511627776) :
  Slots w (Fp F w0) 8 A c l.length (fun i=>css.getD i []) ∧ ∀ (i:Nat) (x:Fld),l[i]? = some x → FldR w (Fp F w0) (css.getD i []) x:=by
 subst hn
 have ho:=hW.own k _ hk
 have h1:∀ u ∈ xs,u.oneCell' = true:=by
  intro v hv
  rw [h.flat.eq] at hv
  obtain ⟨c,hc,hv⟩:=List.mem_flatten.1 hv
  obtain ⟨i,hi,rfl⟩:=List.getElem_of_mem hc
  have hl:=h.len
  exact (h.each i _ _ (List.getElem?_eq_getElem hi) (List.getElem?_eq_getElem (show i < l.length by omega))).one v hv
 refine ⟨?_,fun i x hx=>?_⟩
 ·have hx:=h.flat
  simp only [Rw.v] at ho
  rw [← h.len] at ho ⊢
  exact hx.slots ho h1 (by rw [h.len]; exact hsm) (qjk hW hk)
 have hi:i < css.length:=by rw [h.len]; exact (List.getElem?_eq_some_iff.1 hx).1
 have:css.getD i [] = css[i]:=by rw [List.getD_eq_getElem?_getD,List.getElem?_eq_getElem hi]; rfl
 rw [this]
 exact h.each i _ x (List.getElem?_eq_getElem hi) hx
theorem qcq (w:World) (F:Nat → Nat → Prop):Slots w F 8 none 0 ([]:List Fld).length (fun _=>[]) ∧ ∀ (i:Nat) (x:Fld),([]:List Fld)[i]? = some x → FldR w F [] x :=
 ⟨Slots.nil w F 8 _,fun i x h=>by simp at h⟩
def qlx (w:World) (F:Nat → Nat → Prop) (l:List Fld) (x:Int):Ending → World → Prop:=fun en w'=>∃ A c,en = .returned (.agg #[.slice A l.length c,.int .i64 x]) ∧ FldsR w' (Fp F w) A c l ∧ Step w w' Nil
theorem qfD (y:Int × Bs) (r:List (Int × Bs)) (k:Int):qdD (y :: r) k = if y.1 < k then qdD r k + 1 else 0:=by
 unfold qdD
 rw [List.takeWhile_cons]
 by_cases h:y.1 < k
 ·simp [h]
 simp [h]
theorem qeg {least:Int} {y t:Int × Bs} {r:List (Int × Bs)} (h:y.1 < t.1):qb9 least (y :: r) t = y :: qb9 least r t:=by
 unfold qb9
 rw [qfD,if_pos h]
 simp only [List.length_cons,Nat.add_lt_add_iff_right,List.getD_cons_succ,List.take_succ_cons,List.drop_succ_cons,List.cons_append]
 split <;> rfl
theorem qeh {least:Int} {y t:Int × Bs} {r:List (Int × Bs)} (h:¬ y.1 < t.1):qb9 least (y :: r) t = if t.1 < least ∨ y.1 = t.1 then y :: r else t :: y :: r:=by
 unfold qb9
 rw [qfD,if_neg h]
 simp only [List.length_cons,Nat.zero_lt_succ,List.getD_cons_zero,List.take_zero,List.drop_zero,List.nil_append,true_and]
theorem qf6 {least:Int} {t:Int × Bs}:qb9 least [] t = if t.1 < least then [] else [t]:=by
 unfold qb9
 simp [qdD]
theorem qe0 {least:Int} {t:Int × Bs}:∀ {out:List (Int × Bs)},∀ x ∈ qb9 least out t,x = t ∨ x ∈ out
 | [],x,hx=>by
  rw [qf6] at hx
  split at hx
  ·cases hx
  exact .inl (List.mem_singleton.1 hx)
 | y :: r,x,hx=>by
  by_cases h:y.1 < t.1
  ·rw [qeg h] at hx
   rcases List.mem_cons.1 hx with rfl | hx
   ·exact .inr (List.mem_cons_self ..)
   rcases qe0 x hx with h1 | h1
   ·exact .inl h1
   exact .inr (List.mem_cons_of_mem _ h1)
  rw [qeh h] at hx
  split at hx
  ·exact .inr hx
  rcases List.mem_cons.1 hx with rfl | hx
  ·exact .inl rfl
  exact .inr hx
theorem qeG {least:Int} {t:Int × Bs}:∀ {out:List (Int × Bs)},qdu out → qdu (qb9 least out t)
 | [],_=>by
  rw [qf6]
  split
  ·exact List.Pairwise.nil
  exact List.pairwise_singleton _ _
 | y :: r,h=>by
  have h1:=@List.rel_of_pairwise_cons _ _ _ _ h
  have h2:=List.Pairwise.of_cons h
  by_cases hlt:y.1 < t.1
  ·rw [qeg hlt]
   refine List.pairwise_cons.2 ⟨fun z hz=>?_,qeG h2⟩
   rcases qe0 z hz with rfl | hz
   ·exact hlt
   exact h1 hz
  rw [qeh hlt]
  split
  ·exact h
  rename_i hn
  refine List.pairwise_cons.2 ⟨fun z hz=>?_,h⟩
  rcases List.mem_cons.1 hz with rfl | hz
  ·omega
  have:=h1 hz; omega
theorem qfc {least:Int}:∀ {l out:List (Int × Bs)},qdu out → qdu (l.foldl (qb9 least) out)
 | [],_,h=>h
 | x :: r,_,h=>qfc (l:=r) (qeG h)
theorem qg4 {least:Int}:∀ {l out:List (Int × Bs)},(l.foldl (qb9 least) out).length ≤ out.length + l.length
 | [],_=>Nat.le_refl _
 | x :: r,out=>by
  have h1:=qg4 (least:=least) (l:=r) (out:=qb9 least out x)
  have h2:=qis least out x
  rw [List.foldl_cons,List.length_cons]
  omega
theorem qg5 {least:Int}:∀ {l out:List (Int × Bs)},∀ x ∈ l.foldl (qb9 least) out,x ∈ out ∨ x ∈ l
 | [],_,x,hx=>.inl hx
 | y :: r,out,x,hx=>by
  rcases qg5 (l:=r) x hx with h | h
  ·rcases qe0 x h with rfl | h
   ·exact .inr (List.mem_cons_self ..)
   exact .inl h
  exact .inr (List.mem_cons_of_mem _ h)
theorem qfE (l:List Fld) (u:List (Int × Bs)):qdu (qag l u):=qfc List.Pairwise.nil
theorem qg6 (l:List Fld) (u:List (Int × Bs)):(qag l u).length ≤ 32767:=by
 have h:=qg4 (least:=qaC l) (l:=u.take 32767) (out:=[])
 rw [List.length_take,List.length_nil] at h
 unfold qag
 omega
theorem qg7 {l:List Fld} {u:List (Int × Bs)}:∀ x ∈ qag l u,x ∈ u:=fun x hx=>by
 rcases qg5 x hx with h | h
 ·cases h
 exact List.mem_of_mem_take h
theorem qgl {u:List (Int × Bs)} (h:qdu u):qdu (qcx u):=List.pairwise_map.2 h
theorem qdA (u:List (Int × Bs)):qct (qcx u) = qbi u:=by
 unfold qct qcx qbi tagR
 rw [List.flatMap_map]
theorem qgm (v:Int) (d:Nat) (l:List Fld) (t:Tree):(fitT v d l t).U = qcx (qag l t.U):=by cases d <;> rfl
theorem qjn {v:Int} {d:Nat} {l:List Fld} {t:Tree} {i:Nat} {f:Fld} (h:l[i]? = some f):(fitT v (d + 1) l t).at_ i = qdn (fitT v d) v f (t.at_ i):=by
 have h1:=qkf (W:=qdn (fitT v d) v) (t:=t) h
 have e:(fitT v (d + 1) l t).L = qhp (qdn (fitT v d) v) l t 0:=rfl
 rw [Tree.at_,e,List.getD_eq_getElem?_getD,h1]
 rfl
theorem qfT {v:Int} {d:Nat} {l:List Fld} {t:Tree} {i:Nat} {k x1 x2 x3 x4 x5 x6:Int} {s:List Fld} (h:l[i]? = some (.mk k x1 x2 x3 x4 x5 x6 s)) (hk:k < 8):((fitT v (d + 1) l t).at_ i).N = (t.at_ i).N:=by
 rw [qjn h]
 have e1:k ≠ 11:=by omega
 have e2:¬ (k = 8 ∨ k = 9):=by omega
 have e3:k ≠ 10:=by omega
 simp [qdn,qbT,Fld.kind,e1,e2,e3,Tree.N]
theorem qg8 {v:Int} (h0:0 ≤ v) (h1:v < 32768):IntKind.i16.wrap v = v:=by
 have:IntKind.i16.wrap v = (v + 32768) % 65536 - 32768:=by simp [IntKind.wrap,IntKind.signed,IntKind.bits]; omega
 omega
theorem qe1 (x:Int):be 8 (IntKind.i64.wrap x) = be 8 x:=by
 rw [IntKind.wrap_i64]
 simp only [be,List.cons.injEq,and_true]
 refine ⟨qbn ?_,qbn ?_,qbn ?_,qbn ?_,qbn ?_,qbn ?_,qbn ?_,qbn ?_⟩ <;> simp only [Int.reducePow] <;> omega
theorem qf7 (x:Int):be 1 (IntKind.i8.wrap x) = be 1 x:=by
 have:IntKind.i8.wrap x = (x + 128) % 256 - 128:=by simp [IntKind.wrap,IntKind.signed,IntKind.bits]; omega
 rw [this]
 simp only [be,List.cons.injEq,and_true]
 refine qbn ?_
 simp only [Int.reducePow]; omega
def qhV (s:Bs):Bs:=(List.range 16).map fun i=>s.getD i 0
theorem qcU (s:Bs):qhV s = qbz s:=by
 apply List.ext_getElem?
 intro i
 unfold qhV qbz
 rw [List.getElem?_map,List.getElem?_append,List.length_take]
 by_cases h:i < 16
 ·rw [List.getElem?_range h]
  by_cases hs:i < s.length
  ·rw [if_pos (by omega),List.getElem?_take,if_pos h,Option.map_some,List.getD_eq_getElem?_getD,List.getElem?_eq_getElem hs]; rfl
  rw [if_neg (by omega),List.getElem?_replicate,if_pos (by omega),Option.map_some,List.getD_eq_getElem?_getD,List.getElem?_eq_none (by omega)]; rfl
 rw [List.getElem?_eq_none (by simp; omega)]
 by_cases hs:i < min 16 s.length
 ·omega
 rw [if_neg hs,List.getElem?_replicate,if_neg (by omega)]; rfl
theorem qly {x m:Int} (h0:0 ≤ x) (h1:x ≤ 255) (hm:0 < m) (hm':m ≤ 32768):0 ≤ Int.tmod x m ∧ Int.tmod x m < 32768:=by
 rw [Int.tmod_eq_emod_of_nonneg h0]
 have g1:=Int.emod_nonneg x (show m ≠ 0 by omega)
 have g2:=Int.emod_lt_of_pos x hm
 omega
def usz:List (Int × Bs) → Nat
 | []=>0
 | x :: r=>(1 + (uv x.1.toNat).length + x.2.length) + usz r
def Tree.size:Tree → Nat
 | .mk _ s _ l u=>sizes l + (1 + s.length + usz u)
where sizes:List Tree → Nat
 | []=>0
 | t :: r=>t.size + sizes r
abbrev sizes:=Tree.size.sizes
theorem Tree.size_mk (n:Int) (s:Bs) (b:Bool) (l:List Tree) (u:List (Int × Bs)):(Tree.mk n s b l u).size = sizes l + (1 + s.length + usz u):=by rw [Tree.size]
theorem Tree.size_pos (t:Tree):1 ≤ t.size:=by cases t; rw [Tree.size_mk]; omega
theorem Tree.size_S (t:Tree):t.S.length ≤ t.size:=by cases t; rw [Tree.size_mk]; show List.length _ ≤ _; simp only [Tree.S]; omega
theorem Tree.size_U (t:Tree):usz t.U ≤ t.size:=by cases t; rw [Tree.size_mk]; simp only [Tree.U]; omega
theorem Tree.size_L (t:Tree):sizes t.L ≤ t.size:=by cases t; rw [Tree.size_mk]; simp only [Tree.L]; omega
theorem qg9:∀ {l:List Tree} {i:Nat} {x:Tree},l[i]? = some x → x.size ≤ sizes l
 | [],i,x,h=>by simp at h
 | t :: r,0,x,h=>by
  simp only [List.getElem?_cons_zero,Option.some.injEq] at h
  subst h
  exact Nat.le_add_right _ _
 | t :: r,i + 1,x,h=>Nat.le_trans (qg9 (l:=r) (i:=i) (by simpa using h)) (Nat.le_add_left _ _)
theorem qf8:∀ (l:List Tree) (k:Nat),sizes (l.take k) ≤ sizes l
 | [],k=>by simp
 | t :: r,0=>Nat.zero_le _
 | t :: r,k + 1=>Nat.add_le_add_left (qf8 r k) _
theorem qjo:∀ (l:List Tree),l.length ≤ sizes l
 | []=>Nat.zero_le _
 | t :: r=>by
  have h1:=t.size_pos
  have h2:=qjo r
  show r.length + 1 ≤ t.size + sizes r
  omega
theorem qjp (t:Tree) (i:Nat):(t.at_ i).size ≤ t.size:=by
 unfold Tree.at_
 rw [List.getD_eq_getElem?_getD]
 cases h:t.L[i]? with
 | none =>
  have h1:=t.size_pos
  have:Tree.zero.size = 1:=by unfold Tree.zero; rw [Tree.size_mk]; rfl
  show Tree.zero.size ≤ _
  omega
 | some x=>exact Nat.le_trans (qg9 h) t.size_L
theorem qe2:∀ (a b:List (Int × Bs)),usz (a ++ b) = usz a + usz b
 | [],b=>by simp [usz]
 | x :: r,b=>by
  show (1 + _ + _) + usz (r ++ b) = (1 + _ + _) + usz r + usz b
  rw [qe2 r b]; omega
theorem qk5 (k:Int) (out:List (Int × Bs)) (t:Int × Bs):usz (qb9 k out t) ≤ usz out + usz [t]:=by
 unfold qb9
 dsimp only
 split
 ·omega
 have h:usz out = usz (out.take (qdD out t.1)) + usz (out.drop (qdD out t.1)):=by rw [← qe2,List.take_append_drop]
 rw [qe2]
 show _ + (_ + usz (out.drop _)) ≤ _
 rw [h]
 simp only [usz]
 omega
theorem qhW (k:Int):∀ (l out:List (Int × Bs)),usz (l.foldl (qb9 k) out) ≤ usz out + usz l
 | [],out=>by simp [usz]
 | t :: r,out=>by
  rw [List.foldl_cons]
  refine Nat.le_trans (qhW k r _) ?_
  have:=qk5 k out t
  simp only [usz] at this ⊢
  omega
theorem qhX:∀ (l:List (Int × Bs)) (k:Nat),usz (l.take k) ≤ usz l
 | [],k=>by simp
 | t :: r,0=>Nat.zero_le _
 | t :: r,k + 1=>Nat.add_le_add_left (qhX r k) _
theorem qhy (l:List Fld) (u:List (Int × Bs)):usz (qag l u) ≤ usz u:=by
 unfold qag
 refine Nat.le_trans (qhW _ _ _) ?_
 have:=qhX u 32767
 simp only [usz]; omega
theorem qha (s:Bs):(qaH s).length ≤ s.length:=by simp only [qaH,List.length_take]; omega
theorem qhb:∀ (l:List (Int × Bs)),(qbi l).length ≤ 10 * usz l
 | []=>by simp [qbi]
 | x :: r=>by
  have h1:=qhb r
  have h2:=qeB (qaH x.2).length (by have:=qbl x.2; omega)
  have h3:=qha x.2
  unfold qbi at h1 ⊢
  rw [List.flatMap_cons,List.length_append,List.length_append,List.length_append]
  show _ ≤ 10 * ((1 + _ + _) + usz r)
  omega
theorem qkD:∀ (n:Nat),(uv n).length ≤ n + 1:=by
 intro n
 induction n using Nat.strongRecOn with
 | _ n ih =>
  by_cases h:n < 128
  ·rw [qcO h]; simp
  rw [qef (by omega),List.length_cons]
  have:=ih (n / 128) (by omega)
  omega
def Fld.cost:Fld → Nat
 | .mk _ _ _ _ _ _ _ sub=>64 + (3 * (((qaC sub).toNat + 1) * costs sub) + 64)
where costs:List Fld → Nat
 | []=>0
 | f :: r=>(20 + f.cost) + costs r
abbrev costs:=Fld.cost.costs
def qhz (l:List Fld):Nat:=3 * (((qaC l).toNat + 1) * costs l) + 64
theorem qk6 (f:Fld):f.cost = 64 + qhz f.sub:=by
 cases f; rw [Fld.cost]; rfl
theorem qe3 (f:Fld) (r:List Fld):costs (f :: r) = (20 + f.cost) + costs r:=by
 show Fld.cost.costs (f :: r) = _
 rw [Fld.cost.costs]
theorem qhc {p:Tree → Bs} {c:Nat} (hp:∀ t,(p t).length ≤ c * t.size) (kind:Int) (null flex:Bool) (t:Tree):(qa2 p kind null flex t).length ≤ (32 + c) * t.size:=by
 have h1:=t.size_pos
 have h2:=t.size_S
 have hm:(32 + c) * t.size = 32 * t.size + c * t.size:=Nat.add_mul _ _ _
 have hs:∀ (n:Nat),n ≤ 8 → (qav flex null (if null = true then ([]:Bs) else qaH t.S).length n ++ (if null = true then ([]:Bs) else qaH t.S)).length ≤ 32 * t.size:=by
  intro n hn
  have h3:(if null = true then ([]:Bs) else qaH t.S).length ≤ t.S.length:=by
   split
   ·exact Nat.zero_le _
   exact qha _
  have h5:(if null = true then ([]:Bs) else qaH t.S).length ≤ 32767:=by
   split
   ·exact Nat.zero_le _
   exact qbl _
  have h4:=qem flex null (if null = true then ([]:Bs) else qaH t.S).length n (by omega) hn
  rw [List.length_append]; omega
 unfold qa2
 split
 ·show 1 ≤ _; omega
 split
 ·rw [qbp]; omega
 split
 ·have:=hs 2 (by omega); exact Nat.le_trans this (by omega)
 split
 ·have:=hs 4 (by omega); exact Nat.le_trans this (by omega)
 split
 ·have:=hp t; omega
 rw [be_length]; have:=qbM kind; omega
theorem qf9 {g:Tree → Bs} {c:Nat} (hg:∀ t,(g t).length ≤ c * t.size):∀ (l:List Tree),(l.flatMap g).length ≤ c * sizes l
 | []=>by simp
 | t :: r=>by
  have h1:=hg t
  have h2:=qf9 hg r
  rw [List.flatMap_cons,List.length_append]
  show _ ≤ c * (t.size + sizes r)
  rw [Nat.mul_add]; omega
theorem qjq {p:Tree → Bs} {c:Nat} (hp:∀ t,(p t).length ≤ c * t.size) (f:Fld) (v:Int) (flex:Bool) (t:Tree):(qdg p f v flex t).length ≤ (64 + c) * t.size:=by
 have h1:=t.size_pos
 have h2:=t.size_L
 have hm:(64 + c) * t.size = 64 * t.size + c * t.size:=Nat.add_mul _ _ _
 have hm2:(32 + c) * t.size = 32 * t.size + c * t.size:=Nat.add_mul _ _ _
 unfold qdg
 dsimp only
 split
 ·rw [List.length_append]
  have hl:(if f.nul v t = true then ([]:List Tree) else qaq t.L).length ≤ 32767:=by
   split
   ·exact Nat.zero_le _
   exact qc6 _
  have h3:=qem flex (f.nul v t) (if f.nul v t = true then ([]:List Tree) else qaq t.L).length 4 (by omega) (by omega)
  have h4:=qf9 (g:=fun x=>qa2 p f.of false flex x) (fun x=>qhc hp f.of false flex x) (if f.nul v t = true then ([]:List Tree) else qaq t.L)
  have h5:sizes (if f.nul v t = true then ([]:List Tree) else qaq t.L) ≤ t.size:=by
   split
   ·exact Nat.zero_le _
   exact Nat.le_trans (qf8 _ _) h2
  have h6:(32 + c) * sizes (if f.nul v t = true then ([]:List Tree) else qaq t.L) ≤ (32 + c) * t.size:=Nat.mul_le_mul_left _ h5
  omega
 split
 ·split
  ·rw [be_length]; omega
  rw [List.length_append,be_length]
  have:=hp t
  omega
 have:=qhc hp f.kind (f.nul v t) flex t
 omega
section
variable {w:Fld → Tree → Bs}
theorem qhY (v:Int) (t:Tree):∀ (l:List Fld) (i:Nat),(∀ f ∈ l,∀ t,(w f t).length ≤ f.cost * t.size) → (qa1 w l v t i).length ≤ costs l * t.size
 | [],i,_=>by simp [qa1]
 | f :: r,i,h=>by
  have h1:=qhY v t r (i + 1) fun g hg=>h g (List.mem_cons_of_mem _ hg)
  have h2:f.cost * (t.at_ i).size ≤ f.cost * t.size:=Nat.mul_le_mul_left _ (qjp t i)
  have h3:=h f (List.mem_cons_self ..) (t.at_ i)
  rw [qa1,List.length_append,qe3,Nat.add_mul,Nat.add_mul]
  have h4:(if f.tag < 0 ∧ f.has v = true then w f (t.at_ i) else []).length ≤ f.cost * t.size:=by
   split
   ·omega
   exact Nat.zero_le _
  omega
theorem qjr (t:Tree) (k:Nat) (hk:k < 18446744073709551616):∀ (l:List Fld) (i:Nat),(∀ f ∈ l,∀ t,(w f t).length ≤ f.cost * t.size) → (tagB w l k t i).length ≤ 2 * (costs l * t.size)
 | [],i,_=>by simp [tagB]
 | f :: r,i,h=>by
  have h1:=qjr t k hk r (i + 1) fun g hg=>h g (List.mem_cons_of_mem _ hg)
  have h2:f.cost * (t.at_ i).size ≤ f.cost * t.size:=Nat.mul_le_mul_left _ (qjp t i)
  have h3:=h f (List.mem_cons_self ..) (t.at_ i)
  have h5:=t.size_pos
  have h6:=qeB k hk
  have h7:=qkD (w f (t.at_ i)).length
  rw [tagB,List.length_append,qe3,Nat.add_mul,Nat.add_mul]
  have h4:(if f.tag = k ∧ f.usual (t.at_ i) = false then uv k ++ uv (w f (t.at_ i)).length ++ w f (t.at_ i) else []).length ≤ 11 + 2 * (f.cost * t.size):=by
   split
   ·rw [List.length_append,List.length_append]; omega
   exact Nat.zero_le _
  omega
theorem qhZ (t:Tree) {l:List Fld} (h:∀ f ∈ l,∀ t,(w f t).length ≤ f.cost * t.size):∀ (k:Nat),k < 18446744073709551616 → (qaP w l t k).length ≤ 2 * (k * (costs l * t.size))
 | 0,_=>by simp [qaP]
 | k + 1,hk=>by
  have h1:=qhZ t h k (by omega)
  have h2:=qjr t k (by omega) l 0 h
  rw [qaP,List.length_append,Nat.add_mul]
  omega
theorem qkE (t:Tree) (k:Nat):∀ (l:List Fld) (i:Nat),tagN w l k t i ≤ costs l
 | [],i=>by simp [tagN]
 | f :: r,i=>by
  have h1:=qkE t k r (i + 1)
  rw [tagN,qe3]
  split <;> omega
theorem qjs (t:Tree) (l:List Fld):∀ (k:Nat),qa4 w l t k ≤ k * costs l
 | 0=>by simp [qa4]
 | k + 1=>by
  have h1:=qjs t l k
  have h2:=qkE (w:=w) t k l 0
  rw [qa4,Nat.add_mul]
  omega
theorem qjt:∀ (u:List (Int × Bs)),u.length ≤ usz u
 | []=>Nat.le_refl _
 | x :: r=>by
  have:=qjt r
  rw [List.length_cons]
  simp only [usz]; omega
theorem qh0 {l:List Fld} (h:∀ f ∈ l,∀ t,(w f t).length ≤ f.cost * t.size) (hk:(qaC l).toNat < 18446744073709551616) (v:Int) (flex:Bool) (t:Tree):(qek w l v flex t).length ≤ qhz l * t.size:=by
 have h0:=t.size_pos
 have h1:=qhY v t l 0 h
 have h2:=qhZ t h _ hk
 have h3:=qjs (w:=w) t l (qaC l).toNat
 have h4:=qhb (qag l t.U)
 have h5:=qhy l t.U
 have h6:=t.size_U
 have h7:=qjt (qag l t.U)
 have h8:=qkD (qa4 w l t (qaC l).toNat + (qag l t.U).length)
 have e1:qhz l * t.size = 3 * (((qaC l).toNat + 1) * (costs l * t.size)) + 64 * t.size:=by
  unfold qhz
  rw [Nat.add_mul,Nat.mul_assoc,Nat.mul_assoc]
 have e2:((qaC l).toNat + 1) * (costs l * t.size) = (qaC l).toNat * (costs l * t.size) + costs l * t.size:=by rw [Nat.add_mul,Nat.one_mul]
 have e3:(qaC l).toNat * costs l ≤ (qaC l).toNat * (costs l * t.size):=Nat.mul_le_mul_left _ (Nat.le_mul_of_pos_right _ h0)
 unfold qek
 rw [List.length_append,e1,e2]
 split
 ·rw [List.length_append,List.length_append]; omega
 simp only [List.length_nil]; omega
end
theorem qhd (l:List Fld):(qaC l).toNat < 18446744073709551616:=by
 have h:=qen l
 omega
theorem qh1:∀ (d:Nat) (l:List Fld) (v:Int) (flex:Bool) (t:Tree),(qa8 d l v flex t).length ≤ qhz l * t.size
 | 0,l,v,flex,t=>qh0 (fun f _ t=>by simp) (qhd l) v flex t
 | d + 1,l,v,flex,t=>qh0 (fun f _ t=>by
   rw [qk6]
   exact qjq (fun t=>qh1 d f.sub v flex t) f v flex t) (qhd l) v flex t
theorem qju (d:Nat) (l:List Fld) (x v:Int) (t:Tree):(qc5 d l x v t).length ≤ qhz l * t.size:=qh1 d l v _ t
end Go.Proofs.YtdlaobdadlmcdaaGreatDoor.ME
namespace Go.Proofs.YtdlaobdadlmcdaaGreatDoor.ME
open Go
open Go.Proofs.YtdlaobdadlmcdaaGreatDoor.Rows (uptoBulk uptoBulkAll)
set_option linter.unusedVariables false
set_option linter.unusedSimpArgs false
def Tree.i64s:Tree → Prop
 | .mk n _ _ l _=>(-9223372036854775808 ≤ n ∧ n ≤ 9223372036854775807) ∧ i64ss l
where i64ss:List Tree → Prop
 | []=>True
 | t :: r=>t.i64s ∧ i64ss r
abbrev i64ss:=Tree.i64s.i64ss
theorem qfF:∀ {l:List Tree},i64ss l → ∀ x ∈ l,x.i64s
 | [],_,x,h=>by cases h
 | t :: r,hr,x,h=>by
  rcases List.mem_cons.1 h with rfl | h
  ·exact hr.1
  exact qfF (l:=r) hr.2 x h
theorem qh2:∀ {l:List Tree},(∀ x ∈ l,x.i64s) → i64ss l
 | [],_=>trivial
 | t :: r,h=>⟨h t List.mem_cons_self,qh2 (l:=r) fun x hx=>h x (List.mem_cons_of_mem _ hx)⟩
theorem qgn {H:Type} (d:DataW H):1 ≤ uptoBulk d:=by cases d <;> first | (unfold uptoBulk; omega) | (rename_i l; cases l <;> (unfold uptoBulk; omega))
theorem qgo {H:Type}:∀ (l:List (DataW H)),l.length ≤ uptoBulkAll l
 | []=>Nat.zero_le _
 | d :: r=>by
  have h1:=qgn d
  have h2:=qgo r
  unfold uptoBulkAll
  rw [List.length_cons]; omega
theorem qfm {H:Type}:∀ {l:List (DataW H)} {d:DataW H},d ∈ l → uptoBulk d ≤ uptoBulkAll l
 | [],d,h=>by cases h
 | a :: r,d,h=>by
  unfold uptoBulkAll
  rcases List.mem_cons.1 h with rfl | h
  ·omega
  have:=qfm h; omega
theorem qhe {α β:Type} {f:α → Option β}:∀ {l:List α} {r:List β},l.mapM f = some r → r.length = l.length ∧ ∀ (i:Nat) (a:α),l[i]? = some a → ∃ b,f a = some b ∧ r[i]? = some b
 | [],r,h=>by
  simp only [List.mapM_nil,Option.pure_def,Option.some.injEq] at h
  subst h
  exact ⟨rfl,fun i a h=>by simp at h⟩
 | x :: l,r,h=>by
  rw [List.mapM_cons] at h
  cases hx:f x with
  | none=>rw [hx] at h; cases h
  | some y =>
   rw [hx] at h
   cases hl:l.mapM f with
   | none=>rw [hl] at h; cases h
   | some ys =>
    rw [hl] at h
    obtain rfl:y :: ys = r:=Option.some.inj h
    obtain ⟨h1,h2⟩:=qhe hl
    refine ⟨by simp [h1],fun i a ha=>?_⟩
    cases i with
    | zero =>
     simp only [List.getElem?_cons_zero,Option.some.injEq] at ha
     subst ha
     exact ⟨y,hx,rfl⟩
    | succ i=>simpa using h2 i a (by simpa using ha)
theorem qe4 {w:World} {a:Addr} {n:Nat} {cs:List Value} (h:w.cells? 0 a n = some cs):cs.length = n ∧ ∀ (j:Nat) (v:Value),cs[j]? = some v → w.cell? (a.add j) = some v:=by
 unfold World.cells? at h
 rw [if_pos (Nat.zero_le _)] at h
 obtain ⟨h1,h2⟩:=qhe h
 rw [List.length_range] at h1
 refine ⟨h1,fun j v hj=>?_⟩
 have hjn:j < n:=by rw [← h1]; exact (List.getElem?_eq_some_iff.1 hj).1
 obtain ⟨b,hb,hc⟩:=h2 j j (by rw [List.getElem?_range hjn])
 rw [hj] at hc
 rw [hb,Option.some.inj hc]
theorem qix {w:World} {a:Addr} {v:Value} (h:w.cell? a = some v):a.spot = none:=by
 unfold World.cell? at h
 split at h
 ·split at h
  ·cases h
  rename_i hs; simpa using hs
 cases h
theorem qkg {w:World} {size n c:Nat} {ad:Addr} {cs:Nat → List Value} (hle:n ≤ c) (hsm:n ≤ 1099511627776) (hsz:0 < size) (h:∀ i,i < n → (cs i).length = size ∧ ∀ (j:Nat) (v:Value),(cs i)[j]? = some v → w.cell? ((ad.add (i * size)).add j) = some v):Slots w (fun _ _=>True) size (some ad) c n cs:=by
 refine ⟨hle,hsm,(fun hA=>by cases hA),fun ad' hA hn=>?_⟩
 obtain rfl:=Option.some.inj hA
 have h0:=h 0 hn
 have hp:ad.spot = none:=by
  have h1:=qix (h0.2 0 _ (List.getElem?_eq_getElem (by omega)))
  unfold Addr.add at h1
  split at h1
  ·split at h1 <;> simp_all
  simp_all
 obtain ⟨b,o,sp⟩:=ad
 simp only at hp
 subst hp
 refine ⟨b,o,rfl,fun i hi=>⟨(h i hi).1,fun j v hj=>⟨trivial,?_⟩⟩⟩
 have:=(h i hi).2 j v hj
 rwa [qbV,qbV] at this
theorem qfG {α:Type} {R:Nat → α → Prop}:∀ (n:Nat),(∀ i,i < n → ∃ x,R i x) → ∃ l:List α,l.length = n ∧ ∀ i x,l[i]? = some x → R i x
 | 0,_=>⟨[],rfl,fun i x h=>by simp at h⟩
 | n + 1,h=>by
  obtain ⟨l,h1,h2⟩:=qfG n fun i hi=>h i (by omega)
  obtain ⟨x,hx⟩:=h n (by omega)
  refine ⟨l ++ [x],by simp [h1],fun i y hy=>?_⟩
  rcases qbB hy with hy | ⟨rfl,rfl⟩
  ·exact h2 i y hy
  rw [h1]; exact hx
theorem qe5 {α:Type} {w:World} {a:Addr} {len cap size:Nat} (R:Nat → List Value → α → Prop) (hle:len ≤ cap) (hsm:len ≤ 1099511627776) (hsz:0 < size)
  (hex:∀ i,i < len → ∃ ci:List Value,ci.length = size ∧ (∀ (j:Nat) (v:Value),ci[j]? = some v → w.cell? ((a.add (i * size)).add j) = some v) ∧ ∃ x,R i ci x) :
  ∃ l:List α,l.length = len ∧ ∃ xs:Nat → List Value,Slots w (fun _ _=>True) size (some a) cap len xs ∧ ∀ i x,l[i]? = some x → R i (xs i) x:=by
 obtain ⟨l,h1,h2⟩:=qfG (R:=fun i (z:List Value × α)=>z.1.length = size ∧ (∀ (j:Nat) (v:Value),z.1[j]? = some v → w.cell? ((a.add (i * size)).add j) = some v) ∧ R i z.1 z.2) len (fun i hi=>by
  obtain ⟨ci,g1,g2,x,g3⟩:=hex i hi
  exact ⟨(ci,x),g1,g2,g3⟩)
 have hget:∀ i,i < len → ∃ z,l[i]? = some z:=fun i hi=>⟨_,List.getElem?_eq_getElem (by omega)⟩
 have hxs:∀ i z,l[i]? = some z → ((l.map (·.1)).getD i []) = z.1:=fun i z hz=>by
  rw [List.getD_eq_getElem?_getD,List.getElem?_map,hz]; rfl
 refine ⟨l.map (·.2),by simp [h1],fun i=>(l.map (·.1)).getD i [],qkg hle hsm hsz (fun i hi=>?_),fun i x hx=>?_⟩
 ·obtain ⟨z,hz⟩:=hget i hi
  rw [hxs i z hz]
  exact ⟨(h2 i z hz).1,(h2 i z hz).2.1⟩
 rw [List.getElem?_map] at hx
 cases hz:l[i]? with
 | none=>rw [hz] at hx; cases hx
 | some z =>
  rw [hz] at hx
  simp only [Option.map_some,Option.some.injEq] at hx
  subst hx
  dsimp only
  rw [hxs i z hz]
  exact (h2 i z hz).2.2
def qfn (P:Program) (t:TypeId):Option (List (TypeId × Nat)) :=
 match P.underlying t with
 | some (.struct fs)=>some (fs.toList.map fun f=>(f.type,f.offset))
 | _=>none
theorem qfH {P:Program} {t:TypeId} {l:List (TypeId × Nat)} (h:qfn P t = some l):∃ fs:Array Field,P.underlying t = some (.struct fs) ∧ fs.size = l.length ∧ ∀ (i:Nat) ty off,l[i]? = some (ty,off) → ∃ f,fs[i]? = some f ∧ f.type = ty ∧ f.offset = off:=by
 unfold qfn at h
 split at h
 ·rename_i fs hfs
  simp only [Option.some.injEq] at h
  subst h
  refine ⟨fs,hfs,by simp,fun i ty off hi=>?_⟩
  rw [List.getElem?_map] at hi
  cases hf:fs.toList[i]? with
  | none=>rw [hf] at hi; cases hi
  | some f =>
   rw [hf] at hi
   simp only [Option.map_some,Option.some.injEq,Prod.mk.injEq] at hi
   exact ⟨f,by simpa using hf,hi.1,hi.2⟩
 cases h
structure TreeTys (P:Program) (T TL TU TG TB TI TO TK T8:TypeId):Prop where
 tree:qfn P T = some [(TI,0),(TB,1),(TO,2),(TL,3),(TU,4)]
 tag:qfn P TG = some [(TK,0),(TB,1)]
 trees:P.underlying TL = some (.slice T)
 tags:P.underlying TU = some (.slice TG)
 bytes:P.underlying TB = some (.slice T8)
 int:P.underlying TI = some (.int .i64)
 bool:P.underlying TO = some .bool
 key:P.underlying TK = some (.int .u32)
 byte:P.underlying T8 = some (.int .u8)
 cells:(P.cellsOf T,P.cellsOf TL,P.cellsOf TU,P.cellsOf TG,P.cellsOf TB,P.cellsOf TI,P.cellsOf TO,P.cellsOf TK,P.cellsOf T8) = (5,1,1,2,1,1,1,1,1)
section
variable {H:Type} {enc:TypeId × Value → H} {P:Program} {W:World} {sp:Nat → Bool} {hd:Bool} {T TL TU TG TB TI TO TK T8:TypeId}
theorem qgp {α β:Type} {x:Option α} {f:α → Option β} {l:List β} {i:Nat} (h:x.bind f = l[i]?) (hi:i < l.length):∃ a b,x = some a ∧ f a = some b ∧ l[i]? = some b:=by
 rw [List.getElem?_eq_getElem hi] at h
 obtain ⟨a,ha,hb⟩:=Option.bind_eq_some_iff.1 h
 exact ⟨a,_,ha,hb,List.getElem?_eq_getElem hi⟩
theorem qe6 {elems spare:List (DataW H)} {n:Nat} (h:uptoBulk (.slice elems spare) ≤ n):elems.length ≤ n ∧ ∀ d ∈ elems,uptoBulk d ≤ n:=by
 unfold uptoBulk at h
 have h1:=qgo elems
 exact ⟨by omega,fun d hd=>by have:=qfm hd; omega⟩
theorem qh3 {parts:List (DataW H)} {n:Nat} (h:uptoBulk (.agg parts) ≤ n):∀ d ∈ parts,uptoBulk d ≤ n:=by
 unfold uptoBulk at h
 exact fun d hd=>by have:=qfm hd; omega
theorem qhf {fuel:Nat} {cs:List Value} {x:DataW H × List MemPlace} (hT:TreeTys P T TL TU TG TB TI TO TK T8) (h:DataW.trod enc P W 0 sp hd fuel TB cs = some x) (hb:uptoBulk x.1 ≤ 1048576) :
  ∃ A c s,cs = [.slice A (s:Bs).length c] ∧ Octs W (fun _ _=>True) A c s ∧ s.length ≤ uptoBulk x.1:=by
 have hc:=hT.cells
 simp only [Prod.mk.injEq] at hc
 rcases DataW.trod_slice hT.bytes h with ⟨rfl,rfl⟩ | ⟨a,len,cap,elems,rest,n,_,rfl,rfl,_,hle,_,hlen,he,_⟩
 ·exact ⟨none,0,[],rfl,Octs.nil _ _,Nat.zero_le _⟩
 have hlb:=qgo (elems.map (·.1))
 rw [List.length_map] at hlb
 have hbl:=qe6 hb
 simp only [List.length_map] at hbl
 obtain ⟨l,hl,xs,h1,h2⟩:=qe5 (w:=W) (a:=a) (len:=len) (cap:=cap) (size:=1) (fun _ ci (q:UInt8)=>ci = [qeA q]) hle (by omega) (by omega) (fun i hi=>by
  obtain ⟨ci,y,g1,g2,g3⟩:=qgp (he i hi) (by omega)
  obtain ⟨g4,g5⟩:=qe4 g1
  rw [hc.2.2.2.2.2.2.2.2] at g4 g5
  refine ⟨ci,g4,g5,?_⟩
  obtain ⟨v,rfl,_,hw⟩:=DataW.trod_int hT.byte g2
  have hx:0 ≤ v ∧ v ≤ 255:=by simpa [Lit.wf,IntKind.min,IntKind.max,IntKind.signed,IntKind.bits] using hw
  refine ⟨UInt8.ofNat v.toNat,?_⟩
  unfold qeA
  rw [UInt8.toNat_ofNat']
  congr 2
  omega)
 refine ⟨some a,cap,l,by rw [hl],?_,by rw [hl,← hlen]; dsimp only; unfold uptoBulk; omega⟩
 unfold Octs
 rw [hl]
 refine ⟨h1.le,h1.small,h1.none_,fun ad hA hn=>?_⟩
 obtain ⟨b,o,e1,e2⟩:=h1.some_ ad hA hn
 refine ⟨b,o,e1,fun i hi=>?_⟩
 have hli:l[i]? = some (l.getD i 0):=by
  rw [List.getD_eq_getElem?_getD,List.getElem?_eq_getElem (by omega)]; rfl
 have:=h2 i _ hli
 rw [← this]
 exact e2 i hi
theorem qeq {n:Nat} {fs:Array Field} {xs:List (DataW H × List MemPlace)} {cs:List Value} {l:List (TypeId × Nat)} (hx:∀ (i:Nat) (f:Field),fs[i]? = some f → DataW.trod enc P W 0 sp hd n f.type ((cs.drop f.offset).take (P.cellsOf f.type)) = xs[i]?)
  (hl:∀ (i:Nat) ty off,l[i]? = some (ty,off) → ∃ f,fs[i]? = some f ∧ f.type = ty ∧ f.offset = off) {i:Nat} {ty off:Nat} (hi:l[i]? = some (ty,off)) (h1:P.cellsOf ty = 1) (hxl:i < xs.length) {c:Value} (hc:cs[off]? = some c) :
  ∃ y,xs[i]? = some y ∧ DataW.trod enc P W 0 sp hd n ty [c] = some y:=by
 obtain ⟨f,hf,rfl,rfl⟩:=hl i _ _ hi
 have:=hx i f hf
 rw [h1] at this
 refine ⟨xs[i],List.getElem?_eq_getElem hxl,?_⟩
 rw [List.getElem?_eq_getElem hxl] at this
 have e:(cs.drop f.offset).take 1 = [c]:=by
  rw [List.take_one,List.head?_drop,hc]; rfl
 rw [e] at this
 exact this
theorem qh4:∀ (l:List (Int × Bs)) {elems:List (DataW H × List MemPlace)},l.length = elems.length → (∀ (i:Nat) (x:Int × Bs) (y:DataW H × List MemPlace),l[i]? = some x → elems[i]? = some y → 1 + (uv x.1.toNat).length + x.2.length ≤ 8 * uptoBulk y.1) → usz l ≤ 8 * uptoBulkAll (elems.map (·.1))
 | [],_,_,_=>Nat.zero_le _
 | x :: r,[],h,_=>by cases h
 | x :: r,y :: es,h,hp=>by
  have h1:=qh4 r (elems:=es) (by simpa using h) fun i x' y' hx hy=>hp (i + 1) x' y' (by simpa using hx) (by simpa using hy)
  have h2:=hp 0 x y rfl rfl
  simp only [usz,List.map_cons,uptoBulkAll]
  omega
theorem qga:∀ (l:List Tree) {elems:List (DataW H × List MemPlace)},l.length = elems.length → (∀ (i:Nat) (x:Tree) (y:DataW H × List MemPlace),l[i]? = some x → elems[i]? = some y → x.size ≤ 8 * uptoBulk y.1) → sizes l ≤ 8 * uptoBulkAll (elems.map (·.1))
 | [],_,_,_=>Nat.zero_le _
 | x :: r,[],h,_=>by cases h
 | x :: r,y :: es,h,hp=>by
  have h1:=qga r (elems:=es) (by simpa using h) fun i x' y' hx hy=>hp (i + 1) x' y' (by simpa using hx) (by simpa using hy)
  have h2:=hp 0 x y rfl rfl
  show x.size + sizes r ≤ _
  simp only [List.map_cons,uptoBulkAll]
  omega
theorem qjv {y0 y1 y2 y3 y4:DataW H × List MemPlace} {xs:List (DataW H × List MemPlace)} (h:xs.length = 5) (h0:xs[0]? = some y0) (h1:xs[1]? = some y1) (h2:xs[2]? = some y2) (h3:xs[3]? = some y3) (h4:xs[4]? = some y4):uptoBulk (.agg (xs.map (·.1))) = uptoBulk y0.1 + uptoBulk y1.1 + uptoBulk y2.1 + uptoBulk y3.1 + uptoBulk y4.1 + 1:=by
 match xs,h with
 | [a,b,c,d,e],_ =>
  simp only [List.getElem?_cons_zero,List.getElem?_cons_succ,Option.some.injEq] at h0 h1 h2 h3 h4
  subst h0; subst h1; subst h2; subst h3; subst h4
  have e:uptoBulk (.agg [a.1,b.1,c.1,d.1,e.1]) = uptoBulkAll [a.1,b.1,c.1,d.1,e.1] + 1:=by rw [uptoBulk]
  simp only [List.map_cons,List.map_nil]
  rw [e]
  simp only [uptoBulkAll]
  omega
theorem qjw {fuel:Nat} {cs:List Value} {x:DataW H × List MemPlace} (hT:TreeTys P T TL TU TG TB TI TO TK T8) (h:DataW.trod enc P W 0 sp hd fuel TU cs = some x) (hb:uptoBulk x.1 ≤ 1048576) :
  ∃ A c u,cs = [.slice A (u:List (Int × Bs)).length c] ∧ TagsR W (fun _ _=>True) A c u ∧ usz u ≤ 8 * uptoBulk x.1:=by
 have hc:=hT.cells
 simp only [Prod.mk.injEq] at hc
 rcases DataW.trod_slice hT.tags h with ⟨rfl,rfl⟩ | ⟨a,len,cap,elems,rest,n,_,rfl,rfl,_,hle,_,hlen,he,_⟩
 ·exact ⟨none,0,[],rfl,TagsR.nil _ _,Nat.zero_le _⟩
 have hbl:=qe6 hb
 simp only [List.length_map] at hbl
 obtain ⟨l,hl,xs,h1,h2⟩:=qe5 (w:=W) (a:=a) (len:=len) (cap:=cap) (size:=2) (fun i ci (q:Int × Bs)=>((∃ A' c',ci = [.int .u32 q.1,.slice A' q.2.length c'] ∧ Octs W (fun _ _=>True) A' c' q.2) ∧ 0 ≤ q.1 ∧ q.1 < 4294967296) ∧ ∀ y,elems[i]? = some y → 1 + (uv q.1.toNat).length + q.2.length ≤ 8 * uptoBulk y.1) hle (by omega) (by omega) (fun i hi=>by
  obtain ⟨ci,y,g1,g2,g3⟩:=qgp (he i hi) (by omega)
  obtain ⟨g4,g5⟩:=qe4 g1
  rw [hc.2.2.2.1] at g4 g5
  refine ⟨ci,g4,g5,?_⟩
  obtain ⟨fs,hfs,hsz,hl⟩:=qfH hT.tag
  obtain ⟨xs,m,_,rfl,_,hxl,hx⟩:=DataW.trod_struct hfs g2
  rw [hsz] at hxl
  have hxl':xs.length = 2:=hxl
  match ci,g4 with
  | [c0,c1],_ =>
   obtain ⟨y0,_,k0⟩:=qeq hx hl (i:=0) rfl hc.2.2.2.2.2.2.2.1 (by omega) (c:=c0) rfl
   obtain ⟨y1,e1,k1⟩:=qeq hx hl (i:=1) rfl hc.2.2.2.2.1 (by omega) (c:=c1) rfl
   obtain ⟨v,hv,_,hw⟩:=DataW.trod_int hT.key k0
   have hx:0 ≤ v ∧ v ≤ 4294967295:=by simpa [Lit.wf,IntKind.min,IntKind.max,IntKind.signed,IntKind.bits] using hw
   have hby:uptoBulk y1.1 ≤ 1048576:=by
    have hm:DataW.agg (xs.map (·.1)) ∈ elems.map (·.1):=by
     have:=List.mem_of_getElem? g3
     exact List.mem_map.2 ⟨_,this,rfl⟩
    exact qh3 (hbl.2 _ hm) _ (List.mem_map.2 ⟨_,List.mem_of_getElem? e1,rfl⟩)
   obtain ⟨A',c',s,hs,ho,hsl⟩:=qhf hT k1 hby
   simp only [List.cons.injEq,and_true] at hv hs
   subst hv; subst hs
   refine ⟨(v,s),⟨⟨A',c',rfl,ho⟩,by dsimp only; omega,by dsimp only; omega⟩,fun y hy=>?_⟩
   rw [g3] at hy
   obtain rfl:=Option.some.inj hy
   have h5:=qgS v.toNat 5 (by omega) (by omega)
   have h6:uptoBulk y1.1 ≤ uptoBulkAll (xs.map (·.1)):=qfm (List.mem_map.2 ⟨_,List.mem_of_getElem? e1,rfl⟩)
   dsimp only
   unfold uptoBulk
   omega)
 refine ⟨some a,cap,l,by rw [hl],⟨xs,by rw [hl]; exact h1,fun i k s hi=>(h2 i (k,s) hi).1⟩,?_⟩
 have:=qh4 l (elems:=elems) (by rw [hl,hlen]) (fun i x y hx hy=>(h2 i x hx).2 y hy)
 dsimp only
 unfold uptoBulk
 omega
theorem qiy (hT:TreeTys P T TL TU TG TB TI TO TK T8):∀ (fuel:Nat) (cs:List Value) (x:DataW H × List MemPlace),DataW.trod enc P W 0 sp hd fuel T cs = some x → uptoBulk x.1 ≤ 1048576 → ∃ t,TreeR W (fun _ _=>True) cs t ∧ t.size ≤ 8 * uptoBulk x.1 ∧ t.i64s:=by
 intro fuel
 induction fuel using Nat.strongRecOn with
 | _ fuel ih =>
 intro cs x h hb
 have hc:=hT.cells
 simp only [Prod.mk.injEq] at hc
 obtain ⟨fs,hfs,hsz,hl⟩:=qfH hT.tree
 obtain ⟨xs,m,rfl,rfl,hcl,hxl,hx⟩:=DataW.trod_struct hfs h
 rw [hsz] at hxl
 have hxl':xs.length = 5:=hxl
 rw [hc.1] at hcl
 have hbe:∀ {i:Nat} {y:DataW H × List MemPlace},xs[i]? = some y → uptoBulk y.1 ≤ 1048576:=fun e=>qh3 hb _ (List.mem_map.2 ⟨_,List.mem_of_getElem? e,rfl⟩)
 match cs,hcl with
 | [c0,c1,c2,c3,c4],_ =>
  obtain ⟨y0,e0,k0⟩:=qeq hx hl (i:=0) rfl hc.2.2.2.2.2.1 (by omega) (c:=c0) rfl
  obtain ⟨y1,e1,k1⟩:=qeq hx hl (i:=1) rfl hc.2.2.2.2.1 (by omega) (c:=c1) rfl
  obtain ⟨y2,e2,k2⟩:=qeq hx hl (i:=2) rfl hc.2.2.2.2.2.2.1 (by omega) (c:=c2) rfl
  obtain ⟨y3,e3,k3⟩:=qeq hx hl (i:=3) rfl hc.2.1 (by omega) (c:=c3) rfl
  obtain ⟨y4,e4,k4⟩:=qeq hx hl (i:=4) rfl hc.2.2.1 (by omega) (c:=c4) rfl
  obtain ⟨v,hv,_,hw0⟩:=DataW.trod_int hT.int k0
  have hx0:-9223372036854775808 ≤ v ∧ v ≤ 9223372036854775807:=by simpa [Lit.wf,IntKind.min,IntKind.max,IntKind.signed,IntKind.bits] using hw0
  obtain ⟨A1,d1,s,hs,ho,hz1⟩:=qhf hT k1 (hbe e1)
  obtain ⟨b,hbo,_⟩:=DataW.trod_bool hT.bool k2
  obtain ⟨A3,d3,u,hu,hur,hz3⟩:=qjw hT k4 (hbe e4)
  have hll:∃ A2 d2 l xs2,[c3] = [.slice A2 (l:List Tree).length d2] ∧ Slots W (fun _ _=>True) 5 A2 d2 l.length xs2 ∧ (∀ i x,l[i]? = some x → TreeR W (fun _ _=>True) (xs2 i) x) ∧ sizes l ≤ 8 * uptoBulk y3.1 ∧ i64ss l:=by
   rcases DataW.trod_slice hT.trees k3 with ⟨e,_⟩ | ⟨a,len,cap,elems,rest,n,rfl,e,rfl,_,hle,_,hlen,he,_⟩
   ·exact ⟨none,0,[],fun _=>[],e,Slots.nil _ _ _ _,(fun i x h=>by simp at h),Nat.zero_le _,trivial⟩
   have hbl:=qe6 (hbe e3)
   simp only [List.length_map] at hbl
   obtain ⟨l,hl,xs2,h1,h2⟩:=qe5 (w:=W) (a:=a) (len:=len) (cap:=cap) (size:=5) (fun i ci (q:Tree)=>(TreeR W (fun _ _=>True) ci q ∧ q.i64s) ∧ ∀ y,elems[i]? = some y → q.size ≤ 8 * uptoBulk y.1) hle (by omega) (by omega) (fun i hi=>by
    obtain ⟨ci,y,g1,g2,g3⟩:=qgp (he i hi) (by omega)
    obtain ⟨g4,g5⟩:=qe4 g1
    rw [hc.1] at g4 g5
    obtain ⟨q,q1,q2,q3⟩:=ih n (by omega) ci y g2 (hbl.2 _ (List.mem_map.2 ⟨_,List.mem_of_getElem? g3,rfl⟩))
    exact ⟨ci,g4,g5,q,⟨q1,q3⟩,fun y' hy=>by
     rw [g3] at hy
     obtain rfl:=Option.some.inj hy
     exact q2⟩)
   refine ⟨some a,cap,l,xs2,by rw [e,hl],by rw [hl]; exact h1,fun i x hx=>(h2 i x hx).1.1,?_,qh2 fun x hx=>by
    obtain ⟨i,hi,rfl⟩:=List.getElem_of_mem hx
    exact (h2 i _ (List.getElem?_eq_getElem hi)).1.2⟩
   have:=qga l (elems:=elems) (by rw [hl,hlen]) (fun i x y hx hy=>(h2 i x hx).2 y hy)
   dsimp only
   unfold uptoBulk
   omega
  obtain ⟨A2,d2,l,xs2,hl2,hsl,hxl2,hz2,hi2⟩:=hll
  simp only [List.cons.injEq,and_true] at hv hs hbo hl2 hu
  subst hv; subst hs; subst hbo; subst hl2; subst hu
  refine ⟨_,.mk xs2 ho hsl hxl2 hur,?_,hx0,hi2⟩
  have h5:=qjv hxl' e0 e1 e2 e3 e4
  have p0:=qgn y0.1
  have p1:=qgn y2.1
  dsimp only at h5 ⊢
  rw [Tree.size_mk,h5]
  omega
end
section
variable {H:Type} {enc:TypeId × Value → H} {P:Program}
open Go.ChangeShapes Go.WideShapes Go.ChangeAt Go.RowKit
theorem Step.same {W W':World} (h:Step W W' Nil) {b:Nat} (hb:b < W.heap.size):W'.heap[b]? = W.heap[b]?:=(h.keeps b hb).1 fun _ hn=>hn
theorem Step.sameAt {W W':World} (h:Step W W' Nil) {p:MemPlace} (hp:p.block < W.heap.size):W.sameAt W' p:=by
 cases p with
 | cell b o=>exact World.cell_of_heap (h.same hp)
 | map b=>exact h.same hp
theorem Step.keptBut {W W':World} (h:Step W W' Nil) (may:MemPlace → Prop):W.keptBut W' may:=by
 refine ⟨h.os,h.output,fun i hi=>?_⟩
 rw [h.same hi]
 cases hx:W.heap[i]? with
 | none=>rfl
 | some x =>
  cases x with
  | cells c t f=>exact ⟨rfl,rfl,rfl,fun _ _=>rfl⟩
  | map es clock=>exact .inr ⟨rfl,rfl⟩
  | _=>rfl
theorem qeH (hl:laidOutB P = true) {W W':World} (hs:Step W W' Nil):∀ {ts:List TypeId} {vs:List Value} {ds:List (DataW H)} {ps:List MemPlace},(∀ t ∈ ts,P.readableRec t = true ∧ t < P.types.size) → DataW.TrodAll enc P W 0 (fun _=>true) true ts vs ds ps → (∀ p ∈ ps,p.block < W.heap.size) →
  DataW.TrodAll enc P W' 0 (fun b=>decide (b < W.heap.size)) true ts vs ds ps
 | [],vs,ds,ps,_,h,_=>by
  obtain ⟨rfl,rfl,rfl⟩:=trodAll_nil h
  exact rfl
 | t :: ts,vs,ds,ps,ht,h,hp=>by
  obtain ⟨v,vs',d,ds',p,q,rfl,rfl,rfl,h1,h2⟩:=trodAll_cons h
  have h0:=ht t (List.mem_cons_self ..)
  refine ⟨p,q,?_,qeH hl hs (fun t' h'=>ht t' (List.mem_cons_of_mem _ h')) h2 (fun x hx=>hp x (List.mem_append_right _ hx)),rfl⟩
  exact Go.WideElems.Trod_stays hl h0.1 h0.2 h1 (fun x hx=>hs.sameAt (hp x (List.mem_append_left _ hx))) (fun x hx=>decide_eq_true (hp x (List.mem_append_left _ hx)))
theorem qjx {f:Func} {s:ChangeSpec} {W W':World} {args:Array Value} {v:Value} {ds gs:List (DataW H)} {before:List MemPlace} {handsOn:Bool}
  (hW:DataW.Whole enc P f.params.toList s.vars false W args.toList ds gs before) (hs:Step W W' Nil) (hl:laidOutB P = true) (hpar:∀ t ∈ f.params.toList,P.readableRec t = true ∧ t < P.types.size)
  (hv:s.vars = []) (hargs:(s.fn H (ds ++ gs)).args = ds) (hvars:(s.fn H (ds ++ gs)).vars = [])
  (hres:∀ (b:Nat) (sp:Nat → Bool) (hd:Bool),DataW.TrodAll enc P W' b sp hd f.resultTypes.toList (v.resultList f.resultTypes.size) (s.fn H (ds ++ gs)).results []) :
  s.post enc P f false true handsOn false W args v W':=by
 have hlt:∀ p ∈ before,p.block < W.heap.size:=fun p hp=>hW.lt p hp
 obtain ⟨p,q,hA,hV,rfl,_,_⟩:=id hW
 rw [hv] at hV
 obtain ⟨rfl,rfl⟩:=trodVars_none hV
 refine ⟨ds,[],_,[],p,[],hW,hres _ _ _,?_,?_,hs.keptBut _,fun h=>by cases h⟩
 ·rw [hargs]
  exact qeH hl hs hpar hA (fun x hx=>hlt x (List.mem_append_left _ hx))
 rw [hvars,hv]; exact rfl
end
end Go.Proofs.YtdlaobdadlmcdaaGreatDoor.ME
namespace Go.Proofs.YtdlaobdadlmcdaaGreatDoor.ME
open Go
open Go.RowKit
set_option linter.unusedVariables false
set_option linter.unusedSimpArgs false
set_option maxRecDepth 20000
def bs (s:Bs):ByteArray:=⟨s.toArray⟩
theorem qlW (s:Bs):sb (bs s) = s:=by simp [sb,bs]
theorem qgq (s:Bs):(bs s).size = s.length:=by simp [bs,ByteArray.size]
section
variable {P:Program} {n:Nat} {w0:World} {A0:Option Addr} {e8 d:Nat} {tb:Tb} {env e1 env':Env} {c c1 c2:Code} {x x1 x2 y:Bs}
end
section
variable {P:Program} {ops:Array Oper} {Q:Exit → Act → World → Prop} {n:Nat} {tb:Tb} {env:Env} {rs:List Rw} {w0:World} {M:Nat → Nat → Prop} {a:Act} {w:World}
def qkh (tb:Tb) (env:Env) (ops:Array Oper) (n i:Nat):Option (TypeId × TypeId × Value × Nat) :=
 match opAt env ops n i with
 | some (.convert src dst x,d)=>match opd env x with
  | some (.v v)=>some (src,dst,v,d)
  | _=>none
 | _=>none
theorem qhg {i d:Nat} {src dst e c:Nat} {A:Option Addr} {s:Bs} {F:Nat → Nat → Prop} {N:Act → World → Prop} (hE:EnvOk n tb env a) (h:qkh tb env ops n i = some (src,dst,.slice A s.length c,d)) (hs:P.underlying src = some (.slice e)) (he:P.underlying e = some (.int .u8)) (hd:P.underlying dst = some .string)
  (ho:Octs w F A c s) (K:∀ a',EnvOk n tb ((d,.v (.string (bs s))) :: env) a' → N a' w):wpOp P ops Q i N a w:=by
 unfold qkh at h
 split at h
 ·rename_i src' dst' x d' hop
  split at h
  ·rename_i v hx
   simp only [Option.some.injEq,Prod.mk.injEq] at h
   obtain ⟨rfl,rfl,rfl,rfl⟩:=h
   have hdn:=(qbD hE hop).choose_spec.2.2.2.1
   have hrun:(convert src' dst' (.slice A s.length c)).run P w = .ok (.string (bs s)) w:=by
    have hsrc:=ho.src
    cases A with
    | none =>
     have h0:s = []:=List.eq_nil_of_length_eq_zero (ho.none_ rfl).1
     subst h0
     exact run_convert_bytes_nil w src' e hs he _ _ dst' hd
    | some ad =>
     have hl:(loadCells ad s.length).run P w = .ok ((s.map fun b=>((b.toNat:Nat):Int)).map (Value.int .u8)).toArray w:=by
      have:=run_loadCells_list (P:=P) w ad (bc s) (fun j v hj=>hsrc.cells ad rfl j v hj)
      rw [show (bc s).length = s.length from by simp [bc]] at this
      rw [this]
      simp [bc]
     rw [run_convert_bytes_string w src' dst' e _ s.length c hs he hd,run_bytesToString w _ s.length c _ hl,foldl_push_bytes]
     congr 2
     simp only [bs,ByteArray.empty,ByteArray.emptyWithCapacity]
     have e3:(s.map fun b=>((b.toNat:Nat):Int)).map (fun n=>UInt8.ofNat n.toNat) = s:=by
      rw [List.map_map]
      conv=>rhs; rw [← List.map_id s]
      exact List.map_congr_left fun b _=>by simp
     rw [e3]
     simp
     rfl
   refine qbh hE hop (v:=.string (bs s)) (w':=w) ?_ (K _ (hE.put hdn (.v _) trivial))
   intro o ho'
   unfold execOp
   rw [ho']
   simp only [(qbb hE hx).1,SV.val,Sem.run_bind,hrun,Result.andThen_ok,Sem.run_pure]
  cases h
 cases h
end
theorem uv0:uv 0 = [0]:=by rw [uv]; rfl
section
variable {P:Program} {n:Nat} {w0:World} {A0:Option Addr} {e8 d:Nat} {tb:Tb} {env e1 env':Env} {c c1 c2:Code} {x x1 x2 y:Bs}
end
def lst (t:Tree):List Tree:=if t.null then [] else t.L
def qaW (w:World) (F:Nat → Nat → Prop) (D:DV):Prop:=((D.f 0).s.size ≤ 1000000) ∧ (Slots w F 1 (D.f 1).A (D.f 1).c (D.f 1).l (fun i=>[.int .i32 (((D.f 1).f i).n)]) ∧ (D.f 1).l ≤ 1000000 ∧ ∀ i,i < (D.f 1).l → True) ∧ MapR w F D.m D.u ∧ D.u.length ≤ 1000000 ∧ (∀ x ∈ D.u,x.2.length < 4294967296) ∧ True
def qaJ (w:World) (F:Nat → Nat → Prop) (D:DV):Prop:=((D.f 0).s.size ≤ 1000000) ∧ (Slots w F 1 (D.f 1).A (D.f 1).c (D.f 1).l (fun i=>[.int .i32 (((D.f 1).f i).n)]) ∧ (D.f 1).l ≤ 1000000 ∧ ∀ i,i < (D.f 1).l → True) ∧ MapR w F D.m D.u ∧ D.u.length ≤ 1000000 ∧ (∀ x ∈ D.u,x.2.length < 4294967296) ∧ True
def qaL (w:World) (F:Nat → Nat → Prop) (D:DV):Prop:=((D.f 0).s.size ≤ 1000000) ∧ (True) ∧ (True) ∧ (True) ∧ (Slots w F 3 (D.f 4).A (D.f 4).c (D.f 4).l (fun i=>[.string ((((D.f 4).f i).f 0).s),.slice ((((D.f 4).f i).f 1).A) ((((D.f 4).f i).f 1).l) ((((D.f 4).f i).f 1).c),.map (((D.f 4).f i).m)]) ∧ (D.f 4).l ≤ 1000000 ∧ ∀ i,i < (D.f 4).l → qaJ w F ((D.f 4).f i)) ∧ MapR w F D.m D.u ∧ D.u.length ≤ 1000000 ∧ (∀ x ∈ D.u,x.2.length < 4294967296) ∧ True
def qbj (w:World) (F:Nat → Nat → Prop) (D:DV):Prop:=((D.f 0).s.size ≤ 1000000) ∧ (True) ∧ (True) ∧ (Slots w F 3 (D.f 3).A (D.f 3).c (D.f 3).l (fun i=>[.string ((((D.f 3).f i).f 0).s),.slice ((((D.f 3).f i).f 1).A) ((((D.f 3).f i).f 1).l) ((((D.f 3).f i).f 1).c),.map (((D.f 3).f i).m)]) ∧ (D.f 3).l ≤ 1000000 ∧ ∀ i,i < (D.f 3).l → qaW w F ((D.f 3).f i)) ∧ (Slots w F 6 (D.f 4).A (D.f 4).c (D.f 4).l (fun i=>[.string ((((D.f 4).f i).f 0).s),.int .i64 ((((D.f 4).f i).f 1).n),.int .i16 ((((D.f 4).f i).f 2).n),.bool ((((D.f 4).f i).f 3).b),.slice ((((D.f 4).f i).f 4).A) ((((D.f 4).f i).f 4).l) ((((D.f 4).f i).f 4).c),.map (((D.f 4).f i).m)]) ∧ (D.f 4).l ≤ 1000000 ∧ ∀ i,i < (D.f 4).l → qaL w F ((D.f 4).f i)) ∧ MapR w F D.m D.u ∧ D.u.length ≤ 1000000 ∧ (∀ x ∈ D.u,x.2.length < 4294967296) ∧ True
def qaj (v:Int) (T:Tree):Bs:=(if ((if (decide (v ≥ 0)) = true then decide (v ≤ 3) else false)) = true then if (decide (v ≥ 3)) = true then (uv ((T.at_ 0).S.length + 1) ++ (T.at_ 0).S) else (be 2 (T.at_ 0).S.length ++ (T.at_ 0).S) else []) ++ ((if ((if (decide (v ≥ 0)) = true then decide (v ≤ 3) else false)) = true then be 8 ((T.at_ 1).N) else []) ++ ((if ((if (decide (v ≥ 0)) = true then decide (v ≤ 3) else false)) = true then be 2 ((IntKind.i16.wrap (T.at_ 2).N)) else []) ++ ((if ((if (decide (v ≥ 0)) = true then decide (v ≤ 3) else false)) = true then (if (decide (v ≥ 3)) = true then (uv ((lst (T.at_ 3)).length + 1)) else (be 4 (lst (T.at_ 3)).length)) ++ ((lst (T.at_ 3)).flatMap fun ab=>(if (decide (v ≥ 3)) = true then (uv ((ab.at_ 0).S.length + 1) ++ (ab.at_ 0).S) else (be 2 (ab.at_ 0).S.length ++ (ab.at_ 0).S)) ++ (((if (decide (v ≥ 3)) = true then (uv ((lst (ab.at_ 1)).length + 1)) else (be 4 (lst (ab.at_ 1)).length)) ++ ((lst (ab.at_ 1)).flatMap fun ae=>be 4 ((IntKind.i32.wrap ae.N)))) ++ (if (decide (v ≥ 3)) = true then (uv ab.U.length) ++ (qct ab.U) else []))) else []) ++ ((if (decide (v ≥ 4)) = true then (if (decide (v ≥ 3)) = true then (uv ((lst (T.at_ 4)).length + 1)) else (be 4 (lst (T.at_ 4)).length)) ++ ((lst (T.at_ 4)).flatMap fun aa=>(if (decide (v ≥ 3)) = true then (uv ((aa.at_ 0).S.length + 1) ++ (aa.at_ 0).S) else (be 2 (aa.at_ 0).S.length ++ (aa.at_ 0).S)) ++ ((be 8 ((aa.at_ 1).N)) ++ ((be 2 ((IntKind.i16.wrap (aa.at_ 2).N))) ++ (([by8 (if (decide ((aa.at_ 3).N % 2 = 1)) then 1 else 0)]) ++ (((if (decide (v ≥ 3)) = true then (uv ((lst (aa.at_ 4)).length + 1)) else (be 4 (lst (aa.at_ 4)).length)) ++ ((lst (aa.at_ 4)).flatMap fun ac=>(if (decide (v ≥ 3)) = true then (uv ((ac.at_ 0).S.length + 1) ++ (ac.at_ 0).S) else (be 2 (ac.at_ 0).S.length ++ (ac.at_ 0).S)) ++ (((if (decide (v ≥ 3)) = true then (uv ((lst (ac.at_ 1)).length + 1)) else (be 4 (lst (ac.at_ 1)).length)) ++ ((lst (ac.at_ 1)).flatMap fun af=>be 4 ((IntKind.i32.wrap af.N)))) ++ (if (decide (v ≥ 3)) = true then (uv ac.U.length) ++ (qct ac.U) else [])))) ++ (if (decide (v ≥ 3)) = true then (uv aa.U.length) ++ (qct aa.U) else [])))))) else []) ++ ((if (decide (v ≥ 3)) = true then (uv T.U.length) ++ (qct T.U) else []) ++ ([]))))))
theorem qdE {v:Int} {d:Nat} {l:List Fld} {t:Tree} {i:Nat} {x1 x2 x3 x5 x6:Int} {s:List Fld} (h:l[i]? = some (.mk 11 x1 x2 x3 (-1) x5 x6 s)) :
  ((fitT v (d + 1) l t).at_ i).null = Fld.nul (.mk 11 x1 x2 x3 (-1) x5 x6 s) v (t.at_ i) ∧
  lst ((fitT v (d + 1) l t).at_ i) = (if Fld.nul (.mk 11 x1 x2 x3 (-1) x5 x6 s) v (t.at_ i) = true then [] else qaq (t.at_ i).L).map (fun x=>qbT (fitT v d) (.mk x6 x1 x2 (-1) (-1) x5 x6 s) (Fld.nul (.mk x6 x1 x2 (-1) (-1) x5 x6 s) v x) x):=by
 rw [qjn h]
 have e:qdn (fitT v d) v (.mk 11 x1 x2 x3 (-1) x5 x6 s) (t.at_ i) = .mk 0 [] (Fld.nul (.mk 11 x1 x2 x3 (-1) x5 x6 s) v (t.at_ i)) ((qaq (t.at_ i).L).map (fun x=>qbT (fitT v d) (.mk x6 x1 x2 (-1) (-1) x5 x6 s) (Fld.nul (.mk x6 x1 x2 (-1) (-1) x5 x6 s) v x) x)) []:=by
  simp [qdn,Fld.kind,Fld.tag,Fld.elem]
 rw [e]
 refine ⟨rfl,?_⟩
 unfold lst
 show (if Fld.nul _ v (t.at_ i) = true then [] else _) = _
 split
 ·rfl
 rfl
theorem fit_10 {v:Int} {d:Nat} {x1 x2 x5 x6:Int} {s:List Fld} {b:Bool} {x:Tree}:(∀ i,(qbT (fitT v d) (.mk 10 x1 x2 (-1) (-1) x5 x6 s) b x).at_ i = (fitT v d s x).at_ i) ∧ (qbT (fitT v d) (.mk 10 x1 x2 (-1) (-1) x5 x6 s) b x).U = (fitT v d s x).U:=by
 cases hT:fitT v d s x with
 | mk n s' b' l u =>
  have e:qbT (fitT v d) (.mk 10 x1 x2 (-1) (-1) x5 x6 s) b x = .mk n s' b l u:=by
   simp [qbT,Fld.kind,Fld.sub,hT]
  rw [e]
  exact ⟨fun _=>rfl,rfl⟩
theorem qfg {v:Int} {d:Nat} {l:List Fld} {t:Tree} {i:Nat} {k x1 x2 x3 x4 x5 x6:Int} {s:List Fld} (h:l[i]? = some (.mk k x1 x2 x3 x4 x5 x6 s)) (hk:k = 8 ∨ k = 9) :
  ((fitT v (d + 1) l t).at_ i).S = qaH (t.at_ i).S:=by
 rw [qjn h]
 have e1:k ≠ 11:=by omega
 have e:qdn (fitT v d) v (.mk k x1 x2 x3 x4 x5 x6 s) (t.at_ i) = .mk 0 (qaH (t.at_ i).S) (Fld.nul (.mk k x1 x2 x3 x4 x5 x6 s) v (t.at_ i)) [] []:=by
  simp [qdn,qbT,Fld.kind,e1,hk]
 rw [e]
 rfl
theorem nul_no {k x1 x2 x4 x5 x6:Int} {s:List Fld} {v:Int} {t:Tree}:Fld.nul (.mk k x1 x2 (-1) x4 x5 x6 s) v t = false:=by
 cases t
 simp [Fld.nul]
theorem qgr {x:Int}:be 8 (((IntKind.u64.wrap x).toNat:Nat):Int) = be 8 x:=by
 rw [show (((IntKind.u64.wrap x).toNat:Nat):Int) = IntKind.u64.wrap x by rw [qaV]; omega,qj1]
theorem qki {x:Int}:by8 (if decide (x % 2 = 1) = true then 1 else 0) = by8 (x % 2):=by
 rcases Int.emod_two_eq x with h | h <;> simp [h]
def canU (u:List (Int × Bs)):Prop:=qdu u ∧ u.length ≤ 1000000 ∧ ∀ y ∈ u,y.2.length < 4294967296
theorem qfo {v:Int} {d:Nat} {l:List Fld} {t:Tree}:canU (fitT v d l t).U:=by
 rw [qgm]
 refine ⟨qgl (qfE _ _),?_,fun y hy=>?_⟩
 ·rw [qcL]; exact Nat.le_trans (qg6 _ _) (by decide)
 obtain ⟨x,_,rfl⟩:=List.mem_map.1 hy
 exact Nat.lt_of_le_of_lt (qbl _) (by decide)
theorem qhA {v:Int} {d:Nat} {l:List Fld} {t:Tree} {i:Nat} {x1 x2 x3 x5 x6:Int} {s:List Fld} {Q:Tree → Prop} (h:l[i]? = some (.mk 11 x1 x2 x3 (-1) x5 x6 s))
  (hq:∀ y,Q (qbT (fitT v d) (.mk x6 x1 x2 (-1) (-1) x5 x6 s) (Fld.nul (.mk x6 x1 x2 (-1) (-1) x5 x6 s) v y) y)):∀ x ∈ lst ((fitT v (d + 1) l t).at_ i),Q x:=by
 rw [(qdE h).2]
 intro x hx
 obtain ⟨y,_,rfl⟩:=List.mem_map.1 hx
 exact hq y
theorem qfI {v:Int} {d:Nat} {l:List Fld} {t:Tree} {i:Nat} {x1 x2 x3 x5 x6:Int} {s:List Fld} (h:l[i]? = some (.mk 11 x1 x2 x3 (-1) x5 x6 s)):(lst ((fitT v (d + 1) l t).at_ i)).length ≤ 32767:=by
 rw [(qdE h).2,List.length_map]
 split
 ·exact Nat.zero_le _
 simp only [qaq,List.length_take]; omega
def Tree.ranged:Tree → Prop
 | .mk _ _ _ l u=>(∀ x ∈ u,0 ≤ x.1 ∧ x.1 < 4294967296) ∧ rangeds l
where rangeds:List Tree → Prop
 | []=>True
 | t :: r=>t.ranged ∧ rangeds r
abbrev rangeds:=Tree.ranged.rangeds
theorem qfJ:∀ {l:List Tree},rangeds l → ∀ x ∈ l,x.ranged
 | [],_,x,h=>by cases h
 | t :: r,hr,x,h=>by
  rcases List.mem_cons.1 h with rfl | h
  ·exact hr.1
  exact qfJ (l:=r) hr.2 x h
theorem qd6:∀ {l:List Tree},(∀ x ∈ l,x.ranged) → rangeds l
 | [],_=>trivial
 | t :: r,h=>⟨h t (List.mem_cons_self ..),qd6 (l:=r) fun x hx=>h x (List.mem_cons_of_mem _ hx)⟩
theorem qfK:Tree.zero.ranged:=⟨fun x h=>(by cases h),trivial⟩
theorem qeI {t:Tree} (h:t.ranged):∀ x ∈ t.U,0 ≤ x.1 ∧ x.1 < 4294967296:=by cases t; exact h.1
theorem qgs {t:Tree} (h:t.ranged):∀ x ∈ t.L,x.ranged:=by cases t; exact qfJ h.2
theorem qeJ {t:Tree} (h:t.ranged) (i:Nat):(t.at_ i).ranged:=by
 unfold Tree.at_
 rw [List.getD_eq_getElem?_getD]
 cases hx:t.L[i]? with
 | none=>exact qfK
 | some x=>exact qgs h x (List.mem_of_getElem? hx)
theorem qe7 {t:Tree} (h:t.ranged):∀ x ∈ lst t,x.ranged:=fun x hx=>by
 unfold lst at hx
 split at hx
 ·cases hx
 exact qgs h x hx
theorem TreeR.ranged {w:World} {F:Nat → Nat → Prop} {cs:List Value} {t:Tree} (h:TreeR w F cs t):t.ranged:=by
 induction h with
 | @mk n s b l u A1 A2 A3 c1 c2 c3 cs h1 h2 h3 h4 ih =>
  refine ⟨fun x hx=>qiq h4 x hx,qd6 fun x hx=>?_⟩
  obtain ⟨i,hi⟩:=List.mem_iff_getElem?.1 hx
  exact ih i x hi
theorem qiz (v:Int):∀ (d:Nat) (l:List Fld) (t:Tree),t.ranged → (fitT v d l t).ranged:=by
 have core:∀ (W:Fld → Tree → Tree) (l:List Fld) (t:Tree),t.ranged → (∀ f x,x.ranged → (W f x).ranged) → (fitW W l t).ranged:=by
  intro W l t ht hW
  refine ⟨fun x hx=>?_,qd6 ?_⟩
  ·obtain ⟨y,hy,rfl⟩:=List.mem_map.1 hx
   exact qeI ht y (qg7 y hy)
  have:∀ (l:List Fld) (i:Nat),∀ x ∈ qhp W l t i,x.ranged:=by
   intro l
   induction l with
   | nil=>intro i x hx; cases hx
   | cons f r ih =>
    intro i x hx
    rcases List.mem_cons.1 hx with rfl | hx
    ·exact hW f _ (qeJ ht i)
    exact ih (i + 1) x hx
  exact this l 0
 have f0:∀ (p:List Fld → Tree → Tree),(∀ l x,x.ranged → (p l x).ranged) → ∀ (f:Fld) (b:Bool) (x:Tree),x.ranged → (qbT p f b x).ranged:=by
  intro p hp f b x hx
  unfold qbT
  split
  ·exact ⟨fun x h=>(by cases h),trivial⟩
  split
  ·have:=hp f.sub x hx
   generalize p f.sub x = y at this
   cases y; exact this
  exact ⟨fun x h=>(by cases h),trivial⟩
 intro d
 induction d with
 | zero=>intro l t ht; exact core _ l t ht fun _ _ _=>qfK
 | succ d ih =>
  intro l t ht
  refine core _ l t ht fun f x hx=>?_
  unfold qdn
  split
  ·refine ⟨fun x h=>(by cases h),qd6 fun y hy=>?_⟩
   obtain ⟨z,hz,rfl⟩:=List.mem_map.1 hy
   exact f0 _ ih _ _ _ (qgs hx z (by unfold qaq at hz; exact List.mem_of_mem_take hz))
  exact f0 _ ih _ _ _ hx
abbrev z7 (x0) (x1) (x2) (x3) (x4) (x5) (x6) (x7) (x8) (x9):=([.int .i64 x0,.int .i64 x1,.int .i64 x2,.int .i64 x3,.int .i64 x4,.int .i64 x5,.int .i64 x6,.slice x7 x8 x9]:List Value)
theorem sHas (k x1 x2 x3 x4 x5 x6:Int) (fs:List Fld) (AF:Option Addr) (cF:Nat) (v:Int) (w:World) :
  Calls Tryz.prog 31 #[.agg #[.int .i64 k,.int .i64 x1,.int .i64 x2,.int .i64 x3,.int .i64 x4,.int .i64 x5,.int .i64 x6,.slice AF fs.length cF],.int .i64 v] w (qcs w (.bool (Fld.has (Fld.mk k x1 x2 x3 x4 x5 x6 fs) v))):=by
 refine enter (n:=20) Tryz.func31 rfl Tryz.ntmps31 kz fun a hE=>?_
 have hW:=WOk.start w Nil
 refine qaf [0,1] kz ?_
 refine qal (qbq hW hE (d:=2) (cs:=(z7 k x1 x2 x3 x4 x5 x6 AF fs.length cF)) kz fun b1 a2 w3 hb4 hz5 hF6 hW7 hE8=>?_)
 refine qai [1] [] [(1,.v (.int .i64 v)),(2,.p 0 0)] hW7 hE8 fun a9 af=>?_
 refine qae (qab ?_)
 refine qaf [0,1,2,3,4,5,6,7,8,9,10,11,12,13,14,15] kz ?_
 refine qai [0,1,2,3,4] [5,6,7,8,9,10,11,12,13,14,15] [(1,.v (.int .i64 v)),(2,.p 0 0),(9,.v (.bool (decide (x1 ≤ v))))] hW7 af fun av ac=>?_
 refine (zO (decide (x1 ≤ v))).elim (fun aa=>?_) (fun aa=>?_)
 ·
  have ao:=zD aa
  have ag:=ac
  rw [aa] at ag
  refine qai [5,6,7,8] [9,10,11,12,13,14,15] [(1,.v (.int .i64 v)),(2,.p 0 0),(9,.v (.bool true)),(13,.v (.bool (decide (x2 < 0))))] hW7 ag fun aw ae=>?_
  refine (zO (decide (x2 < 0))).elim (fun ab=>?_) (fun ab=>?_)
  ·
   have ap:=zD ab
   have ah:=ae
   rw [ab] at ah
   refine qai [9,10,11,12,13,14,15] [] [(4,.v (.bool true))] hW7 ah fun ax ai=>?_
   refine qae (qab ?_)
   refine wp_ret (qaM ai hW7.cells (v:=.bool true) kz ?_)
   exact ⟨by simp only [Fld.has,aa,ab,Bool.true_and,Bool.and_true,Bool.false_and,Bool.and_false,Bool.true_or,Bool.false_or,Bool.or_true,Bool.or_false],hW7.step⟩
  have ar:=zF ab
  have aj:=ae
  rw [ab] at aj
  refine qai [9,10,11,12,13,14,15] [] [(4,.v (.bool (decide (v ≤ x2))))] hW7 aj fun ay ak=>?_
  refine qae (qab ?_)
  refine wp_ret (qaM ak hW7.cells (v:=.bool (decide (v ≤ x2))) kz ?_)
  exact ⟨by simp only [Fld.has,aa,ab,Bool.true_and,Bool.and_true,Bool.false_and,Bool.and_false,Bool.true_or,Bool.false_or,Bool.or_true,Bool.or_false],hW7.step⟩
 have au:=zF aa
 have al:=ac
 rw [aa] at al
 refine qai [5,6,7,8,9,10,11,12,13,14,15] [] [(4,.v (.bool false))] hW7 al fun az am=>?_
 refine qae (qab ?_)
 refine wp_ret (qaM am hW7.cells (v:=.bool false) kz ?_)
 exact ⟨by simp only [Fld.has,aa,Bool.true_and,Bool.and_true,Bool.false_and,Bool.and_false,Bool.true_or,Bool.false_or,Bool.or_true,Bool.or_false],hW7.step⟩
abbrev z4 (x0) (x1) (x2) (x3) (x4) (x5) (x6) (x7) (x8) (x9) (x10) (x11) (x12) (x13):=(Fld.nul (Fld.mk x0 x1 x2 x3 x4 x5 x6 x7) x8 (Tree.mk x9 x10 x11 x12 x13))
abbrev z1 (x0) (x1) (x2) (x3) (x4) (x5) (x6) (x7) (x8) (x9) (x10):=([.int .i64 x0,.slice x1 x2 x3,.bool x4,.slice x5 x6 x7,.slice x8 x9 x10]:List Value)
theorem qk7 (k x1 x2 x3 x4 x5 x6:Int) (fs:List Fld) (AF:Option Addr) (cF:Nat) (v:Int) (n:Int) (s:Bs) (b:Bool) (l:List Tree) (u:List (Int × Bs)) (A1:Option Addr) (c1:Nat) (A2:Option Addr) (c2:Nat) (A3:Option Addr) (c3:Nat) (w:World) :
  Calls Tryz.prog 67 #[.agg #[.int .i64 k,.int .i64 x1,.int .i64 x2,.int .i64 x3,.int .i64 x4,.int .i64 x5,.int .i64 x6,.slice AF fs.length cF],.int .i64 v,.agg #[.int .i64 n,.slice A1 s.length c1,.bool b,.slice A2 l.length c2,.slice A3 u.length c3]] w (qcs w (.bool (z4 k x1 x2 x3 x4 x5 x6 fs v n s b l u))):=by
 refine enter (n:=20) Tryz.func67 rfl Tryz.ntmps67 kz fun a hE=>?_
 have hW:=WOk.start w Nil
 refine qaf [0,1,2] kz ?_
 refine qal (qbq hW hE (d:=3) (cs:=(z7 k x1 x2 x3 x4 x5 x6 AF fs.length cF)) kz fun b1 a2 w3 hb4 hz5 hF6 hW7 hE8=>?_)
 refine qal (qbq hW7 hE8 (d:=5) (cs:=(z1 n A1 s.length c1 b A2 l.length c2 A3 u.length c3)) kz fun b9 ay az ar au av aa ag=>?_)
 refine qai [2] [] [(1,.v (.int .i64 v)),(3,.p 0 0),(5,.p 1 0)] aa ag fun aA ah=>?_
 refine qae (qab ?_)
 refine qaf [0,1,2,3,4,5,6,7,8,9,10,11,12,13] kz ?_
 refine qai [0,1,2] [3,4,5,6,7,8,9,10,11,12,13] [(1,.v (.int .i64 v)),(3,.p 0 0),(9,.v (.bool b))] aa ah fun aB ae=>?_
 refine (zO (b)).elim (fun ac=>?_) (fun ac=>?_)
 ·
  have ai:=ae.cast (env':=[(1,.v (.int .i64 v)),(3,.p 0 0),(9,.v (.bool true))]) (by rw [ac])
  refine qai [3,4,5,6,7] [8,9,10,11,12,13] [(1,.v (.int .i64 v)),(3,.p 0 0),(14,.v (.bool (decide (x3 ≥ 0))))] aa ai fun aC af=>?_
  refine (zO (decide (x3 ≥ 0))).elim (fun ab=>?_) (fun ab=>?_)
  ·
   have aw:=zD ab
   have aj:=af
   rw [ab] at aj
   refine qai [8,9,10,11,12,13] [] [(6,.v (.bool (decide (v ≥ x3))))] aa aj fun aD ak=>?_
   refine qae (qab ?_)
   refine wp_ret (qaM ak aa.cells (v:=.bool (decide (v ≥ x3))) kz ?_)
   exact ⟨by simp only [Fld.nul,ac,ab,Bool.true_and,Bool.and_true,Bool.false_and,Bool.and_false,Bool.true_or,Bool.false_or,Bool.or_true,Bool.or_false],aa.step⟩
  have ax:=zF ab
  have al:=af
  rw [ab] at al
  refine qai [8,9,10,11,12,13] [] [(6,.v (.bool false))] aa al fun aE am=>?_
  refine qae (qab ?_)
  refine wp_ret (qaM am aa.cells (v:=.bool false) kz ?_)
  exact ⟨by simp only [Fld.nul,ac,ab,Bool.true_and,Bool.and_true,Bool.false_and,Bool.and_false,Bool.true_or,Bool.false_or,Bool.or_true,Bool.or_false],aa.step⟩
 have ao:=ae.cast (env':=[(1,.v (.int .i64 v)),(3,.p 0 0),(9,.v (.bool false))]) (by rw [ac])
 refine qai [3,4,5,6,7,8,9,10,11,12,13] [] [(6,.v (.bool false))] aa ao fun aF ap=>?_
 refine qae (qab ?_)
 refine wp_ret (qaM ap aa.cells (v:=.bool false) kz ?_)
 exact ⟨by simp only [Fld.nul,ac,Bool.true_and,Bool.and_true,Bool.false_and,Bool.and_false,Bool.true_or,Bool.false_or,Bool.or_true,Bool.or_false],aa.step⟩
theorem qjy (k:Int) (w:World):Calls Tryz.prog 66 #[.int .i64 k] w (qcs w (.int .i64 ((qbH k:Nat):Int))):=by
 refine enter (n:=11) Tryz.func66 rfl Tryz.ntmps66 kz fun a hE=>?_
 have hW:=WOk.start w Nil
 refine qas [(0,.v (.int .i64 k))] hW hE fun a1 hE2=>?_
 refine wp_seq (qas [(3,.v (.int .i64 k))] hW hE2 fun a3 hE4=>?_)
 refine wp_block (qas [(3,.v (.int .i64 k)),(4,.v (.bool (k == 1)))] hW hE4 fun a5 hE6=>?_)
 refine qaw hE6 (b:=k == 1) kz (fun hc7=>?_) (fun hc7=>?_)
 ·
  have hf8:k = 1:=by simpa using hc7
  refine qas [(2,.v (.int .i64 1))] hW hE6 fun a9 ah=>?_
  refine wp_ret (qay (qat (qaM ah hW.cells (v:=.int .i64 1) kz ?_)))
  exact ⟨by simp_all [qbH],hW.step⟩
 have am:k ≠ 1:=by simpa using hc7
 refine wp_seq (qas [(3,.v (.int .i64 k)),(6,.v (.bool (k == 2)))] hW hE6 fun ax aa=>?_)
 refine qaw aa (b:=k == 2) kz (fun ab=>?_) (fun ab=>?_)
 ·
  have ao:k = 2:=by simpa using ab
  refine wp_skip (qab (qa7 aa (b:=k == 2) kz (ab) ?_))
  refine qas [(2,.v (.int .i64 2))] hW aa fun ay ai=>?_
  refine wp_ret (qay (qat (qaM ai hW.cells (v:=.int .i64 2) kz ?_)))
  exact ⟨by simp_all [qbH],hW.step⟩
 have ap:k ≠ 2:=by simpa using ab
 refine qap [0,1] kz ?_
 refine qai [0,1] [] [(3,.v (.int .i64 k)),(6,.v (.bool (k == 5)))] hW aa fun az ac=>?_
 refine qae (qab ?_)
 refine qaw ac (b:=k == 5) kz (fun ae=>?_) (fun ae=>?_)
 ·
  have ar:k = 5:=by simpa using ae
  refine qas [(2,.v (.int .i64 2))] hW ac fun aA aj=>?_
  refine wp_ret (qay (qat (qaM aj hW.cells (v:=.int .i64 2) kz ?_)))
  exact ⟨by simp_all [qbH],hW.step⟩
 have au:k ≠ 5:=by simpa using ae
 refine qas [(9,.v (.bool (k == 3)))] hW ac fun aB af=>?_
 refine qaw af (b:=k == 3) kz (fun ag=>?_) (fun ag=>?_)
 ·
  have av:k = 3:=by simpa using ag
  refine qas [(2,.v (.int .i64 4))] hW af fun aC ak=>?_
  refine wp_ret (qay (qat (qaM ak hW.cells (v:=.int .i64 4) kz ?_)))
  exact ⟨by simp_all [qbH],hW.step⟩
 have aw:k ≠ 3:=by simpa using ag
 refine wp_skip (qar (qab (qas [(2,.v (.int .i64 8))] hW af fun aD al=>?_)))
 refine wp_ret (qaM al hW.cells (v:=.int .i64 8) kz ?_)
 exact ⟨by simp_all [qbH],hW.step⟩
abbrev z67 (x0) (x1) (x2):=([(0,.v (.slice x0 x1 x2))]:Env)
theorem qdN (A:Option Addr) (c:Nat) (s:Bs) (hc:s.length ≤ c) (w:World) :
  Calls Tryz.prog 37 #[.slice A s.length c] w (qcs w (.slice A (qaH s).length c)):=by
 refine enter (n:=8) Tryz.func37 rfl Tryz.ntmps37 kz fun a hE=>?_
 have hW:=WOk.start w Nil
 refine qas (z67 A s.length c) hW hE fun a1 hE2=>?_
 refine qaf [0,1,2,3,4,5] kz ?_
 refine qai [0,1,2,3] [4,5] [(3,.v (.slice A s.length c)),(6,.v (.int .i64 (if 32767 < ((s.length:Nat):Int) then 32767 else ((s.length:Nat):Int))))] hW hE2 fun a3 hE4=>?_
 refine qal (qdy hE4 (t:=22) (A:=A) (m:=s.length) (cp:=c) (q:=(if 32767 < ((s.length:Nat):Int) then 32767 else ((s.length:Nat):Int))) (d:=7) (j:=(qaH s).length) kz (e:=5) (size:=1) (bytes:=1) kz (by simpa [qaH] using qho s.length) (by simp only [qaH,List.length_take]; omega) fun a5 hE6=>?_)
 refine qai [5] [] [(2,.v (.slice A ((qaH s).length) c))] hW hE6 fun a7 hE8=>?_
 refine qae (qab ?_)
 refine wp_ret (qaM hE8 hW.cells (v:=.slice A ((qaH s).length) c) kz ?_)
 exact ⟨rfl,hW.step⟩
theorem qgt (A:Option Addr) (c:Nat) (s:List Tree) (hc:s.length ≤ c) (w:World) :
  Calls Tryz.prog 68 #[.slice A s.length c] w (qcs w (.slice A (qaq s).length c)):=by
 refine enter (n:=8) Tryz.func68 rfl Tryz.ntmps68 kz fun a hE=>?_
 have hW:=WOk.start w Nil
 refine qas (z67 A s.length c) hW hE fun a1 hE2=>?_
 refine qaf [0,1,2,3,4,5] kz ?_
 refine qai [0,1,2,3] [4,5] [(3,.v (.slice A s.length c)),(6,.v (.int .i64 (if 32767 < ((s.length:Nat):Int) then 32767 else ((s.length:Nat):Int))))] hW hE2 fun a3 hE4=>?_
 refine qal (qdy hE4 (t:=23) (A:=A) (m:=s.length) (cp:=c) (q:=(if 32767 < ((s.length:Nat):Int) then 32767 else ((s.length:Nat):Int))) (d:=7) (j:=(qaq s).length) kz (e:=26) (size:=5) (bytes:=88) kz (by simpa [qaq] using qho s.length) (by simp only [qaq,List.length_take]; omega) fun a5 hE6=>?_)
 refine qai [5] [] [(2,.v (.slice A ((qaq s).length) c))] hW hE6 fun a7 hE8=>?_
 refine qae (qab ?_)
 refine wp_ret (qaM hE8 hW.cells (v:=.slice A ((qaq s).length) c) kz ?_)
 exact ⟨rfl,hW.step⟩
theorem qer (A A':Option Addr) (c c':Nat) (s t:Bs) (w:World) (F:Nat → Nat → Prop) (hs:Octs w F A c s) (ht:Octs w F A' c' t) :
  Calls Tryz.prog 36 #[.slice A s.length c,.slice A' t.length c'] w (qcs w (.bool (decide (s = t)))):=by
 refine enter (n:=26) Tryz.func36 rfl Tryz.ntmps36 kz fun a hE=>?_
 have hW:=WOk.start w Nil
 have hl:=Slots.small hs
 refine qas [(0,.v (.slice A s.length c)),(1,.v (.slice A' t.length c'))] hW hE fun a1 hE2=>?_
 refine wp_seq (qas [(0,.v (.slice A s.length c)),(1,.v (.slice A' t.length c')),(10,.v (.bool (((s.length:Nat):Int) != ((t.length:Nat):Int))))] hW hE2 fun a3 hE4=>?_)
 refine qaw hE4 (b:=((s.length:Nat):Int) != ((t.length:Nat):Int)) kz (fun hc5=>?_) (fun hc5=>?_)
 ·
  have hf6:((s.length:Nat):Int) ≠ ((t.length:Nat):Int):=by simpa using hc5
  refine qas [(4,.v (.bool false))] hW hE4 fun a7 hE8=>?_
  refine wp_ret (qat (qaM hE8 hW.cells (v:=.bool false) kz ?_))
  exact ⟨by first | rw [← qgh hq (by omega) hlen] | rw [← qhq ‹_›] | rw [← qgg ‹_›],hW.step⟩
 have hf9:((s.length:Nat):Int) = ((t.length:Nat):Int):=by simpa using hc5
 refine wp_skip (qab (wp_seq (qas [(0,.v (.slice A s.length c)),(1,.v (.slice A' t.length c')),(12,.v (.int .i64 ((s.length:Nat):Int))),(13,.v (.int .i64 0))] hW hE4 fun aP ak=>?_)))
 refine wp_block ?_
 have hlen:s.length = t.length:=by omega
 refine wp_loop_ghost (fun n_ a_ w_=>∃ (k:Nat),n_ = s.length - k ∧ k ≤ s.length ∧ (s.take k = t.take k) ∧ LInv hW 26 [] [] [(0,.v (.slice A s.length c)),(1,.v (.slice A' t.length c')),(12,.v (.int .i64 ((s.length:Nat):Int))),(13,.v (.int .i64 ((k:Nat):Int)))] a_ w_) (s.length) ⟨0,by omega,by omega,rfl,ak.pk,hW,Fr.refl _ _ _⟩ ?_
 rintro aQ aR aS ⟨k,aD,aE,hq,al,ab,am⟩
 refine qas [(0,.v (.slice A s.length c)),(1,.v (.slice A' t.length c')),(12,.v (.int .i64 ((s.length:Nat):Int))),(13,.v (.int .i64 ((k:Nat):Int))),(14,.v (.bool (decide (((k:Nat):Int) < ((s.length:Nat):Int)))))] ab al fun aT ac=>?_
 refine wp_seq (qaw ac (b:=decide (((k:Nat):Int) < ((s.length:Nat):Int))) kz (fun ae=>?_) (fun ae=>?_))
 ·
  have aF:=zD ae
  refine wp_skip (qab (wp_seq (wp_block (qas [(0,.v (.slice A s.length c)),(1,.v (.slice A' t.length c')),(5,.v (.int .i64 ((k:Nat):Int))),(12,.v (.int .i64 ((s.length:Nat):Int))),(13,.v (.int .i64 ((k:Nat):Int)))] ab ac fun aU ao=>?_))))
  refine qcb kz ab fun aV ap aa=>?_
  refine qaB [0,1,4,5] [(0,.v (.slice A s.length c)),(1,.v (.slice A' t.length c')),(12,.v (.int .i64 ((s.length:Nat):Int))),(13,.v (.int .i64 ((k:Nat):Int))),(16,.v (.slice A s.length c)),(17,.v (.int .i64 ((k:Nat):Int))),(20,.v (.slice A' t.length c')),(21,.v (.int .i64 ((k:Nat):Int)))] 5 (qaa (qac (qaa (qaa (qac (qaa qad)))))) (fun _ h=>h ▸ aa.cells) rfl ao fun aW ar=>?_
  obtain ⟨aG,aH,au,aI,ah⟩:=Slots.get hs (i:=k) (by omega)
  refine qaD ar (i:=2) (t:=22) (A:=A) (m:=s.length) (q:=((k:Nat):Int)) (d:=18) kz (e:=5) (size:=1) (bytes:=1) kz au rfl (by omega) kz kz (qaa (qac (qaa (qaa (qac (qaa qad)))))) rfl fun aX av=>?_
  refine qa0 av (i:=3) (t:=5) (b:=aG) (o:=aH + k * 1) (d:=19) kz (cs:=[.int .u8 ((s.getD k 0).toNat:Int)]) (v:=.int .u8 ((s.getD k 0).toNat:Int)) kz (fun w' h'=>h' ▸ (AtF.move ah aa.step nilM qa9).at_) kz kz (qaa (qac (qaa (qaa (qac (qaa qad)))))) rfl fun aY aw=>?_
  obtain ⟨aJ,aK,ax,aL,ai⟩:=Slots.get ht (i:=k) (by omega)
  refine qaD aw (i:=6) (t:=22) (A:=A') (m:=t.length) (q:=((k:Nat):Int)) (d:=22) kz (e:=5) (size:=1) (bytes:=1) kz ax rfl (by omega) kz kz (qaa (qac (qaa (qaa (qac (qaa qad)))))) rfl fun aZ ay=>?_
  refine qa0 ay (i:=7) (t:=5) (b:=aJ) (o:=aK + k * 1) (d:=23) kz (cs:=[.int .u8 ((t.getD k 0).toNat:Int)]) (v:=.int .u8 ((t.getD k 0).toNat:Int)) kz (fun w' h'=>h' ▸ (AtF.move ai aa.step nilM qa9).at_) kz kz (qaa (qac (qaa (qaa (qac (qaa qad)))))) rfl fun ba az=>?_
  refine qaB [8] [(0,.v (.slice A s.length c)),(1,.v (.slice A' t.length c')),(12,.v (.int .i64 ((s.length:Nat):Int))),(13,.v (.int .i64 ((k:Nat):Int))),(24,.v (.bool (((s.getD k 0).toNat:Int) != ((t.getD k 0).toNat:Int))))] 0 (qaa (qac (qaa (qaa (qac (qaa qad)))))) (fun _ h=>h ▸ aa.cells) rfl az fun bd af=>?_
  refine qaz kz ?_ _
  refine qab (qaw af (b:=((s.getD k 0).toNat:Int) != ((t.getD k 0).toNat:Int)) kz (fun ag=>?_) (fun ag=>?_))
  ·
   have aM:((s.getD k 0).toNat:Int) ≠ ((t.getD k 0).toNat:Int):=by simpa using ag
   refine qas [(4,.v (.bool false))] aa af fun bf aA=>?_
   refine wp_ret (qay (qat (qat (qay (qat (qaM aA aa.cells (v:=.bool false) kz ?_))))))
   exact ⟨by first | rw [← qgh hq (by omega) hlen] | rw [← qhq ‹_›] | rw [← qgg ‹_›],aa.step⟩
  have aN:((s.getD k 0).toNat:Int) = ((t.getD k 0).toNat:Int):=by simpa using ag
  refine wp_skip (qar (qab (qap [0,1] kz ?_)))
  refine qai [0,1] [] [(0,.v (.slice A s.length c)),(1,.v (.slice A' t.length c')),(12,.v (.int .i64 ((s.length:Nat):Int))),(13,.v (.int .i64 (IntKind.i64.wrap (((k:Nat):Int) + 1))))] aa af fun bg aj=>?_
  refine qae (qab ?_)
  have aB:IntKind.i64.wrap (((k:Nat):Int) + 1) = ((k + 1:Nat):Int):=qaO (by omega)
  rw [aB] at aj
  exact ⟨s.length - (k + 1),by omega,k + 1,rfl,by omega,qiT hq (by omega) hlen ‹_›,aj.pk,aa,(am.trans ap)⟩
 have aO:=zF ae
 refine wp_exit (qau (qau (qaI (qab (qas [(4,.v (.bool true))] ab ac fun bh aC=>?_)))))
 refine wp_ret (qaM aC ab.cells (v:=.bool true) kz ?_)
 exact ⟨by first | rw [← qgh hq (by omega) hlen] | rw [← qhq ‹_›] | rw [← qgg ‹_›],ab.step⟩
abbrev z0 :=([.int .i64 0,.slice none 0 0,.bool false,.slice none 0 0,.slice none 0 0]:List Value)
theorem sAt (ct:List Value) (t:Tree) (i:Nat) (w:World) (F:Nat → Nat → Prop) (ht:TreeR w F ct t) :
  Calls Tryz.prog 30 #[.agg ct.toArray,.int .i64 (i:Int)] w (qlr w F (t.at_ i)):=by
 obtain ⟨n1,s2,b3,l4,u5,A6,c7,A8,c9,aO,aP,aQ,rfl,rfl,aR,aJ,aS,bp⟩:=ht.open_
 have aK:=aR.small
 have aL:=aJ.small
 refine enter (n:=16) Tryz.func30 rfl Tryz.ntmps30 kz fun a hE=>?_
 have hW:=WOk.start w Nil
 refine qaf [0,1] kz ?_
 refine qal (qbq hW hE (d:=2) (cs:=(z1 n1 A6 s2.length c7 b3 A8 l4.length c9 aO u5.length aP)) kz fun bq bt bu aT aU aV az aA=>?_)
 refine qal (qaQ az aA (d:=4) (cs:=z0) kz fun bw bx bz aW aX aY aa aB=>?_)
 refine qae (qab ?_)
 refine wp_seq (qas [(1,.v (.int .i64 ((i:Nat):Int))),(2,.p 0 0),(4,.p 1 0),(9,.v (.bool (decide (((i:Nat):Int) < ((l4.length:Nat):Int)))))] aa aB fun bA ae=>?_)
 refine qaw ae (b:=decide (((i:Nat):Int) < ((l4.length:Nat):Int))) kz (fun af=>?_) (fun af=>?_)
 ·
  have aZ:=zD af
  refine qaf [0,1,2,3,4,5] kz ?_
  refine qai [0,1,2] [3,4,5] [(4,.p 1 0),(11,.v (.slice A8 l4.length c9)),(12,.v (.int .i64 ((i:Nat):Int)))] aa ae fun bB aC=>?_
  obtain ⟨ba,bd,aD,bf,ab⟩:=Slots.get aJ (i:=i) (by omega)
  obtain ⟨bg,ah⟩:∃ x,l4[i]? = some x:=⟨_,List.getElem?_eq_getElem (by omega)⟩
  have ag:=aS i bg ah
  obtain ⟨ak,al,am,ao,ap,ar,au,av,aw,ax,ay,bh,rfl,ac,bi,bj,bC,bD⟩:=ag.open_
  rw [ac] at ag
  have aM:=bi.small
  have aN:=bj.small
  rw [ac] at ab
  refine qal (qax aC (t:=23) (A:=A8) (m:=l4.length) (q:=((i:Nat):Int)) (d:=13) kz (e:=26) (size:=5) (bytes:=88) kz aD rfl (by omega) fun bE aE=>?_)
  refine qal (qaU aE (t:=26) (b:=ba) (o:=bd + i * 5) (d:=14) kz (cs:=(z1 ak ar al.length au am av ao.length aw ax ap.length ay)) (v:=.agg #[.int .i64 ak,.slice ar al.length au,.bool am,.slice av ao.length aw,.slice ax ap.length ay]) kz (AtF.move ab aa.step nilM qa9).at_ fun bF aF=>?_)
  refine qal (qao aa aF (oi:=1) (cs:=(z1 ak ar al.length au am av ao.length aw ax ap.length ay)) kz fun bG bk ai aG=>?_)
  refine qae (qab ?_)
  refine wp_ret (qat (qaM aG ai.cells (v:=.agg #[.int .i64 ak,.slice ar al.length au,.bool am,.slice av ao.length aw,.slice ax ap.length ay]) kz ?_))
  exact ⟨_,rfl,by rw [qkY ah]; exact ag,ai.step⟩
 have bn:=zF af
 refine wp_skip (qab (qaf [0,1] kz ?_))
 refine qai [0] [1] [(4,.p 1 0),(15,.v (.agg #[.int .i64 0,.slice none 0 0,.bool false,.slice none 0 0,.slice none 0 0]))] aa ae fun bH aH=>?_
 refine qal (qao aa aH (oi:=1) (cs:=z0) kz fun bI bo aj aI=>?_)
 refine qae (qab ?_)
 refine wp_ret (qaM aI aj.cells (v:=.agg #[.int .i64 0,.slice none 0 0,.bool false,.slice none 0 0,.slice none 0 0]) kz ?_)
 exact ⟨_,rfl,by rw [qkZ (by omega)]; exact TreeR.zero _ _,aj.step⟩
theorem qfL (x:Int) (size:Nat) (hsz:size ≤ 8) (w:World) :
  Calls Tryz.prog 65 #[.int .i64 x,.int .i64 ((size:Nat):Int)] w (qee w 5 (be size x)):=by
 refine enter (n:=22) Tryz.func65 rfl Tryz.ntmps65 kz fun a hE=>?_
 have hW:=WOk.start w Nil
 refine qas [(0,.v (.int .i64 x)),(1,.v (.int .i64 ((size:Nat):Int)))] hW hE fun a1 hE2=>?_
 refine qas [(0,.v (.int .i64 x)),(1,.v (.int .i64 ((size:Nat):Int))),(5,.v (.slice none 0 0))] hW hE2 fun a3 hE4=>?_
 refine wp_seq (qas [(0,.v (.int .i64 x)),(5,.v (.slice none 0 0)),(6,.v (.int .i64 (IntKind.i64.wrap (((size:Nat):Int) - 1))))] hW hE4 fun a5 hE6=>?_)
 refine wp_block ?_
 have hW7:=hW.addNil 5 1
 have hF8:=hW.frNil 5 1
 have aj:IntKind.i64.wrap (((size:Nat):Int) - 1) = ((size:Nat):Int) - 1 - ((0:Nat):Int):=by rw [wrap_i64 (by omega) (by omega)]; omega
 rw [aj] at hE6
 refine wp_loop_ghost (fun n_ a_ w_=>∃ (k:Nat) (A:Option Addr) (c:Nat),n_ = size - k ∧ k ≤ size ∧ LInv hW7 22 [] [brow A c 5 ((be size x).take k)] [(0,.v (.int .i64 x)),(5,.v (.slice A (((be size x).take k).length) c)),(6,.v (.int .i64 (((size:Nat):Int) - 1 - ((k:Nat):Int))))] a_ w_) (size) ⟨0,none,0,by omega,by omega,hE6.pk,hW7,Fr.refl _ _ _⟩ ?_
 rintro n9 aK aL ⟨k,A,c,aG,aH,ak,aa,al⟩
 refine wp_seq (qas [(0,.v (.int .i64 x)),(5,.v (.slice A (((be size x).take k).length) c)),(6,.v (.int .i64 (((size:Nat):Int) - 1 - ((k:Nat):Int)))),(10,.v (.bool (decide ((((size:Nat):Int) - 1 - ((k:Nat):Int)) ≥ 0))))] aa ak fun aM ae=>?_)
 refine qaw ae (b:=decide ((((size:Nat):Int) - 1 - ((k:Nat):Int)) ≥ 0)) kz (fun af=>?_) (fun af=>?_)
 ·
  have aI:=of_decide_eq_true af
  refine wp_skip (qab (wp_seq (wp_block (qap [0,1,2,3,4,5,6,7,8] kz ?_))))
  refine qai [0,1,2,3] [4,5,6,7,8] [(0,.v (.int .i64 x)),(6,.v (.int .i64 (((size:Nat):Int) - 1 - ((k:Nat):Int)))),(13,.v (.slice A (((be size x).take k).length) c)),(14,.v (.int .i64 x)),(16,.v (.int .i64 (IntKind.i64.wrap (8 * (((size:Nat):Int) - 1 - ((k:Nat):Int))))))] aa ae fun aN am=>?_
  refine qal (qjZ am (k:=.i64) (p:=x) (q:=(IntKind.i64.wrap (8 * (((size:Nat):Int) - 1 - ((k:Nat):Int))))) (d:=17) (j:=8 * (size - 1 - k)) kz (by rw [wrap_i64 (by omega) (by omega)]; omega) (by simp only [IntKind.bits]; omega) fun aO ao=>?_)
  refine qai [5] [6,7,8] [(0,.v (.int .i64 x)),(6,.v (.int .i64 (((size:Nat):Int) - 1 - ((k:Nat):Int)))),(13,.v (.slice A (((be size x).take k).length) c)),(18,.v (.int .u8 (IntKind.u8.wrap (x / 2 ^ (8 * (size - 1 - k))))))] aa ao fun aP ap=>?_
  refine qcJ aa ap (k:=0) (e:=5) (size:=1) (len:=1) (cs:=[.int .u8 (IntKind.u8.wrap (x / 2 ^ (8 * (size - 1 - k))))]) (d1:=19) (d:=20) kz (t:=22) (bytes:=1) kz (fun _=>by kernel_rfl) rfl kz (by first | (have:=hroom; omega) | (simp; done) | (simp; omega)) fun ab ac aQ aR ar au ⟨_,av⟩=>?_
  have aw:(⟨ab,ac,5,1,((be size x).take k).length + 1,bc ((be size x).take k) ++ [.int .u8 (IntKind.u8.wrap (x / 2 ^ (8 * (size - 1 - k))))]⟩:Rw) = brow ab ac 5 ((be size x).take k ++ [by8 (x / 2 ^ (8 * (size - 1 - k)))]):=qcg (by simp only [bc,List.map,qez]; try rfl) rfl
  obtain ⟨ag,ax⟩:=au.rowEq 0 [brow ab ac 5 ((be size x).take k ++ [by8 (x / 2 ^ (8 * (size - 1 - k)))])] aw
  have ay:=EnvOk.pick av (ks:=[0,6,13,18,20]) (env':=[(0,.v (.int .i64 x)),(6,.v (.int .i64 (((size:Nat):Int) - 1 - ((k:Nat):Int)))),(13,.v (.slice A (((be size x).take k).length) c)),(18,.v (.int .u8 (IntKind.u8.wrap (x / 2 ^ (8 * (size - 1 - k)))))),(20,.v (.slice ab (((be size x).take k).length + 1) ac))]) kz
  have az:=ay.cast (env':=[(0,.v (.int .i64 x)),(6,.v (.int .i64 (((size:Nat):Int) - 1 - ((k:Nat):Int)))),(13,.v (.slice A (((be size x).take k).length) c)),(18,.v (.int .u8 (IntKind.u8.wrap (x / 2 ^ (8 * (size - 1 - k)))))),(20,.v (.slice ab (((be size x).take k ++ [by8 (x / 2 ^ (8 * (size - 1 - k)))]).length) ac))]) (by simp only [List.length_append,List.length_cons,List.length_nil,Nat.zero_add])
  refine qai [8] [] [(0,.v (.int .i64 x)),(5,.v (.slice ab (((be size x).take k ++ [by8 (x / 2 ^ (8 * (size - 1 - k)))]).length) ac)),(6,.v (.int .i64 (((size:Nat):Int) - 1 - ((k:Nat):Int))))] ag az fun aS aA=>?_
  refine qae (qar (qab (qap [0,1,2] kz ?_)))
  refine qai [0,1,2] [] [(0,.v (.int .i64 x)),(5,.v (.slice ab (((be size x).take k ++ [by8 (x / 2 ^ (8 * (size - 1 - k)))]).length) ac)),(6,.v (.int .i64 (IntKind.i64.wrap ((((size:Nat):Int) - 1 - ((k:Nat):Int)) - 1))))] ag aA fun aT ah=>?_
  refine qae (qab ?_)
  have ai:((be size x).take k ++ [by8 (x / 2 ^ (8 * (size - 1 - k)))]) = ((be size x).take (k + 1)):=(qgP (by omega)).symm
  have aB:=congrArg (brow ab ac 5) ai
  obtain ⟨aC,aD⟩:=ag.rowEq 0 [brow ab ac 5 ((be size x).take (k + 1))] aB
  rw [ai] at ah
  have aE:IntKind.i64.wrap ((((size:Nat):Int) - 1 - ((k:Nat):Int)) - 1) = ((size:Nat):Int) - 1 - (((k + 1):Nat):Int):=by rw [wrap_i64 (by omega) (by omega)]; omega
  rw [aE] at ah
  exact ⟨size - (k + 1),by omega,k + 1,ab,ac,rfl,by omega,ah.pk,aC,(((al.trans ar).trans ax).trans aD)⟩
 have aJ:=of_decide_eq_false af
 refine wp_exit (qau (qau (qaI (qab (qas [(4,.v (.slice A (((be size x).take k).length) c))] aa ae fun aU aF=>?_)))))
 refine wp_ret (qaM aF aa.cells (v:=.slice A (((be size x).take k).length) c) kz ?_)
 exact qbr aa (k:=0) rfl (List.take_of_length_le (by simp; omega))
theorem qd7 (x:Nat) (hx:x < 18446744073709551616) (w:World) :
  Calls Tryz.prog 64 #[.int .u64 ((x:Nat):Int)] w (qee w 5 (uv x)):=by
 refine enter (n:=20) Tryz.func64 rfl Tryz.ntmps64 kz fun a hE=>?_
 have hW:=WOk.start w Nil
 refine qas [(0,.v (.int .u64 ((x:Nat):Int)))] hW hE fun a1 hE2=>?_
 refine qas [(0,.v (.int .u64 ((x:Nat):Int))),(3,.v (.slice none 0 0))] hW hE2 fun a3 hE4=>?_
 refine wp_seq (wp_block ?_)
 have hW5:=hW.addNil 5 1
 have hF6:=hW.frNil 5 1
 refine wp_loop_ghost (fun n_ a_ w_=>∃ (A:Option Addr) (c:Nat) (pre:Bs) (m:Nat),n_ = m ∧ (pre ++ uv m = uv x) ∧ (m < 18446744073709551616) ∧ LInv hW5 20 [] [brow A c 5 pre] [(0,.v (.int .u64 ((m:Nat):Int))),(3,.v (.slice A pre.length c))] a_ w_) (x) ⟨none,0,[],x,rfl,rfl,hx,hE4.pk,hW5,Fr.refl _ _ _⟩ ?_
 rintro n7 a8 w9 ⟨A,c,pre,m,aM,hp,hm,am,aa,ao⟩
 refine wp_seq (qas [(0,.v (.int .u64 ((m:Nat):Int))),(3,.v (.slice A pre.length c)),(5,.v (.bool (decide (((m:Nat):Int) > 127))))] aa am fun aR ae=>?_)
 refine qaw ae (b:=decide (((m:Nat):Int) > 127)) kz (fun af=>?_) (fun af=>?_)
 ·
  have aN:=zD af
  refine wp_skip (qab (wp_block (qaf [0,1,2,3,4,5,6,7] kz ?_)))
  refine qai [0,1,2,3,4] [5,6,7] [(0,.v (.int .u64 ((m:Nat):Int))),(6,.v (.slice A pre.length c)),(10,.v (.int .u8 (IntKind.u8.wrap (zB 8 (IntKind.u8.wrap (IntKind.u64.wrap (zB 64 ((m:Nat):Int) &&& zB 64 127).toNat)) ||| zB 8 128).toNat)))] aa ae fun aS ap=>?_
  refine qcJ aa ap (k:=0) (e:=5) (size:=1) (len:=1) (cs:=[.int .u8 (IntKind.u8.wrap (BitVec.ofInt 8 (IntKind.u8.wrap (IntKind.u64.wrap (BitVec.ofInt 64 ((m:Nat):Int) &&& BitVec.ofInt 64 127).toNat)) ||| BitVec.ofInt 8 128).toNat)]) (d1:=11) (d:=12) kz (t:=22) (bytes:=1) kz (fun _=>by kernel_rfl) rfl kz (by have h1_:=qeB x hx; rw [← hp,List.length_append] at h1_; omega) fun ab ac aT aU ar au ⟨_,av⟩=>?_
  have aw:(⟨ab,ac,5,1,pre.length + 1,bc pre ++ [.int .u8 (IntKind.u8.wrap (BitVec.ofInt 8 (IntKind.u8.wrap (IntKind.u64.wrap (BitVec.ofInt 64 ((m:Nat):Int) &&& BitVec.ofInt 64 127).toNat)) ||| BitVec.ofInt 8 128).toNat)]⟩:Rw) = brow ab ac 5 (pre ++ [by8 (BitVec.ofInt 8 (IntKind.u8.wrap (IntKind.u64.wrap (BitVec.ofInt 64 ((m:Nat):Int) &&& BitVec.ofInt 64 127).toNat)) ||| BitVec.ofInt 8 128).toNat]):=qcg (by simp only [bc,List.map,qez]; try rfl) rfl
  obtain ⟨ag,ax⟩:=au.rowEq 0 [brow ab ac 5 (pre ++ [by8 (zB 8 (IntKind.u8.wrap (IntKind.u64.wrap (zB 64 ((m:Nat):Int) &&& zB 64 127).toNat)) ||| zB 8 128).toNat])] aw
  have ay:=EnvOk.pick av (ks:=[0,6,10,12]) (env':=[(0,.v (.int .u64 ((m:Nat):Int))),(6,.v (.slice A pre.length c)),(10,.v (.int .u8 (IntKind.u8.wrap (zB 8 (IntKind.u8.wrap (IntKind.u64.wrap (zB 64 ((m:Nat):Int) &&& zB 64 127).toNat)) ||| zB 8 128).toNat))),(12,.v (.slice ab (pre.length + 1) ac))]) kz
  have az:=ay.cast (env':=[(0,.v (.int .u64 ((m:Nat):Int))),(6,.v (.slice A pre.length c)),(10,.v (.int .u8 (IntKind.u8.wrap (BitVec.ofInt 8 (IntKind.u8.wrap (IntKind.u64.wrap (BitVec.ofInt 64 ((m:Nat):Int) &&& BitVec.ofInt 64 127).toNat)) ||| BitVec.ofInt 8 128).toNat))),(12,.v (.slice ab ((pre ++ [by8 (BitVec.ofInt 8 (IntKind.u8.wrap (IntKind.u64.wrap (BitVec.ofInt 64 ((m:Nat):Int) &&& BitVec.ofInt 64 127).toNat)) ||| BitVec.ofInt 8 128).toNat]).length) ac))]) (by simp only [List.length_append,List.length_cons,List.length_nil,Nat.zero_add])
  refine qai [7] [] [(0,.v (.int .u64 ((m:Nat):Int))),(3,.v (.slice ab ((pre ++ [by8 (zB 8 (IntKind.u8.wrap (IntKind.u64.wrap (zB 64 ((m:Nat):Int) &&& zB 64 127).toNat)) ||| zB 8 128).toNat]).length) ac))] ag az fun aV aA=>?_
  refine qae (qab ?_)
  refine qap [0,1,2] kz ?_
  refine qai [0,1,2] [] [(0,.v (.int .u64 (Int.fdiv ((m:Nat):Int) 128))),(3,.v (.slice ab ((pre ++ [by8 (zB 8 (IntKind.u8.wrap (IntKind.u64.wrap (zB 64 ((m:Nat):Int) &&& zB 64 127).toNat)) ||| zB 8 128).toNat]).length) ac))] ag aA fun aW ah=>?_
  refine qae (qar (qab ?_))
  have al:(pre ++ [by8 (BitVec.ofInt 8 (IntKind.u8.wrap (IntKind.u64.wrap (BitVec.ofInt 64 ((m:Nat):Int) &&& BitVec.ofInt 64 127).toNat)) ||| BitVec.ofInt 8 128).toNat]) = (pre ++ [UInt8.ofNat (m % 128 + 128)]):=by rw [qj5 m (by omega)]
  have aB:=congrArg (brow ab ac 5) al
  obtain ⟨aC,aD⟩:=ag.rowEq 0 [brow ab ac 5 (pre ++ [UInt8.ofNat (m % 128 + 128)])] aB
  rw [al] at ah
  have aE:Int.fdiv ((m:Nat):Int) 128 = ((m / 128:Nat):Int):=qk1 m
  rw [aE] at ah
  exact ⟨m / 128,by omega,ab,ac,pre ++ [UInt8.ofNat (m % 128 + 128)],m / 128,rfl,by rw [← hp,qef (show 128 ≤ m by omega)]; simp,by omega,ah.pk,aC,(((ao.trans ar).trans ax).trans aD)⟩
 have aO:=zF af
 refine wp_exit (qau (qau (qaI (qab (qaf [0,1,2,3,4,5] kz ?_)))))
 refine qai [0,1,2] [3,4,5] [(15,.v (.slice A pre.length c)),(17,.v (.int .u8 (IntKind.u8.wrap ((m:Nat):Int))))] aa ae fun aX aF=>?_
 refine qcJ aa aF (k:=0) (e:=5) (size:=1) (len:=1) (cs:=[.int .u8 (IntKind.u8.wrap ((m:Nat):Int))]) (d1:=18) (d:=19) kz (t:=22) (bytes:=1) kz (fun _=>by kernel_rfl) rfl kz (by have h1_:=qeB x hx; rw [← hp,List.length_append] at h1_; omega) fun ai aj aY aZ aP aG ⟨_,aH⟩=>?_
 have aI:(⟨ai,aj,5,1,pre.length + 1,bc pre ++ [.int .u8 (IntKind.u8.wrap ((m:Nat):Int))]⟩:Rw) = brow ai aj 5 (pre ++ [by8 ((m:Nat):Int)]):=qcg (by simp only [bc,List.map,qez]; try rfl) rfl
 obtain ⟨ak,aQ⟩:=aG.rowEq 0 [brow ai aj 5 (pre ++ [by8 ((m:Nat):Int)])] aI
 have aJ:=EnvOk.pick aH (ks:=[15,17,19]) (env':=[(15,.v (.slice A pre.length c)),(17,.v (.int .u8 (IntKind.u8.wrap ((m:Nat):Int)))),(19,.v (.slice ai (pre.length + 1) aj))]) kz
 have aK:=aJ.cast (env':=[(15,.v (.slice A pre.length c)),(17,.v (.int .u8 (IntKind.u8.wrap ((m:Nat):Int)))),(19,.v (.slice ai ((pre ++ [by8 ((m:Nat):Int)]).length) aj))]) (by simp only [List.length_append,List.length_cons,List.length_nil,Nat.zero_add])
 refine qai [5] [] [(2,.v (.slice ai ((pre ++ [by8 ((m:Nat):Int)]).length) aj))] ak aK fun ba aL=>?_
 refine qae (qab ?_)
 refine wp_ret (qaM aL ak.cells (v:=.slice ai ((pre ++ [by8 ((m:Nat):Int)]).length) aj) kz ?_)
 exact qbr ak (k:=0) rfl (by rw [← hp,qcO (show m < 128 by omega),qi0])
theorem qd8 (flex null:Bool) (m sz:Nat) (hm:m ≤ 1099511627776) (hsz:sz ≤ 8) (w:World) :
  Calls Tryz.prog 106 #[.bool flex,.bool null,.int .i64 ((m:Nat):Int),.int .i64 ((sz:Nat):Int)] w (qee w 5 (qav flex null m sz)):=by
 refine enter (n:=28) Tryz.func106 rfl Tryz.ntmps106 kz fun a hE=>?_
 have hW:=WOk.start w Nil
 refine qas [(0,.v (.bool flex)),(1,.v (.bool null)),(2,.v (.int .i64 ((m:Nat):Int))),(3,.v (.int .i64 ((sz:Nat):Int)))] hW hE fun a1 hE2=>?_
 refine wp_seq (wp_block (qaf [0,1,2,3,4] kz ?_))
 refine qai [0,1] [2,3,4] [(0,.v (.bool flex)),(1,.v (.bool null)),(2,.v (.int .i64 ((m:Nat):Int))),(3,.v (.int .i64 ((sz:Nat):Int))),(11,.v (.bool flex))] hW hE2 fun a3 hE4=>?_
 refine (Bool.eq_false_or_eq_true (flex)).elim (fun hc5=>?_) (fun hc5=>?_)
 ·
  have hE7:=hE4.cast (env':=[(0,.v (.bool true)),(1,.v (.bool null)),(2,.v (.int .i64 ((m:Nat):Int))),(3,.v (.int .i64 ((sz:Nat):Int))),(11,.v (.bool true))]) (by rw [hc5])
  refine qai [2,3,4] [] [(0,.v (.bool true)),(1,.v (.bool null)),(2,.v (.int .i64 ((m:Nat):Int))),(3,.v (.int .i64 ((sz:Nat):Int))),(9,.v (.bool null))] hW hE7 fun a8 hE9=>?_
  refine qae (qab ?_)
  refine qaw hE9 (b:=null) kz (fun aa=>?_) (fun aa=>?_)
  ·
   refine qaf [0,1] kz ?_
   refine qal (qbu hW hE9 (e:=5) (size:=1) (len:=1) (cs:=[.int .u8 0]) (d:=14) kz kz fun ab bf bg aV aW aX am ao=>?_)
   have ap:(⟨some ⟨ab,0,none⟩,1,5,1,1,[.int .u8 0]⟩:Rw) = brow (some ⟨ab,0,none⟩) 1 5 [by8 0]:=by first | rfl | (simp only [brow,bc,List.map,qez]; try rfl)
   obtain ⟨ac,aY⟩:=am.rowEq 0 [brow (some ⟨ab,0,none⟩) 1 5 [by8 0]] ap
   have ar:=EnvOk.pick ao (ks:=[0,1,2,3,9,14]) (env':=[(0,.v (.bool true)),(1,.v (.bool null)),(2,.v (.int .i64 ((m:Nat):Int))),(3,.v (.int .i64 ((sz:Nat):Int))),(9,.v (.bool null)),(14,.v (.slice (some ⟨ab,0,none⟩) 1 1))]) kz
   have au:=ar.cast (env':=[(0,.v (.bool true)),(1,.v (.bool null)),(2,.v (.int .i64 ((m:Nat):Int))),(3,.v (.int .i64 ((sz:Nat):Int))),(9,.v (.bool null)),(14,.v (.slice (some ⟨ab,0,none⟩) ([by8 0].length) 1))]) rfl
   refine qai [1] [] [(8,.v (.slice (some ⟨ab,0,none⟩) ([by8 0].length) 1))] ac au fun bh av=>?_
   refine qae (qab ?_)
   refine wp_ret (qay (qat (qaM av ac.cells (v:=.slice (some ⟨ab,0,none⟩) ([by8 0].length) 1) kz ?_)))
   exact qbr ac (k:=0) rfl (by simp [qav,hc5,aa]; try rfl)
  refine qas [(1,.v (.bool null)),(2,.v (.int .i64 ((m:Nat):Int))),(3,.v (.int .i64 ((sz:Nat):Int))),(15,.v (.bool true))] hW hE9 fun bi aj=>?_
  refine qa7 aj (b:=true) kz rfl ?_
  refine qaf [0,1,2,3,4] kz ?_
  refine qai [0,1,2] [3,4] [(19,.v (.int .u64 (IntKind.u64.wrap ((IntKind.u64.wrap ((m:Nat):Int)) + 1))))] hW aj fun bj aw=>?_
  have ax:IntKind.u64.wrap ((IntKind.u64.wrap ((m:Nat):Int)) + 1) = ((m + 1:Nat):Int):=by simp only [qaV,qaA,qbO,IntKind.wrap_i64,IntKind.wrap_i32]; omega
  have ay:=EnvOk.pick aw (ks:=[19]) (env':=[(19,.v (.int .u64 (IntKind.u64.wrap ((IntKind.u64.wrap ((m:Nat):Int)) + 1))))]) kz
  have az:=ay
  rw [ax] at az
  refine qal (qak az (f:=64) (vs:=[.int .u64 ((m + 1:Nat):Int)]) (d:=20) kz Tryz.call64 (qd7 (m + 1) (by omega) _) ?_)
  rintro e_ bk ⟨aA,aB,rfl,aC,aD⟩
  refine ⟨_,rfl,fun bn aE=>?_⟩
  obtain ⟨ae,aZ⟩:=hW.frFresh aD (brow aA aB 5 (uv (m + 1))) (Nat.le_refl _) aC
  refine qai [4] [] [(8,.v (.slice aA ((uv (m + 1)).length) aB))] ae aE fun bo aF=>?_
  refine qae (qab ?_)
  refine wp_ret (qay (qat (qaM aF ae.cells (v:=.slice aA ((uv (m + 1)).length) aB) kz ?_)))
  exact qbr ae (k:=0) rfl (by simp [qav,hc5,aa]; try rfl)
 have aG:=hE4.cast (env':=[(0,.v (.bool false)),(1,.v (.bool null)),(2,.v (.int .i64 ((m:Nat):Int))),(3,.v (.int .i64 ((sz:Nat):Int))),(11,.v (.bool false))]) (by rw [hc5])
 refine qai [2,3,4] [] [(0,.v (.bool false)),(1,.v (.bool null)),(2,.v (.int .i64 ((m:Nat):Int))),(3,.v (.int .i64 ((sz:Nat):Int))),(9,.v (.bool false))] hW aG fun bp ak=>?_
 refine qae (qab ?_)
 refine qan ak (b:=false) kz rfl ?_
 refine qas [(1,.v (.bool null)),(2,.v (.int .i64 ((m:Nat):Int))),(3,.v (.int .i64 ((sz:Nat):Int))),(15,.v (.bool false))] hW ak fun bq al=>?_
 refine qan al (b:=false) kz rfl ?_
 refine qas [(2,.v (.int .i64 ((m:Nat):Int))),(3,.v (.int .i64 ((sz:Nat):Int))),(21,.v (.bool null))] hW al fun bt af=>?_
 refine qaw af (b:=null) kz (fun ag=>?_) (fun ag=>?_)
 ·
  refine qaf [0,1,2] kz ?_
  refine qai [0] [1,2] [(23,.v (.int .i64 ((sz:Nat):Int)))] hW af fun bu aH=>?_
  refine qal (qak aH (f:=65) (vs:=[.int .i64 (-1),.int .i64 ((sz:Nat):Int)]) (d:=24) kz Tryz.call65 (qfL (-1) sz (by first | decide | exact qbM _ | omega) _) ?_)
  rintro e_ bw ⟨aI,aJ,rfl,aK,aL⟩
  refine ⟨_,rfl,fun bx aM=>?_⟩
  obtain ⟨ah,ba⟩:=hW.frFresh aL (brow aI aJ 5 (be sz (-1))) (Nat.le_refl _) aK
  refine qai [2] [] [(8,.v (.slice aI ((be sz (-1)).length) aJ))] ah aM fun bz aN=>?_
  refine qae (qab ?_)
  refine wp_ret (qay (qat (qaM aN ah.cells (v:=.slice aI ((be sz (-1)).length) aJ) kz ?_)))
  exact qbr ah (k:=0) rfl (by simp [qav,hc5,ag]; try rfl)
 refine wp_skip (qar (qab (qaf [0,1,2,3] kz ?_)))
 refine qai [0,1] [2,3] [(25,.v (.int .i64 ((m:Nat):Int))),(26,.v (.int .i64 ((sz:Nat):Int)))] hW af fun bA aO=>?_
 refine qal (qak aO (f:=65) (vs:=[.int .i64 ((m:Nat):Int),.int .i64 ((sz:Nat):Int)]) (d:=27) kz Tryz.call65 (qfL ((m:Nat):Int) sz (by first | decide | exact qbM _ | omega) _) ?_)
 rintro e_ bB ⟨aP,aQ,rfl,aR,aS⟩
 refine ⟨_,rfl,fun bC aT=>?_⟩
 obtain ⟨ai,bd⟩:=hW.frFresh aS (brow aP aQ 5 (be sz ((m:Nat):Int))) (Nat.le_refl _) aR
 refine qai [3] [] [(8,.v (.slice aP ((be sz ((m:Nat):Int)).length) aQ))] ai aT fun bD aU=>?_
 refine qae (qab ?_)
 refine wp_ret (qaM aU ai.cells (v:=.slice aP ((be sz ((m:Nat):Int)).length) aQ) kz ?_)
 exact qbr ai (k:=0) rfl (by simp [qav,hc5,ag]; try rfl)
abbrev z15 :=([.int .i64 0,.int .i64 0,.int .i64 0,.int .i64 0,.int .i64 0,.int .i64 0,.int .i64 0,.slice none 0 0]:List Value)
theorem qkF (A:Option Addr) (c:Nat) (l:List Fld) (w:World) (F:Nat → Nat → Prop) (hl:FldsR w F A c l) :
  Calls Tryz.prog 63 #[.slice A l.length c] w (qcs w (.int .u32 (qaC l))):=by
 obtain ⟨xfs,h1,h2⟩:=hl.ex
 have hsm:=h1.small
 refine enter (n:=23) Tryz.func63 rfl Tryz.ntmps63 kz fun a hE=>?_
 have hW:=WOk.start w Nil
 refine qas (z67 A l.length c) hW hE fun a1 hE2=>?_
 refine qas [(0,.v (.slice A l.length c)),(3,.v (.int .u32 0))] hW hE2 fun a3 hE4=>?_
 refine wp_seq (qas [(3,.v (.int .u32 0)),(6,.v (.slice A l.length c)),(7,.v (.int .i64 ((l.length:Nat):Int))),(8,.v (.int .i64 0))] hW hE4 fun a5 hE6=>?_)
 refine wp_block (wp_loop_ghost (fun n_ a_ w_=>∃ (k:Nat),n_ = l.length - k ∧ k ≤ l.length ∧ LInv hW 23 [] [] [(3,.v (.int .u32 (qaC (l.take k)))),(6,.v (.slice A l.length c)),(7,.v (.int .i64 ((l.length:Nat):Int))),(8,.v (.int .i64 ((k:Nat):Int)))] a_ w_) (l.length) ⟨0,by omega,by omega,hE6.pk,hW,Fr.refl _ _ _⟩ ?_)
 rintro n7 a8 w9 ⟨k,ba,bd,av,aa,ao⟩
 refine qas [(3,.v (.int .u32 (qaC (l.take k)))),(6,.v (.slice A l.length c)),(7,.v (.int .i64 ((l.length:Nat):Int))),(8,.v (.int .i64 ((k:Nat):Int))),(9,.v (.bool (decide (((k:Nat):Int) < ((l.length:Nat):Int)))))] aa av fun bt ag=>?_
 refine wp_seq (qaw ag (b:=decide (((k:Nat):Int) < ((l.length:Nat):Int))) kz (fun ah=>?_) (fun ah=>?_))
 ·
  have bf:=zD ah
  refine wp_skip (qab (wp_seq (wp_block (qaf [0,1,2,3] kz ?_))))
  obtain ⟨bg,bh,aw,bi,ae⟩:=Slots.get h1 (i:=k) (by omega)
  obtain ⟨bj,ai⟩:∃ x,l[k]? = some x:=⟨_,List.getElem?_eq_getElem (by omega)⟩
  have ap:=h2 k bj ai
  obtain ⟨ax,ay,az,aA,ab,aB,aC,aD,aE,aF,bk,rfl,af,bn,bu⟩:=ap.open_
  rw [af] at ap
  have aZ:=bn.small
  rw [af] at ae
  refine qal (qax ag (t:=29) (A:=A) (m:=l.length) (q:=((k:Nat):Int)) (d:=10) kz (e:=51) (size:=8) (bytes:=80) kz aw rfl (by omega) fun bw aG=>?_)
  refine qal (qaU aG (t:=51) (b:=bg) (o:=bh + k * 8) (d:=11) kz (cs:=(z7 ax ay az aA ab aB aC aE aD.length aF)) (v:=.agg #[.int .i64 ax,.int .i64 ay,.int .i64 az,.int .i64 aA,.int .i64 ab,.int .i64 aB,.int .i64 aC,.slice aE aD.length aF]) kz (AtF.move ae aa.step nilM qa9).at_ fun bx aH=>?_)
  refine qal (qaQ aa aH (d:=5) (cs:=z15) kz fun bz bA bB bo bp ar aI aJ=>?_)
  refine qal (qao aI aJ (oi:=0) (cs:=(z7 ax ay az aA ab aB aC aE aD.length aF)) kz fun bC au ac aK=>?_)
  refine qae (qab ?_)
  refine qas [(3,.v (.int .u32 (qaC (l.take k)))),(5,.p 0 0),(6,.v (.slice A l.length c)),(7,.v (.int .i64 ((l.length:Nat):Int))),(8,.v (.int .i64 ((k:Nat):Int))),(14,.v (.bool (decide (ab ≥ 0))))] ac aK fun bD aj=>?_
  refine qaw aj (b:=decide (ab ≥ 0)) kz (fun ak=>?_) (fun ak=>?_)
  ·
   have aL:=zD ak
   refine qap [0,1,2,3,4,5,6] kz ?_
   refine qai [0,1,2,3,4,5,6] [] [(3,.v (.int .u32 (if zU ((zU ab) + 1) > qaC (l.take k) then zU ((zU ab) + 1) else qaC (l.take k)))),(6,.v (.slice A l.length c)),(7,.v (.int .i64 ((l.length:Nat):Int))),(8,.v (.int .i64 ((k:Nat):Int)))] ac aj fun bE aM=>?_
   refine qae (qar (qab (qap [0,1] kz ?_)))
   refine qai [0,1] [] [(3,.v (.int .u32 (if zU ((zU ab) + 1) > qaC (l.take k) then zU ((zU ab) + 1) else qaC (l.take k)))),(6,.v (.slice A l.length c)),(7,.v (.int .i64 ((l.length:Nat):Int))),(8,.v (.int .i64 (IntKind.i64.wrap (((k:Nat):Int) + 1))))] ac aM fun bF aN=>?_
   refine qae (qab ?_)
   obtain ⟨al,aO,aP⟩:=ac.cutB aN 0 [] [(3,.v (.int .u32 (if zU ((zU ab) + 1) > qaC (l.take k) then zU ((zU ab) + 1) else qaC (l.take k)))),(6,.v (.slice A l.length c)),(7,.v (.int .i64 ((l.length:Nat):Int))),(8,.v (.int .i64 (IntKind.i64.wrap (((k:Nat):Int) + 1))))]
   have aQ:IntKind.i64.wrap (((k:Nat):Int) + 1) = ((k + 1:Nat):Int):=qaO (by omega)
   rw [aQ] at al
   have aR:(if zU ((zU ab) + 1) > qaC (l.take k) then zU ((zU ab) + 1) else qaC (l.take k)) = qaC (l.take (k + 1)):=qi2 ai aL
   rw [aR] at al
   exact ⟨l.length - (k + 1),by omega,k + 1,rfl,by omega,al.pk,aO,(((ao.trans ar).trans au).trans aP)⟩
  have aS:=zF ak
  refine wp_skip (qar (qab (qap [0,1] kz ?_)))
  refine qai [0,1] [] [(3,.v (.int .u32 (qaC (l.take k)))),(6,.v (.slice A l.length c)),(7,.v (.int .i64 ((l.length:Nat):Int))),(8,.v (.int .i64 (IntKind.i64.wrap (((k:Nat):Int) + 1))))] ac aj fun bG aT=>?_
  refine qae (qab ?_)
  obtain ⟨am,aU,aV⟩:=ac.cutB aT 0 [] [(3,.v (.int .u32 (qaC (l.take k)))),(6,.v (.slice A l.length c)),(7,.v (.int .i64 ((l.length:Nat):Int))),(8,.v (.int .i64 (IntKind.i64.wrap (((k:Nat):Int) + 1))))]
  have aW:IntKind.i64.wrap (((k:Nat):Int) + 1) = ((k + 1:Nat):Int):=qaO (by omega)
  rw [aW] at am
  have aX:qaC (l.take k) = qaC (l.take (k + 1)):=qi3 ai aS
  rw [aX] at am
  exact ⟨l.length - (k + 1),by omega,k + 1,rfl,by omega,am.pk,aU,(((ao.trans ar).trans au).trans aV)⟩
 have bq:=zF ah
 refine wp_exit (qau (qau (qaI (qab (qas [(2,.v (.int .u32 (qaC (l.take k))))] aa ag fun bH aY=>?_)))))
 refine wp_ret (qaM aY aa.cells (v:=.int .u32 (qaC (l.take k))) kz ?_)
 exact ⟨by rw [List.take_of_length_le (by omega)],aa.step⟩
def qjz (d:Nat):Prop:=∀ (A:Option Addr) (c:Nat) (l:List Fld) (v:Int) (flex:Bool) (ct:List Value) (t:Tree) (w:World) (F:Nat → Nat → Prop),FldsR w F A c l → depths l ≤ d → TreeR w F ct t → (qa8 d l v flex t).length ≤ 1099511627776 →
  Calls Tryz.prog 29 #[.slice A l.length c,.int .i64 v,.bool flex,.agg ct.toArray] w (qee w 5 (qa8 d l v flex t))
theorem qjA {d:Nat} (hp:qjz d) (kind:Int) (A:Option Addr) (c:Nat) (l:List Fld) (null:Bool) (v:Int) (flex:Bool) (ct:List Value) (t:Tree) (w:World) (F:Nat → Nat → Prop) (hl:FldsR w F A c l) (hd:depths l ≤ d) (ht:TreeR w F ct t) (hroom:(qa2 (qa8 d l v flex) kind null flex t).length ≤ 1099511627776) :
  Calls Tryz.prog 107 #[.int .i64 kind,.slice A l.length c,.bool null,.int .i64 v,.bool flex,.agg ct.toArray] w (qee w 5 (qa2 (qa8 d l v flex) kind null flex t)):=by
 obtain ⟨n1,s2,b3,l4,u5,A6,c7,A8,c9,dh,di,d9,rfl,rfl,aX,ea,fA,fB⟩:=ht.open_
 have dM:=aX.small
 have dN:=ea.small
 have hl0:=hl
 obtain ⟨xfs,h1,h2⟩:=hl.ex
 have hsm:=h1.small
 refine enter (n:=70) Tryz.func107 rfl Tryz.ntmps107 kz fun a hE=>?_
 have hW:=WOk.start w Nil
 refine qaf [0,1] kz ?_
 refine qal (qbq hW hE (d:=11) (cs:=(z1 n1 A6 s2.length c7 b3 A8 l4.length c9 dh u5.length di)) kz fun fC fD fE eb ec ee aa dj=>?_)
 refine qai [1] [] [(0,.v (.int .i64 kind)),(1,.v (.slice A l.length c)),(2,.v (.bool null)),(3,.v (.int .i64 v)),(4,.v (.bool flex)),(11,.p 0 0)] aa dj fun fF dl=>?_
 refine qae (qab ?_)
 refine wp_seq (qas [(0,.v (.int .i64 kind)),(1,.v (.slice A l.length c)),(2,.v (.bool null)),(3,.v (.int .i64 v)),(4,.v (.bool flex)),(11,.p 0 0),(16,.v (.int .i64 kind))] aa dl fun fG dp=>?_)
 refine wp_block (qas [(0,.v (.int .i64 kind)),(1,.v (.slice A l.length c)),(2,.v (.bool null)),(3,.v (.int .i64 v)),(4,.v (.bool flex)),(11,.p 0 0),(16,.v (.int .i64 kind)),(17,.v (.bool (kind == 0)))] aa dp fun fH bk=>?_)
 refine qaw bk (b:=kind == 0) kz (fun ac=>?_) (fun ac=>?_)
 ·
  have dq:kind = 0:=by simpa using ac
  refine qaf [0,1,2,3,4,5] kz ?_
  refine qai [0,1,2,3] [4,5] [(22,.v (.int .u8 (IntKind.u8.wrap (IntKind.i64.wrap (zB 64 n1 &&& zB 64 1).toNat))))] aa bk fun fI dr=>?_
  refine qal (qbu aa dr (e:=5) (size:=1) (len:=1) (cs:=[.int .u8 (IntKind.u8.wrap (IntKind.i64.wrap (zB 64 n1 &&& zB 64 1).toNat))]) (d:=23) kz kz fun bn fJ fK ef eg eh dt du=>?_)
  have dv:(⟨some ⟨bn,0,none⟩,1,5,1,1,[.int .u8 (IntKind.u8.wrap (IntKind.i64.wrap (BitVec.ofInt 64 n1 &&& BitVec.ofInt 64 1).toNat))]⟩:Rw) = brow (some ⟨bn,0,none⟩) 1 5 [by8 (IntKind.i64.wrap (BitVec.ofInt 64 n1 &&& BitVec.ofInt 64 1).toNat)]:=by first | rfl | (simp only [brow,bc,List.map,qez]; try rfl)
  obtain ⟨bo,ei⟩:=dt.rowEq 0 [brow (some ⟨bn,0,none⟩) 1 5 [by8 (IntKind.i64.wrap (zB 64 n1 &&& zB 64 1).toNat)]] dv
  have dw:=EnvOk.pick du (ks:=[22,23]) (env':=[(22,.v (.int .u8 (IntKind.u8.wrap (IntKind.i64.wrap (zB 64 n1 &&& zB 64 1).toNat)))),(23,.v (.slice (some ⟨bn,0,none⟩) 1 1))]) kz
  have dx:=dw.cast (env':=[(22,.v (.int .u8 (IntKind.u8.wrap (IntKind.i64.wrap (BitVec.ofInt 64 n1 &&& BitVec.ofInt 64 1).toNat)))),(23,.v (.slice (some ⟨bn,0,none⟩) ([by8 (IntKind.i64.wrap (BitVec.ofInt 64 n1 &&& BitVec.ofInt 64 1).toNat)].length) 1))]) rfl
  refine qai [5] [] [(12,.v (.slice (some ⟨bn,0,none⟩) ([by8 (IntKind.i64.wrap (zB 64 n1 &&& zB 64 1).toNat)].length) 1))] bo dx fun fL dy=>?_
  refine qae (qab ?_)
  refine wp_ret (qay (qat (qaM dy bo.cells (v:=.slice (some ⟨bn,0,none⟩) ([by8 (IntKind.i64.wrap (zB 64 n1 &&& zB 64 1).toNat)].length) 1) kz ?_)))
  exact qbr bo (k:=0) rfl (by (try simp only [and1]); simp [qa2,Tree.S,Tree.N,dq,ac])
 have ak:kind ≠ 0:=by simpa using ac
 refine qas [(0,.v (.int .i64 kind)),(1,.v (.slice A l.length c)),(2,.v (.bool null)),(3,.v (.int .i64 v)),(4,.v (.bool flex)),(11,.p 0 0),(16,.v (.int .i64 kind)),(24,.v (.bool (kind == 7)))] aa bk fun fM bp=>?_
 refine qaw bp (b:=kind == 7) kz (fun ae=>?_) (fun ae=>?_)
 ·
  have dz:kind = 7:=by simpa using ae
  refine qaf [0,1] kz ?_
  refine qal (qcK aa bp (d:=26) (j:=16) (t:=22) (e:=5) (bytes:=1) (z:=.int .u8 0) kz kz kz kz (rfl) (rfl) (by omega) fun aB fN fO ej ek em aC dA=>?_)
  refine qai [1] [] [(11,.p 0 0),(13,.v (.slice (some ⟨aB,0,none⟩) 16 16))] aC dA fun fP dB=>?_
  refine qae (qab ?_)
  refine qaf [0,1,2,3] kz ?_
  refine qai [0,1,2] [3] [(13,.v (.slice (some ⟨aB,0,none⟩) 16 16)),(27,.v (.slice (some ⟨aB,0,none⟩) 16 16)),(29,.v (.slice A6 s2.length c7))] aC dB fun fQ dC=>?_
  refine qal (qc1 aC dC (k:=0) (d:=30) (t:=22) (u:=22) (e:=5) (bytes:=1) (A:=(some ⟨aB,0,none⟩)) (As:=A6) (m:=s2.length) (cs:=c7) (m0:=16) (c:=16) (xs:=(List.replicate 16 (.int .u8 0))) (news:=bc s2) kz kz rfl (aX.move aC.step nilM aC.imm).src fun fR fS eo dD dE=>?_)
  have dF:(⟨(some ⟨aB,0,none⟩),16,5,1,16,qbt (List.replicate 16 (.int .u8 0)) 0 ((bc s2).take (min s2.length 16))⟩:Rw) = brow (some ⟨aB,0,none⟩) 16 5 (qbz s2):=qdV _ _ _
  obtain ⟨bq,ep⟩:=dD.rowEq 0 [brow (some ⟨aB,0,none⟩) 16 5 (qbz s2)] dF
  have dG:=EnvOk.pick dE (ks:=[13,27,29,30]) (env':=[(13,.v (.slice (some ⟨aB,0,none⟩) 16 16)),(27,.v (.slice (some ⟨aB,0,none⟩) 16 16)),(29,.v (.slice A6 s2.length c7)),(30,.v (.int .i64 ((min s2.length 16:Nat):Int)))]) kz
  have dH:=dG.cast (env':=[(13,.v (.slice (some ⟨aB,0,none⟩) ((qbz s2).length) 16)),(27,.v (.slice (some ⟨aB,0,none⟩) ((qbz s2).length) 16)),(29,.v (.slice A6 s2.length c7)),(30,.v (.int .i64 ((min s2.length 16:Nat):Int)))]) (by rw [qbp _])
  refine qae (qab ?_)
  refine qas [(12,.v (.slice (some ⟨aB,0,none⟩) ((qbz s2).length) 16))] bq dH fun fT dI=>?_
  refine wp_ret (qay (qat (qaM dI bq.cells (v:=.slice (some ⟨aB,0,none⟩) ((qbz s2).length) 16) kz ?_)))
  exact qbr bq (k:=0) rfl (by (try simp only [and1]); simp [qa2,Tree.S,Tree.N,ak,dz,ac,ae])
 have am:kind ≠ 7:=by simpa using ae
 refine qas [(0,.v (.int .i64 kind)),(1,.v (.slice A l.length c)),(2,.v (.bool null)),(3,.v (.int .i64 v)),(4,.v (.bool flex)),(11,.p 0 0),(16,.v (.int .i64 kind)),(32,.v (.bool (kind == 8)))] aa bp fun fU bt=>?_
 refine qaw bt (b:=kind == 8) kz (fun ag=>?_) (fun ag=>?_)
 ·
  have bA:kind = 8:=by simpa using ag
  refine qaf [0,1,2,3] kz ?_
  refine qai [0,1] [2,3] [(2,.v (.bool null)),(4,.v (.bool flex)),(35,.v (.slice A6 s2.length c7))] aa bt fun fV dJ=>?_
  have dO:=qbl s2
  refine qal (qak dJ (f:=37) (vs:=[.slice A6 s2.length c7]) (d:=36) kz Tryz.call37 (qdN _ _ s2 (aX.move aa.step nilM aa.imm).le _) ?_)
  rintro e_ fW ⟨rfl,bB⟩
  refine ⟨_,rfl,fun fX dK=>?_⟩
  have ao:=aa.next_nil bB
  have eu:=aa.frN bB
  refine qai [3] [] [(2,.v (.bool null)),(4,.v (.bool flex)),(14,.v (.slice A6 ((qaH s2).length) c7))] ao dK fun fY bC=>?_
  refine qae (qab ?_)
  refine wp_seq (qas [(2,.v (.bool null)),(4,.v (.bool flex)),(14,.v (.slice A6 ((qaH s2).length) c7)),(37,.v (.bool null))] ao bC fun ev aD=>?_)
  refine qaw aD (b:=null) kz (fun aE=>?_) (fun aE=>?_)
  ·
   refine qap [0] kz ?_
   refine qai [0] [] [(2,.v (.bool null)),(4,.v (.bool flex)),(14,.v (.slice none 0 0))] ao aD fun ew bD=>?_
   refine qae (qab ?_)
   refine qaf [0,1,2,3,4,5,6,7] kz ?_
   refine qai [0,1,2,3] [4,5,6,7] [(14,.v (.slice none 0 0)),(38,.v (.bool flex)),(39,.v (.bool null)),(41,.v (.int .i64 0))] ao bD fun ey bE=>?_
   refine qal (qak bE (f:=106) (vs:=[.bool flex,.bool null,.int .i64 0,.int .i64 2]) (d:=42) kz Tryz.call106 (qd8 flex null 0 2 (by first | omega | exact Nat.le_trans (qbl _) (by decide) | exact Nat.le_trans (qc6 _) (by decide) | (simp; done) | (have:=hroom; omega)) (by first | decide | omega) _) ?_)
   rintro e_ ez ⟨aF,aG,rfl,bF,bG⟩
   refine ⟨_,rfl,fun eB bH=>?_⟩
   obtain ⟨aY,dP⟩:=ao.frFresh bG (brow aF aG 5 (qav flex null 0 2)) (Nat.le_refl _) bF
   refine qai [5] [6,7] [(42,.v (.slice aF ((qav flex null 0 2).length) aG)),(43,.v (.slice none 0 0))] aY bH fun eC bI=>?_
   refine qal (qaR aY bI (k:=0) (d:=44) (t:=22) (e:=5) (size:=1) (bytes:=1) (A:=aF) (As:=none) (m0:=((qav flex null 0 2).length)) (c:=aG) (m:=0) (cs:=0) (xs:=(bc (qav flex null 0 2))) (news:=bc ([]:Bs)) kz kz rfl (Octs.nil _ (fun _ _=>True)).src (fun _=>rfl) (by first | exact qdL (by omega) (by decide) (by omega) | exact qdL (Nat.le_trans (qbl _) (by decide)) (by decide) (Nat.le_trans (qbl _) (by decide)) | (simp; done)) fun ap ar eD eE dQ bJ bK=>?_)
   have bL:(⟨ap,ar,5,1,(qav flex null 0 2).length + 0,bc (qav flex null 0 2) ++ bc ([]:Bs)⟩:Rw) = brow ap ar 5 (qav flex null 0 2 ++ ([]:Bs)):=qcg (rfl) rfl
   obtain ⟨aH,dR⟩:=bJ.rowEq 0 [brow ap ar 5 (qav flex null 0 2 ++ ([]:Bs))] bL
   have bM:=EnvOk.pick bK (ks:=[42,43,44]) (env':=[(42,.v (.slice aF ((qav flex null 0 2).length) aG)),(43,.v (.slice none 0 0)),(44,.v (.slice ap ((qav flex null 0 2).length + 0) ar))]) kz
   have bN:=bM.cast (env':=[(42,.v (.slice aF ((qav flex null 0 2).length) aG)),(43,.v (.slice none 0 0)),(44,.v (.slice ap ((qav flex null 0 2 ++ ([]:Bs)).length) ar))]) (by simp only [List.length_append,List.length_cons,List.length_nil,Nat.zero_add])
   refine qai [7] [] [(12,.v (.slice ap ((qav flex null 0 2 ++ ([]:Bs)).length) ar))] aH bN fun eF bO=>?_
   refine qae (qab ?_)
   refine wp_ret (qay (qat (qaM bO aH.cells (v:=.slice ap ((qav flex null 0 2 ++ ([]:Bs)).length) ar) kz ?_)))
   exact qbr aH (k:=0) rfl (by (try simp only [and1]); simp [qa2,Tree.S,Tree.N,ak,am,bA,ac,ae,ag,aE])
  refine wp_skip (qab (qaf [0,1,2,3,4,5,6,7] kz ?_))
  refine qai [0,1,2,3] [4,5,6,7] [(14,.v (.slice A6 ((qaH s2).length) c7)),(38,.v (.bool flex)),(39,.v (.bool null)),(41,.v (.int .i64 (((qaH s2).length:Nat):Int)))] ao aD fun eG bP=>?_
  refine qal (qak bP (f:=106) (vs:=[.bool flex,.bool null,.int .i64 (((qaH s2).length:Nat):Int),.int .i64 2]) (d:=42) kz Tryz.call106 (qd8 flex null ((qaH s2).length) 2 (by first | omega | exact Nat.le_trans (qbl _) (by decide) | exact Nat.le_trans (qc6 _) (by decide) | (simp; done) | (have:=hroom; omega)) (by first | decide | omega) _) ?_)
  rintro e_ eH ⟨aI,aJ,rfl,bQ,bR⟩
  refine ⟨_,rfl,fun eI bS=>?_⟩
  obtain ⟨ah,dS⟩:=ao.frFresh bR (brow aI aJ 5 (qav flex null ((qaH s2).length) 2)) (Nat.le_refl _) bQ
  refine qai [5] [6,7] [(42,.v (.slice aI ((qav flex null ((qaH s2).length) 2).length) aJ)),(43,.v (.slice A6 ((qaH s2).length) c7))] ah bS fun eJ bT=>?_
  refine qal (qaR ah bT (k:=0) (d:=44) (t:=22) (e:=5) (size:=1) (bytes:=1) (A:=aI) (As:=A6) (m0:=((qav flex null ((qaH s2).length) 2).length)) (c:=aJ) (m:=((qaH s2).length)) (cs:=c7) (xs:=(bc (qav flex null ((qaH s2).length) 2))) (news:=bc (qaH s2)) kz kz rfl ((aX.take 32767).move ah.step nilM ah.imm).src ((aX.take 32767).move ah.step nilM ah.imm).cap (by first | exact qdL (by omega) (by decide) (by omega) | exact qdL (Nat.le_trans (qbl _) (by decide)) (by decide) (Nat.le_trans (qbl _) (by decide)) | (simp; done)) fun au av eK eL dT bU bV=>?_)
  have bW:(⟨au,av,5,1,(qav flex null ((qaH s2).length) 2).length + (qaH s2).length,bc (qav flex null ((qaH s2).length) 2) ++ bc (qaH s2)⟩:Rw) = brow au av 5 (qav flex null ((qaH s2).length) 2 ++ (qaH s2)):=qcg (rfl) rfl
  obtain ⟨aK,dU⟩:=bU.rowEq 0 [brow au av 5 (qav flex null ((qaH s2).length) 2 ++ (qaH s2))] bW
  have bX:=EnvOk.pick bV (ks:=[42,43,44]) (env':=[(42,.v (.slice aI ((qav flex null ((qaH s2).length) 2).length) aJ)),(43,.v (.slice A6 ((qaH s2).length) c7)),(44,.v (.slice au ((qav flex null ((qaH s2).length) 2).length + (qaH s2).length) av))]) kz
  have bY:=bX.cast (env':=[(42,.v (.slice aI ((qav flex null ((qaH s2).length) 2).length) aJ)),(43,.v (.slice A6 ((qaH s2).length) c7)),(44,.v (.slice au ((qav flex null ((qaH s2).length) 2 ++ (qaH s2)).length) av))]) (by simp only [List.length_append,List.length_cons,List.length_nil,Nat.zero_add])
  refine qai [7] [] [(12,.v (.slice au ((qav flex null ((qaH s2).length) 2 ++ (qaH s2)).length) av))] aK bY fun eM bZ=>?_
  refine qae (qab ?_)
  refine wp_ret (qay (qat (qaM bZ aK.cells (v:=.slice au ((qav flex null ((qaH s2).length) 2 ++ (qaH s2)).length) av) kz ?_)))
  exact qbr aK (k:=0) rfl (by (try simp only [and1]); simp [qa2,Tree.S,Tree.N,ak,am,bA,ac,ae,ag,aE])
 have al:kind ≠ 8:=by simpa using ag
 refine qas [(0,.v (.int .i64 kind)),(1,.v (.slice A l.length c)),(2,.v (.bool null)),(3,.v (.int .i64 v)),(4,.v (.bool flex)),(11,.p 0 0),(16,.v (.int .i64 kind)),(45,.v (.bool (kind == 9)))] aa bt fun eN aL=>?_
 refine qaw aL (b:=kind == 9) kz (fun ab=>?_) (fun ab=>?_)
 ·
  have aZ:kind = 9:=by simpa using ab
  refine qaf [0,1,2,3] kz ?_
  refine qai [0,1] [2,3] [(2,.v (.bool null)),(4,.v (.bool flex)),(48,.v (.slice A6 s2.length c7))] aa aL fun eO b8=>?_
  have dL:=qbl s2
  refine qal (qak b8 (f:=37) (vs:=[.slice A6 s2.length c7]) (d:=49) kz Tryz.call37 (qdN _ _ s2 (aX.move aa.step nilM aa.imm).le _) ?_)
  rintro e_ eP ⟨rfl,ba⟩
  refine ⟨_,rfl,fun eQ cd=>?_⟩
  have af:=aa.next_nil ba
  have dV:=aa.frN ba
  refine qai [3] [] [(2,.v (.bool null)),(4,.v (.bool flex)),(15,.v (.slice A6 ((qaH s2).length) c7))] af cd fun eR ce=>?_
  refine qae (qab ?_)
  refine wp_seq (qas [(2,.v (.bool null)),(4,.v (.bool flex)),(15,.v (.slice A6 ((qaH s2).length) c7)),(50,.v (.bool null))] af ce fun eS aM=>?_)
  refine qaw aM (b:=null) kz (fun aN=>?_) (fun aN=>?_)
  ·
   refine qap [0] kz ?_
   refine qai [0] [] [(2,.v (.bool null)),(4,.v (.bool flex)),(15,.v (.slice none 0 0))] af aM fun eU cm=>?_
   refine qae (qab ?_)
   refine qaf [0,1,2,3,4,5,6,7] kz ?_
   refine qai [0,1,2,3] [4,5,6,7] [(15,.v (.slice none 0 0)),(51,.v (.bool flex)),(52,.v (.bool null)),(54,.v (.int .i64 0))] af cm fun eV cq=>?_
   refine qal (qak cq (f:=106) (vs:=[.bool flex,.bool null,.int .i64 0,.int .i64 4]) (d:=55) kz Tryz.call106 (qd8 flex null 0 4 (by first | omega | exact Nat.le_trans (qbl _) (by decide) | exact Nat.le_trans (qc6 _) (by decide) | (simp; done) | (have:=hroom; omega)) (by first | decide | omega) _) ?_)
   rintro e_ eW ⟨aO,aP,rfl,cr,cu⟩
   refine ⟨_,rfl,fun eX cw=>?_⟩
   obtain ⟨bd,dW⟩:=af.frFresh cu (brow aO aP 5 (qav flex null 0 4)) (Nat.le_refl _) cr
   refine qai [5] [6,7] [(55,.v (.slice aO ((qav flex null 0 4).length) aP)),(56,.v (.slice none 0 0))] bd cw fun eY cz=>?_
   refine qal (qaR bd cz (k:=0) (d:=57) (t:=22) (e:=5) (size:=1) (bytes:=1) (A:=aO) (As:=none) (m0:=((qav flex null 0 4).length)) (c:=aP) (m:=0) (cs:=0) (xs:=(bc (qav flex null 0 4))) (news:=bc ([]:Bs)) kz kz rfl (Octs.nil _ (fun _ _=>True)).src (fun _=>rfl) (by first | exact qdL (by omega) (by decide) (by omega) | exact qdL (Nat.le_trans (qbl _) (by decide)) (by decide) (Nat.le_trans (qbl _) (by decide)) | (simp; done)) fun aw ax eZ e9 dX cA cB=>?_)
   have cC:(⟨aw,ax,5,1,(qav flex null 0 4).length + 0,bc (qav flex null 0 4) ++ bc ([]:Bs)⟩:Rw) = brow aw ax 5 (qav flex null 0 4 ++ ([]:Bs)):=qcg (rfl) rfl
   obtain ⟨aQ,dY⟩:=cA.rowEq 0 [brow aw ax 5 (qav flex null 0 4 ++ ([]:Bs))] cC
   have cD:=EnvOk.pick cB (ks:=[55,56,57]) (env':=[(55,.v (.slice aO ((qav flex null 0 4).length) aP)),(56,.v (.slice none 0 0)),(57,.v (.slice aw ((qav flex null 0 4).length + 0) ax))]) kz
   have cE:=cD.cast (env':=[(55,.v (.slice aO ((qav flex null 0 4).length) aP)),(56,.v (.slice none 0 0)),(57,.v (.slice aw ((qav flex null 0 4 ++ ([]:Bs)).length) ax))]) (by simp only [List.length_append,List.length_cons,List.length_nil,Nat.zero_add])
   refine qai [7] [] [(12,.v (.slice aw ((qav flex null 0 4 ++ ([]:Bs)).length) ax))] aQ cE fun fa cG=>?_
   refine qae (qab ?_)
   refine wp_ret (qay (qat (qaM cG aQ.cells (v:=.slice aw ((qav flex null 0 4 ++ ([]:Bs)).length) ax) kz ?_)))
   exact qbr aQ (k:=0) rfl (by (try simp only [and1]); simp [qa2,Tree.S,Tree.N,ak,am,al,aZ,ac,ae,ag,ab,aN])
  refine wp_skip (qab (qaf [0,1,2,3,4,5,6,7] kz ?_))
  refine qai [0,1,2,3] [4,5,6,7] [(15,.v (.slice A6 ((qaH s2).length) c7)),(51,.v (.bool flex)),(52,.v (.bool null)),(54,.v (.int .i64 (((qaH s2).length:Nat):Int)))] af aM fun fb cH=>?_
  refine qal (qak cH (f:=106) (vs:=[.bool flex,.bool null,.int .i64 (((qaH s2).length:Nat):Int),.int .i64 4]) (d:=55) kz Tryz.call106 (qd8 flex null ((qaH s2).length) 4 (by first | omega | exact Nat.le_trans (qbl _) (by decide) | exact Nat.le_trans (qc6 _) (by decide) | (simp; done) | (have:=hroom; omega)) (by first | decide | omega) _) ?_)
  rintro e_ fe ⟨aR,aS,rfl,cI,cJ⟩
  refine ⟨_,rfl,fun ff cK=>?_⟩
  obtain ⟨ai,dZ⟩:=af.frFresh cJ (brow aR aS 5 (qav flex null ((qaH s2).length) 4)) (Nat.le_refl _) cI
  refine qai [5] [6,7] [(55,.v (.slice aR ((qav flex null ((qaH s2).length) 4).length) aS)),(56,.v (.slice A6 ((qaH s2).length) c7))] ai cK fun fg cL=>?_
  refine qal (qaR ai cL (k:=0) (d:=57) (t:=22) (e:=5) (size:=1) (bytes:=1) (A:=aR) (As:=A6) (m0:=((qav flex null ((qaH s2).length) 4).length)) (c:=aS) (m:=((qaH s2).length)) (cs:=c7) (xs:=(bc (qav flex null ((qaH s2).length) 4))) (news:=bc (qaH s2)) kz kz rfl ((aX.take 32767).move ai.step nilM ai.imm).src ((aX.take 32767).move ai.step nilM ai.imm).cap (by first | exact qdL (by omega) (by decide) (by omega) | exact qdL (Nat.le_trans (qbl _) (by decide)) (by decide) (Nat.le_trans (qbl _) (by decide)) | (simp; done)) fun ay az fh fi d5 cM cN=>?_)
  have cO:(⟨ay,az,5,1,(qav flex null ((qaH s2).length) 4).length + (qaH s2).length,bc (qav flex null ((qaH s2).length) 4) ++ bc (qaH s2)⟩:Rw) = brow ay az 5 (qav flex null ((qaH s2).length) 4 ++ (qaH s2)):=qcg (rfl) rfl
  obtain ⟨aT,d6⟩:=cM.rowEq 0 [brow ay az 5 (qav flex null ((qaH s2).length) 4 ++ (qaH s2))] cO
  have cP:=EnvOk.pick cN (ks:=[55,56,57]) (env':=[(55,.v (.slice aR ((qav flex null ((qaH s2).length) 4).length) aS)),(56,.v (.slice A6 ((qaH s2).length) c7)),(57,.v (.slice ay ((qav flex null ((qaH s2).length) 4).length + (qaH s2).length) az))]) kz
  have cQ:=cP.cast (env':=[(55,.v (.slice aR ((qav flex null ((qaH s2).length) 4).length) aS)),(56,.v (.slice A6 ((qaH s2).length) c7)),(57,.v (.slice ay ((qav flex null ((qaH s2).length) 4 ++ (qaH s2)).length) az))]) (by simp only [List.length_append,List.length_cons,List.length_nil,Nat.zero_add])
  refine qai [7] [] [(12,.v (.slice ay ((qav flex null ((qaH s2).length) 4 ++ (qaH s2)).length) az))] aT cQ fun fj cR=>?_
  refine qae (qab ?_)
  refine wp_ret (qay (qat (qaM cR aT.cells (v:=.slice ay ((qav flex null ((qaH s2).length) 4 ++ (qaH s2)).length) az) kz ?_)))
  exact qbr aT (k:=0) rfl (by (try simp only [and1]); simp [qa2,Tree.S,Tree.N,ak,am,al,aZ,ac,ae,ag,ab,aN])
 have aU:kind ≠ 9:=by simpa using ab
 refine qas [(0,.v (.int .i64 kind)),(1,.v (.slice A l.length c)),(3,.v (.int .i64 v)),(4,.v (.bool flex)),(11,.p 0 0),(58,.v (.bool (kind == 10)))] aa aL fun fk aV=>?_
 refine qaw aV (b:=kind == 10) kz (fun aj=>?_) (fun aj=>?_)
 ·
  have bf:kind = 10:=by simpa using aj
  refine qaf [0,1,2,3,4,5] kz ?_
  refine qai [0,1,2,3] [4,5] [(60,.v (.slice A l.length c)),(61,.v (.int .i64 v)),(62,.v (.bool flex)),(63,.v (.agg #[.int .i64 n1,.slice A6 s2.length c7,.bool b3,.slice A8 l4.length c9,.slice dh u5.length di]))] aa aV fun fm cS=>?_
  refine qal (qak cS (f:=29) (vs:=[.slice A l.length c,.int .i64 v,.bool flex,.agg #[.int .i64 n1,.slice A6 s2.length c7,.bool b3,.slice A8 l4.length c9,.slice dh u5.length di]]) (d:=64) kz Tryz.call29 (hp _ _ l v flex _ (Tree.mk n1 s2 b3 l4 u5) _ _ ⟨xfs,(h1.move aa.step nilM aa.imm),(fun i_ x_ h_=>((h2 i_ x_ h_).move aa.step nilM aa.imm))⟩ hd (ht.move aa.step nilM aa.imm) (by simpa [qa2,ak,am,al,aU,bf,ac,ae,ag,ab,aj] using hroom)) ?_)
  rintro e_ fo ⟨bu,bw,rfl,cT,cU⟩
  refine ⟨_,rfl,fun fq cV=>?_⟩
  obtain ⟨aW,d7⟩:=aa.frFresh cU (brow bu bw 5 (qa8 d l v flex (Tree.mk n1 s2 b3 l4 u5))) (Nat.le_refl _) cT
  refine qai [5] [] [(12,.v (.slice bu ((qa8 d l v flex (Tree.mk n1 s2 b3 l4 u5)).length) bw))] aW cV fun fr cW=>?_
  refine qae (qab ?_)
  refine wp_ret (qay (qat (qaM cW aW.cells (v:=.slice bu ((qa8 d l v flex (Tree.mk n1 s2 b3 l4 u5)).length) bw) kz ?_)))
  exact qbr aW (k:=0) rfl (by (try simp only [and1]); simp [qa2,Tree.S,Tree.N,ak,am,al,aU,bf,ac,ae,ag,ab,aj])
 have cX:kind ≠ 10:=by simpa using aj
 refine wp_skip (qar (qab (qaE 5 kz aa fun ft d8 bg cY=>?_)))
 refine qaB [0,1,2] [(66,.v (.int .i64 n1)),(67,.v (.int .i64 kind))] 3 (qaa qad) (fun _ h=>h.cells) cY aV fun fu cZ=>?_
 refine qam (i:=3) kz (qak cZ (f:=66) (vs:=[.int .i64 kind]) (d:=68) kz Tryz.call66 (qjy kind _) ?_)
 rintro e_ fv ⟨rfl,bh⟩
 refine ⟨_,rfl,fun fw c5=>?_⟩
 have bi:=bg.next_nil bh
 have bj:=bg.frN bh
 have c6:=TT.ofW bj bi
 refine ⟨fun _=>c6,?_⟩
 refine qam (i:=4) kz (qak c5 (f:=65) (vs:=[.int .i64 n1,.int .i64 ((qbH kind:Nat):Int)]) (d:=69) kz Tryz.call65 (qfL n1 (qbH kind) (by first | decide | exact qbM _ | omega) _) ?_)
 rintro e_ fx ⟨bx,bz,rfl,da,db⟩
 refine ⟨_,rfl,fun fy dc=>?_⟩
 obtain ⟨aA,de⟩:=bi.frFresh db (brow bx bz 5 (be (qbH kind) n1)) (Nat.le_refl _) da
 have df:=TT.ofW (bj.trans de) aA
 refine ⟨fun _=>df,?_⟩
 refine qam (i:=5) kz (qbf [12] aA.cells dc (env':=[(12,.v (.slice bx ((be (qbH kind) n1).length) bz))]) kz fun fz dg=>?_)
 refine ⟨fun h=>absurd rfl h,?_⟩
 refine qaz kz ?_ _
 refine qab (wp_ret (qaM dg aA.cells (v:=.slice bx ((be (qbH kind) n1).length) bz) kz ?_))
 exact qbr aA (k:=0) rfl (by (try simp only [and1]); simp [qa2,Tree.S,Tree.N,ak,am,al,aU,cX,ac,ae,ag,ab,aj])
theorem qlz {d:Nat} (hp:qjz d) (cf:List Value) (f:Fld) (v:Int) (flex:Bool) (ct:List Value) (t:Tree) (w:World) (F:Nat → Nat → Prop) (hf:FldR w F cf f) (hd:depths f.sub ≤ d) (ht:TreeR w F ct t) (hroom:(qc4 d f v flex t).length ≤ 1099511627776) :
  Calls Tryz.prog 62 #[.agg cf.toArray,.int .i64 v,.bool flex,.agg ct.toArray] w (qee w 5 (qc4 d f v flex t)):=by
 obtain ⟨n1,s2,b3,l4,u5,A6,c7,A8,c9,aK,aL,eY,rfl,rfl,eZ,dW,e9,gn⟩:=ht.open_
 have ev:=eZ.small
 have ew:=dW.small
 obtain ⟨ac,af,ag,ae,ah,ai,ab,aa,ay,az,bw,rfl,rfl,b8,dV⟩:=hf.open_
 have ey:=b8.small
 refine enter (n:=76) Tryz.func62 rfl Tryz.ntmps62 kz fun a hE=>?_
 have hW:=WOk.start w Nil
 refine qaf [0,1,2] kz ?_
 refine qal (qbq hW hE (d:=4) (cs:=(z7 ac af ag ae ah ai ab ay aa.length az)) kz fun ez gp gq fa fb fe dX dY=>?_)
 refine qal (qbq dX dY (d:=7) (cs:=(z1 n1 A6 s2.length c7 b3 A8 l4.length c9 aK u5.length aL)) kz fun eB gt gv ff fg fh bx dZ=>?_)
 refine qai [2] [] [(1,.v (.int .i64 v)),(2,.v (.bool flex)),(4,.p 0 0),(7,.p 1 0)] bx dZ fun gw d5=>?_
 refine qae (qab ?_)
 refine qaf [0,1,2,3,4] kz ?_
 refine qai [0,1,2] [3,4] [(1,.v (.int .i64 v)),(2,.v (.bool flex)),(4,.p 0 0),(7,.p 1 0),(13,.v (.agg #[.int .i64 ac,.int .i64 af,.int .i64 ag,.int .i64 ae,.int .i64 ah,.int .i64 ai,.int .i64 ab,.slice ay aa.length az])),(14,.v (.int .i64 v)),(15,.v (.agg #[.int .i64 n1,.slice A6 s2.length c7,.bool b3,.slice A8 l4.length c9,.slice aK u5.length aL]))] bx d5 fun gx d6=>?_
 refine qal (qak d6 (f:=67) (vs:=[.agg #[.int .i64 ac,.int .i64 af,.int .i64 ag,.int .i64 ae,.int .i64 ah,.int .i64 ai,.int .i64 ab,.slice ay aa.length az],.int .i64 v,.agg #[.int .i64 n1,.slice A6 s2.length c7,.bool b3,.slice A8 l4.length c9,.slice aK u5.length aL]]) (d:=16) kz Tryz.call67 (qk7 ac af ag ae ah ai ab aa _ _ v n1 s2 b3 l4 u5 _ _ _ _ _ _ _) ?_)
 rintro e_ gy ⟨rfl,cd⟩
 refine ⟨_,rfl,fun gz d7=>?_⟩
 have aj:=bx.next_nil cd
 have fi:=bx.frN cd
 refine qai [4] [] [(1,.v (.int .i64 v)),(2,.v (.bool flex)),(4,.p 0 0),(7,.p 1 0),(9,.v (.bool (z4 ac af ag ae ah ai ab aa v n1 s2 b3 l4 u5)))] aj d7 fun gA d8=>?_
 refine qae (qab ?_)
 refine wp_seq (qas [(1,.v (.int .i64 v)),(2,.v (.bool flex)),(4,.p 0 0),(7,.p 1 0),(9,.v (.bool (z4 ac af ag ae ah ai ab aa v n1 s2 b3 l4 u5))),(19,.v (.bool (ac == 11)))] aj d8 fun gB bM=>?_)
 refine qaw bM (b:=ac == 11) kz (fun bN=>?_) (fun bN=>?_)
 ·
  have fj:ac = 11:=by simpa using bN
  refine qaf [0,1,2,3] kz ?_
  refine qai [0,1] [2,3] [(1,.v (.int .i64 v)),(2,.v (.bool flex)),(4,.p 0 0),(9,.v (.bool (z4 ac af ag ae ah ai ab aa v n1 s2 b3 l4 u5))),(21,.v (.slice A8 l4.length c9))] aj bM fun gC d9=>?_
  refine qal (qak d9 (f:=68) (vs:=[.slice A8 l4.length c9]) (d:=22) kz Tryz.call68 (qgt _ _ l4 (dW.move aj.step nilM aj.imm).le _) ?_)
  rintro e_ gD ⟨rfl,ce⟩
  refine ⟨_,rfl,fun gE ea=>?_⟩
  have aB:=aj.next_nil ce
  have fk:=aj.frN ce
  refine qai [3] [] [(1,.v (.int .i64 v)),(2,.v (.bool flex)),(4,.p 0 0),(9,.v (.bool (z4 ac af ag ae ah ai ab aa v n1 s2 b3 l4 u5))),(10,.v (.slice A8 ((qaq l4).length) c9))] aB ea fun gF eb=>?_
  refine qae (qab ?_)
  refine wp_seq (qas [(1,.v (.int .i64 v)),(2,.v (.bool flex)),(4,.p 0 0),(9,.v (.bool (z4 ac af ag ae ah ai ab aa v n1 s2 b3 l4 u5))),(10,.v (.slice A8 ((qaq l4).length) c9)),(23,.v (.bool (z4 ac af ag ae ah ai ab aa v n1 s2 b3 l4 u5)))] aB eb fun gG bO=>?_)
  refine qaw bO (b:=Fld.nul (Fld.mk ac af ag ae ah ai ab aa) v (Tree.mk n1 s2 b3 l4 u5)) kz (fun ec=>?_) (fun ec=>?_)
  ·
   refine qap [0] kz ?_
   refine qai [0] [] [(1,.v (.int .i64 v)),(2,.v (.bool flex)),(4,.p 0 0),(9,.v (.bool (z4 ac af ag ae ah ai ab aa v n1 s2 b3 l4 u5))),(10,.v (.slice none 0 0))] aB bO fun gH ee=>?_
   refine qae (qab ?_)
   refine qaf [0,1,2,3,4,5] kz ?_
   refine qai [0,1,2,3] [4,5] [(1,.v (.int .i64 v)),(2,.v (.bool flex)),(4,.p 0 0),(10,.v (.slice none 0 0)),(24,.v (.bool flex)),(25,.v (.bool (z4 ac af ag ae ah ai ab aa v n1 s2 b3 l4 u5))),(27,.v (.int .i64 0))] aB ee fun gI ef=>?_
   refine qal (qak ef (f:=106) (vs:=[.bool flex,.bool (Fld.nul (Fld.mk ac af ag ae ah ai ab aa) v (Tree.mk n1 s2 b3 l4 u5)),.int .i64 0,.int .i64 4]) (d:=28) kz Tryz.call106 (qd8 flex (Fld.nul (Fld.mk ac af ag ae ah ai ab aa) v (Tree.mk n1 s2 b3 l4 u5)) 0 4 (by first | omega | exact Nat.le_trans (qbl _) (by decide) | exact Nat.le_trans (qc6 _) (by decide) | (simp; done) | (have:=hroom; omega)) (by first | decide | omega) _) ?_)
   rintro e_ gJ ⟨bY,bZ,rfl,eg,eh⟩
   refine ⟨_,rfl,fun gK ei=>?_⟩
   obtain ⟨bP,fm⟩:=aB.frFresh eh (brow bY bZ 5 (qav flex (z4 ac af ag ae ah ai ab aa v n1 s2 b3 l4 u5) 0 4)) (Nat.le_refl _) eg
   refine qai [5] [] [(1,.v (.int .i64 v)),(2,.v (.bool flex)),(4,.p 0 0),(10,.v (.slice none 0 0)),(11,.v (.slice bY ((qav flex (z4 ac af ag ae ah ai ab aa v n1 s2 b3 l4 u5) 0 4).length) bZ))] bP ei fun gL ej=>?_
   refine qae (qab ?_)
   refine wp_seq (qas [(1,.v (.int .i64 v)),(2,.v (.bool flex)),(4,.p 0 0),(10,.v (.slice none 0 0)),(11,.v (.slice bY ((qav flex (z4 ac af ag ae ah ai ab aa v n1 s2 b3 l4 u5) 0 4).length) bZ)),(30,.v (.int .i64 0)),(31,.v (.int .i64 0))] bP ej fun gM cm=>?_)
   refine wp_block ?_
   have hr2:(qav flex (Fld.nul (Fld.mk ac af ag ae ah ai ab aa) v (Tree.mk n1 s2 b3 l4 u5)) 0 4 ++ ([]:List Tree).flatMap (qa2 (qa8 d aa v flex) ab false flex)).length ≤ 1099511627776:=by have h_:=hroom; rw [qf2 ‹_› ‹_›] at h_; exact h_
   rw [List.length_append] at hr2
   have hr3:=qc7 ([]:List Tree) (qa2 (qa8 d aa v flex) ab false flex)
   have cq:(qav flex (Fld.nul (Fld.mk ac af ag ae ah ai ab aa) v (Tree.mk n1 s2 b3 l4 u5)) 0 4) = (qav flex (Fld.nul (Fld.mk ac af ag ae ah ai ab aa) v (Tree.mk n1 s2 b3 l4 u5)) 0 4 ++ (([]:List Tree).take 0).flatMap (qa2 (qa8 d aa v flex) ab false flex)):=by simp
   have cr:=congrArg (brow bY bZ 5) cq
   obtain ⟨bB,eC⟩:=bP.rowEq 0 [brow bY bZ 5 (qav flex (z4 ac af ag ae ah ai ab aa v n1 s2 b3 l4 u5) 0 4 ++ (([]:List Tree).take 0).flatMap (qa2 (qa8 d aa v flex) ab false flex))] cr
   rw [cq] at cm
   refine wp_loop_ghost (fun n_ a_ w_=>∃ (k:Nat) (A_:Option Addr) (c_:Nat),n_ = 0 - k ∧ k ≤ 0 ∧ LInv bB 76 [⟨ez,0,[.int .i64 ac,.int .i64 af,.int .i64 ag,.int .i64 ae,.int .i64 ah,.int .i64 ai,.int .i64 ab,.slice ay aa.length az],true⟩,⟨eB,0,[.int .i64 n1,.slice A6 s2.length c7,.bool b3,.slice A8 l4.length c9,.slice aK u5.length aL],true⟩] [brow A_ c_ 5 (qav flex (Fld.nul (Fld.mk ac af ag ae ah ai ab aa) v (Tree.mk n1 s2 b3 l4 u5)) 0 4 ++ (([]:List Tree).take k).flatMap (qa2 (qa8 d aa v flex) ab false flex))] [(1,.v (.int .i64 v)),(2,.v (.bool flex)),(4,.p 0 0),(10,.v (.slice none 0 0)),(11,.v (.slice A_ ((qav flex (Fld.nul (Fld.mk ac af ag ae ah ai ab aa) v (Tree.mk n1 s2 b3 l4 u5)) 0 4 ++ (([]:List Tree).take k).flatMap (qa2 (qa8 d aa v flex) ab false flex)).length) c_)),(30,.v (.int .i64 0)),(31,.v (.int .i64 ((k:Nat):Int)))] a_ w_) (0) ⟨0,bY,bZ,by omega,by omega,cm.pk,bB,Fr.refl _ _ _⟩ ?_
   rintro fo fq fr ⟨k,A_,c_,eD,eE,cu,aE,eF⟩
   refine qas [(1,.v (.int .i64 v)),(2,.v (.bool flex)),(4,.p 0 0),(10,.v (.slice none 0 0)),(11,.v (.slice A_ ((qav flex (z4 ac af ag ae ah ai ab aa v n1 s2 b3 l4 u5) 0 4 ++ (([]:List Tree).take k).flatMap (qa2 (qa8 d aa v flex) ab false flex)).length) c_)),(30,.v (.int .i64 0)),(31,.v (.int .i64 ((k:Nat):Int))),(32,.v (.bool (decide (((k:Nat):Int) < 0))))] aE cu fun ft bC=>?_
   refine wp_seq (qan bC (b:=decide (((k:Nat):Int) < 0)) kz (decide_eq_false (by omega)) ?_)
   refine wp_exit (qau (qau (qaI (qab (qas [(8,.v (.slice A_ ((qav flex (z4 ac af ag ae ah ai ab aa v n1 s2 b3 l4 u5) 0 4 ++ (([]:List Tree).take k).flatMap (qa2 (qa8 d aa v flex) ab false flex)).length) c_))] aE bC fun fu cw=>?_)))))
   refine wp_ret (qat (qaM cw aE.cells (v:=.slice A_ ((qav flex (z4 ac af ag ae ah ai ab aa v n1 s2 b3 l4 u5) 0 4 ++ (([]:List Tree).take k).flatMap (qa2 (qa8 d aa v flex) ab false flex)).length) c_) kz ?_))
   exact qbr aE (k:=0) rfl (by rw [qf2 ‹_› ‹_›]; simp)
  refine wp_skip (qab (qaf [0,1,2,3,4,5] kz ?_))
  refine qai [0,1,2,3] [4,5] [(1,.v (.int .i64 v)),(2,.v (.bool flex)),(4,.p 0 0),(10,.v (.slice A8 ((qaq l4).length) c9)),(24,.v (.bool flex)),(25,.v (.bool (z4 ac af ag ae ah ai ab aa v n1 s2 b3 l4 u5))),(27,.v (.int .i64 (((qaq l4).length:Nat):Int)))] aB bO fun fv cz=>?_
  refine qal (qak cz (f:=106) (vs:=[.bool flex,.bool (Fld.nul (Fld.mk ac af ag ae ah ai ab aa) v (Tree.mk n1 s2 b3 l4 u5)),.int .i64 (((qaq l4).length:Nat):Int),.int .i64 4]) (d:=28) kz Tryz.call106 (qd8 flex (Fld.nul (Fld.mk ac af ag ae ah ai ab aa) v (Tree.mk n1 s2 b3 l4 u5)) ((qaq l4).length) 4 (by first | omega | exact Nat.le_trans (qbl _) (by decide) | exact Nat.le_trans (qc6 _) (by decide) | (simp; done) | (have:=hroom; omega)) (by first | decide | omega) _) ?_)
  rintro e_ fw ⟨aM,aN,rfl,cA,cB⟩
  refine ⟨_,rfl,fun fx cC=>?_⟩
  obtain ⟨aO,eG⟩:=aB.frFresh cB (brow aM aN 5 (qav flex (z4 ac af ag ae ah ai ab aa v n1 s2 b3 l4 u5) ((qaq l4).length) 4)) (Nat.le_refl _) cA
  refine qai [5] [] [(1,.v (.int .i64 v)),(2,.v (.bool flex)),(4,.p 0 0),(10,.v (.slice A8 ((qaq l4).length) c9)),(11,.v (.slice aM ((qav flex (z4 ac af ag ae ah ai ab aa v n1 s2 b3 l4 u5) ((qaq l4).length) 4).length) aN))] aO cC fun fy cD=>?_
  refine qae (qab ?_)
  refine wp_seq (qas [(1,.v (.int .i64 v)),(2,.v (.bool flex)),(4,.p 0 0),(10,.v (.slice A8 ((qaq l4).length) c9)),(11,.v (.slice aM ((qav flex (z4 ac af ag ae ah ai ab aa v n1 s2 b3 l4 u5) ((qaq l4).length) 4).length) aN)),(30,.v (.int .i64 (((qaq l4).length:Nat):Int))),(31,.v (.int .i64 0))] aO cD fun fz bD=>?_)
  refine wp_block ?_
  have hr2:(qav flex (Fld.nul (Fld.mk ac af ag ae ah ai ab aa) v (Tree.mk n1 s2 b3 l4 u5)) ((qaq l4).length) 4 ++ (qaq l4).flatMap (qa2 (qa8 d aa v flex) ab false flex)).length ≤ 1099511627776:=by have h_:=hroom; rw [qgT ‹_› ‹_›] at h_; exact h_
  rw [List.length_append] at hr2
  have hr3:=qc7 (qaq l4) (qa2 (qa8 d aa v flex) ab false flex)
  have hsm3:(qaq l4).length ≤ 32767:=by simp only [qaq,List.length_take]; omega
  have bE:(qav flex (Fld.nul (Fld.mk ac af ag ae ah ai ab aa) v (Tree.mk n1 s2 b3 l4 u5)) ((qaq l4).length) 4) = (qav flex (Fld.nul (Fld.mk ac af ag ae ah ai ab aa) v (Tree.mk n1 s2 b3 l4 u5)) ((qaq l4).length) 4 ++ ((qaq l4).take 0).flatMap (qa2 (qa8 d aa v flex) ab false flex)):=by simp
  have cE:=congrArg (brow aM aN 5) bE
  obtain ⟨bF,eH⟩:=aO.rowEq 0 [brow aM aN 5 (qav flex (z4 ac af ag ae ah ai ab aa v n1 s2 b3 l4 u5) ((qaq l4).length) 4 ++ ((qaq l4).take 0).flatMap (qa2 (qa8 d aa v flex) ab false flex))] cE
  rw [bE] at bD
  refine wp_loop_ghost (fun n_ a_ w_=>∃ (k:Nat) (A_:Option Addr) (c_:Nat),n_ = (qaq l4).length - k ∧ k ≤ (qaq l4).length ∧ LInv bF 76 [⟨ez,0,[.int .i64 ac,.int .i64 af,.int .i64 ag,.int .i64 ae,.int .i64 ah,.int .i64 ai,.int .i64 ab,.slice ay aa.length az],true⟩,⟨eB,0,[.int .i64 n1,.slice A6 s2.length c7,.bool b3,.slice A8 l4.length c9,.slice aK u5.length aL],true⟩] [brow A_ c_ 5 (qav flex (Fld.nul (Fld.mk ac af ag ae ah ai ab aa) v (Tree.mk n1 s2 b3 l4 u5)) ((qaq l4).length) 4 ++ ((qaq l4).take k).flatMap (qa2 (qa8 d aa v flex) ab false flex))] [(1,.v (.int .i64 v)),(2,.v (.bool flex)),(4,.p 0 0),(10,.v (.slice A8 ((qaq l4).length) c9)),(11,.v (.slice A_ ((qav flex (Fld.nul (Fld.mk ac af ag ae ah ai ab aa) v (Tree.mk n1 s2 b3 l4 u5)) ((qaq l4).length) 4 ++ ((qaq l4).take k).flatMap (qa2 (qa8 d aa v flex) ab false flex)).length) c_)),(30,.v (.int .i64 (((qaq l4).length:Nat):Int))),(31,.v (.int .i64 ((k:Nat):Int)))] a_ w_) ((qaq l4).length) ⟨0,aM,aN,by omega,by omega,bD.pk,bF,Fr.refl _ _ _⟩ ?_
  rintro fA fB fC ⟨k,A_,c_,eI,eJ,cG,ax,cH⟩
  refine qas [(1,.v (.int .i64 v)),(2,.v (.bool flex)),(4,.p 0 0),(10,.v (.slice A8 ((qaq l4).length) c9)),(11,.v (.slice A_ ((qav flex (z4 ac af ag ae ah ai ab aa v n1 s2 b3 l4 u5) ((qaq l4).length) 4 ++ ((qaq l4).take k).flatMap (qa2 (qa8 d aa v flex) ab false flex)).length) c_)),(30,.v (.int .i64 (((qaq l4).length:Nat):Int))),(31,.v (.int .i64 ((k:Nat):Int))),(32,.v (.bool (decide (((k:Nat):Int) < (((qaq l4).length:Nat):Int)))))] ax cG fun fD aP=>?_
  refine wp_seq (qaw aP (b:=decide (((k:Nat):Int) < (((qaq l4).length:Nat):Int))) kz (fun aQ=>?_) (fun aQ=>?_))
  ·
   have eK:=zD aQ
   refine wp_skip (qab (wp_seq (wp_block (qas [(1,.v (.int .i64 v)),(2,.v (.bool flex)),(4,.p 0 0),(10,.v (.slice A8 ((qaq l4).length) c9)),(11,.v (.slice A_ ((qav flex (z4 ac af ag ae ah ai ab aa v n1 s2 b3 l4 u5) ((qaq l4).length) 4 ++ ((qaq l4).take k).flatMap (qa2 (qa8 d aa v flex) ab false flex)).length) c_)),(12,.v (.int .i64 ((k:Nat):Int))),(30,.v (.int .i64 (((qaq l4).length:Nat):Int))),(31,.v (.int .i64 ((k:Nat):Int)))] ax aP fun fE cI=>?_))))
   refine qcu 13 kz ax fun fF cJ ar aR=>?_
   refine qaB [0,1,2,3,4,5,6,7,8] [(1,.v (.int .i64 v)),(2,.v (.bool flex)),(4,.p 0 0),(10,.v (.slice A8 ((qaq l4).length) c9)),(11,.v (.slice A_ ((qav flex (z4 ac af ag ae ah ai ab aa v n1 s2 b3 l4 u5) ((qaq l4).length) 4 ++ ((qaq l4).take k).flatMap (qa2 (qa8 d aa v flex) ab false flex)).length) c_)),(30,.v (.int .i64 (((qaq l4).length:Nat):Int))),(31,.v (.int .i64 ((k:Nat):Int))),(34,.v (.slice A_ ((qav flex (z4 ac af ag ae ah ai ab aa v n1 s2 b3 l4 u5) ((qaq l4).length) 4 ++ ((qaq l4).take k).flatMap (qa2 (qa8 d aa v flex) ab false flex)).length) c_)),(36,.v (.int .i64 ab)),(38,.v (.slice ay aa.length az)),(39,.v (.int .i64 v)),(40,.v (.bool flex)),(41,.v (.slice A8 ((qaq l4).length) c9)),(42,.v (.int .i64 ((k:Nat):Int)))] 5 (qac (qaa (qaa (qac (qaa (qaa qad)))))) (fun _ h=>h.cells) aR cI fun fG cK=>?_
   obtain ⟨bQ,bR,cL,eL,aS⟩:=Slots.get (qdh dW) (i:=k) (by omega)
   obtain ⟨ek,aF⟩:∃ x,(qaq l4)[k]? = some x:=⟨_,List.getElem?_eq_getElem (by omega)⟩
   have aT:=(qdz e9) k ek aF
   obtain ⟨ak,al,am,ao,ap,aU,aV,aW,aX,aY,aZ,eM,rfl,ba,em,eo,fH,fI⟩:=aT.open_
   rw [ba] at aT
   have ep:=em.small
   have eu:=eo.small
   rw [ba] at aS
   refine qaD cK (i:=9) (t:=23) (A:=A8) (m:=((qaq l4).length)) (q:=((k:Nat):Int)) (d:=43) kz (e:=26) (size:=5) (bytes:=88) kz cL rfl (by omega) kz kz (qac (qaa (qaa (qac (qaa (qaa qad)))))) aR fun fJ cM=>?_
   refine qa0 cM (i:=10) (t:=26) (b:=bQ) (o:=bR + k * 5) (d:=44) kz (cs:=(z1 ak aU al.length aV am aW ao.length aX aY ap.length aZ)) (v:=.agg #[.int .i64 ak,.slice aU al.length aV,.bool am,.slice aW ao.length aX,.slice aY ap.length aZ]) kz (fun w' h'=>(AtF.move aS (TT.step0 ar h') nilM qa9).at_) kz kz (qac (qaa (qaa (qac (qaa (qaa qad)))))) aR fun fK cN=>?_
   refine qam (i:=11) kz (qak cN (f:=107) (vs:=[.int .i64 ab,.slice ay aa.length az,.bool false,.int .i64 v,.bool flex,.agg #[.int .i64 ak,.slice aU al.length aV,.bool am,.slice aW ao.length aX,.slice aY ap.length aZ]]) (d:=45) kz Tryz.call107 (qjA hp ab _ _ aa false v flex _ (Tree.mk ak al am ao ap) _ _ ⟨bw,(b8.move ar.step nilM ar.imm),(fun i_ x_ h_=>((dV i_ x_ h_).move ar.step nilM ar.imm))⟩ hd (aT.move ar.step nilM ar.imm) (by have:=qf1 (g:=qa2 (qa8 d aa v flex) ab false flex) aF; omega)) ?_)
   rintro e_ fL ⟨bd,bf,rfl,cO,cP⟩
   refine ⟨_,rfl,fun fM cQ=>?_⟩
   obtain ⟨aG,bg⟩:=ar.frFresh cP (brow bd bf 5 (qa2 (qa8 d aa v flex) ab false flex (Tree.mk ak al am ao ap))) (Nat.le_refl _) cO
   have cR:=TT.ofW bg aG
   refine ⟨fun _=>cR,?_⟩
   refine qam (i:=12) kz (qaR aG cQ (k:=0) (d:=46) (t:=22) (e:=5) (size:=1) (bytes:=1) (A:=A_) (As:=bd) (m0:=((qav flex (Fld.nul (Fld.mk ac af ag ae ah ai ab aa) v (Tree.mk n1 s2 b3 l4 u5)) ((qaq l4).length) 4 ++ ((qaq l4).take k).flatMap (qa2 (qa8 d aa v flex) ab false flex)).length)) (c:=c_) (m:=((qa2 (qa8 d aa v flex) ab false flex (Tree.mk ak al am ao ap)).length)) (cs:=bf) (xs:=(bc (qav flex (Fld.nul (Fld.mk ac af ag ae ah ai ab aa) v (Tree.mk n1 s2 b3 l4 u5)) ((qaq l4).length) 4 ++ ((qaq l4).take k).flatMap (qa2 (qa8 d aa v flex) ab false flex)))) (news:=bc (qa2 (qa8 d aa v flex) ab false flex (Tree.mk ak al am ao ap))) kz kz rfl (qby (aG.own 1 _ rfl) (qdC _)) (qbE (aG.own 1 _ rfl)) (by rw [List.length_append]; have h8_:=hr3 k; have h9_:=qf1 (g:=qa2 (qa8 d aa v flex) ab false flex) aF; omega) fun av aw fN fO bG cS cT=>?_)
   have cU:(⟨av,aw,5,1,(qav flex (z4 ac af ag ae ah ai ab aa v n1 s2 b3 l4 u5) ((qaq l4).length) 4 ++ ((qaq l4).take k).flatMap (qa2 (qa8 d aa v flex) ab false flex)).length + (qa2 (qa8 d aa v flex) ab false flex (Tree.mk ak al am ao ap)).length,bc (qav flex (z4 ac af ag ae ah ai ab aa v n1 s2 b3 l4 u5) ((qaq l4).length) 4 ++ ((qaq l4).take k).flatMap (qa2 (qa8 d aa v flex) ab false flex)) ++ bc (qa2 (qa8 d aa v flex) ab false flex (Tree.mk ak al am ao ap))⟩:Rw) = brow av aw 5 (qav flex (z4 ac af ag ae ah ai ab aa v n1 s2 b3 l4 u5) ((qaq l4).length) 4 ++ ((qaq l4).take k).flatMap (qa2 (qa8 d aa v flex) ab false flex) ++ (qa2 (qa8 d aa v flex) ab false flex (Tree.mk ak al am ao ap))):=qcg (rfl) rfl
   obtain ⟨aH,bH⟩:=cS.rowEq 0 [brow av aw 5 (qav flex (z4 ac af ag ae ah ai ab aa v n1 s2 b3 l4 u5) ((qaq l4).length) 4 ++ ((qaq l4).take k).flatMap (qa2 (qa8 d aa v flex) ab false flex) ++ (qa2 (qa8 d aa v flex) ab false flex (Tree.mk ak al am ao ap))),brow bd bf 5 (qa2 (qa8 d aa v flex) ab false flex (Tree.mk ak al am ao ap))] cU
   have cV:=EnvOk.pick cT (ks:=[1,2,4,10,11,30,31,34,36,38,39,40,41,42,43,44,45,46]) (env':=[(1,.v (.int .i64 v)),(2,.v (.bool flex)),(4,.p 0 0),(10,.v (.slice A8 ((qaq l4).length) c9)),(11,.v (.slice A_ ((qav flex (z4 ac af ag ae ah ai ab aa v n1 s2 b3 l4 u5) ((qaq l4).length) 4 ++ ((qaq l4).take k).flatMap (qa2 (qa8 d aa v flex) ab false flex)).length) c_)),(30,.v (.int .i64 (((qaq l4).length:Nat):Int))),(31,.v (.int .i64 ((k:Nat):Int))),(34,.v (.slice A_ ((qav flex (z4 ac af ag ae ah ai ab aa v n1 s2 b3 l4 u5) ((qaq l4).length) 4 ++ ((qaq l4).take k).flatMap (qa2 (qa8 d aa v flex) ab false flex)).length) c_)),(36,.v (.int .i64 ab)),(38,.v (.slice ay aa.length az)),(39,.v (.int .i64 v)),(40,.v (.bool flex)),(41,.v (.slice A8 ((qaq l4).length) c9)),(42,.v (.int .i64 ((k:Nat):Int))),(43,.v (.pointer (some ⟨bQ,bR + k * 5,none⟩))),(44,.v (.agg #[.int .i64 ak,.slice aU al.length aV,.bool am,.slice aW ao.length aX,.slice aY ap.length aZ])),(45,.v (.slice bd ((qa2 (qa8 d aa v flex) ab false flex (Tree.mk ak al am ao ap)).length) bf)),(46,.v (.slice av ((qav flex (z4 ac af ag ae ah ai ab aa v n1 s2 b3 l4 u5) ((qaq l4).length) 4 ++ ((qaq l4).take k).flatMap (qa2 (qa8 d aa v flex) ab false flex)).length + (qa2 (qa8 d aa v flex) ab false flex (Tree.mk ak al am ao ap)).length) aw))]) kz
   have cW:=cV.cast (env':=[(1,.v (.int .i64 v)),(2,.v (.bool flex)),(4,.p 0 0),(10,.v (.slice A8 ((qaq l4).length) c9)),(11,.v (.slice A_ ((qav flex (Fld.nul (Fld.mk ac af ag ae ah ai ab aa) v (Tree.mk n1 s2 b3 l4 u5)) ((qaq l4).length) 4 ++ ((qaq l4).take k).flatMap (qa2 (qa8 d aa v flex) ab false flex)).length) c_)),(30,.v (.int .i64 (((qaq l4).length:Nat):Int))),(31,.v (.int .i64 ((k:Nat):Int))),(34,.v (.slice A_ ((qav flex (Fld.nul (Fld.mk ac af ag ae ah ai ab aa) v (Tree.mk n1 s2 b3 l4 u5)) ((qaq l4).length) 4 ++ ((qaq l4).take k).flatMap (qa2 (qa8 d aa v flex) ab false flex)).length) c_)),(36,.v (.int .i64 ab)),(38,.v (.slice ay aa.length az)),(39,.v (.int .i64 v)),(40,.v (.bool flex)),(41,.v (.slice A8 ((qaq l4).length) c9)),(42,.v (.int .i64 ((k:Nat):Int))),(43,.v (.pointer (some ⟨bQ,bR + k * 5,none⟩))),(44,.v (.agg #[.int .i64 ak,.slice aU al.length aV,.bool am,.slice aW ao.length aX,.slice aY ap.length aZ])),(45,.v (.slice bd ((qa2 (qa8 d aa v flex) ab false flex (Tree.mk ak al am ao ap)).length) bf)),(46,.v (.slice av ((qav flex (Fld.nul (Fld.mk ac af ag ae ah ai ab aa) v (Tree.mk n1 s2 b3 l4 u5)) ((qaq l4).length) 4 ++ ((qaq l4).take k).flatMap (qa2 (qa8 d aa v flex) ab false flex) ++ (qa2 (qa8 d aa v flex) ab false flex (Tree.mk ak al am ao ap))).length) aw))]) (by simp only [List.length_append,List.length_cons,List.length_nil,Nat.zero_add])
   have cX:=TT.ofW ((bg.trans bG).trans bH) aH
   refine ⟨fun _=>cX,?_⟩
   refine qam (i:=13) kz (qbf [1,2,4,10,11,30,31] aH.cells cW (env':=[(1,.v (.int .i64 v)),(2,.v (.bool flex)),(4,.p 0 0),(10,.v (.slice A8 ((qaq l4).length) c9)),(11,.v (.slice av ((qav flex (z4 ac af ag ae ah ai ab aa v n1 s2 b3 l4 u5) ((qaq l4).length) 4 ++ ((qaq l4).take k).flatMap (qa2 (qa8 d aa v flex) ab false flex) ++ (qa2 (qa8 d aa v flex) ab false flex (Tree.mk ak al am ao ap))).length) aw)),(30,.v (.int .i64 (((qaq l4).length:Nat):Int))),(31,.v (.int .i64 ((k:Nat):Int)))]) kz fun fP cY=>?_)
   refine ⟨fun h=>absurd rfl h,?_⟩
   refine qaz kz ?_ _
   refine qar (qab (qap [0,1] kz ?_))
   refine qai [0,1] [] [(1,.v (.int .i64 v)),(2,.v (.bool flex)),(4,.p 0 0),(10,.v (.slice A8 ((qaq l4).length) c9)),(11,.v (.slice av ((qav flex (z4 ac af ag ae ah ai ab aa v n1 s2 b3 l4 u5) ((qaq l4).length) 4 ++ ((qaq l4).take k).flatMap (qa2 (qa8 d aa v flex) ab false flex) ++ (qa2 (qa8 d aa v flex) ab false flex (Tree.mk ak al am ao ap))).length) aw)),(30,.v (.int .i64 (((qaq l4).length:Nat):Int))),(31,.v (.int .i64 (IntKind.i64.wrap (((k:Nat):Int) + 1))))] aH cY fun fQ bh=>?_
   refine qae (qab ?_)
   obtain ⟨cZ,c5⟩:=aH.cutR 1 [brow av aw 5 (qav flex (z4 ac af ag ae ah ai ab aa v n1 s2 b3 l4 u5) ((qaq l4).length) 4 ++ ((qaq l4).take k).flatMap (qa2 (qa8 d aa v flex) ab false flex) ++ (qa2 (qa8 d aa v flex) ab false flex (Tree.mk ak al am ao ap)))]
   have bI:(qav flex (Fld.nul (Fld.mk ac af ag ae ah ai ab aa) v (Tree.mk n1 s2 b3 l4 u5)) ((qaq l4).length) 4 ++ ((qaq l4).take k).flatMap (qa2 (qa8 d aa v flex) ab false flex) ++ (qa2 (qa8 d aa v flex) ab false flex (Tree.mk ak al am ao ap))) = (qav flex (Fld.nul (Fld.mk ac af ag ae ah ai ab aa) v (Tree.mk n1 s2 b3 l4 u5)) ((qaq l4).length) 4 ++ ((qaq l4).take (k + 1)).flatMap (qa2 (qa8 d aa v flex) ab false flex)):=by rw [qds aF,List.append_assoc]
   have c6:=congrArg (brow av aw 5) bI
   obtain ⟨da,db⟩:=cZ.rowEq 0 [brow av aw 5 (qav flex (z4 ac af ag ae ah ai ab aa v n1 s2 b3 l4 u5) ((qaq l4).length) 4 ++ ((qaq l4).take (k + 1)).flatMap (qa2 (qa8 d aa v flex) ab false flex))] c6
   rw [bI] at bh
   have dc:IntKind.i64.wrap (((k:Nat):Int) + 1) = ((k + 1:Nat):Int):=qaO (by omega)
   rw [dc] at bh
   exact ⟨(qaq l4).length - (k + 1),by omega,k + 1,av,aw,rfl,by omega,bh.pk,da,((((((cH.trans cJ).trans bg).trans bG).trans bH).trans c5).trans db)⟩
  have eN:=zF aQ
  refine wp_exit (qau (qau (qaI (qab (qas [(8,.v (.slice A_ ((qav flex (z4 ac af ag ae ah ai ab aa v n1 s2 b3 l4 u5) ((qaq l4).length) 4 ++ ((qaq l4).take k).flatMap (qa2 (qa8 d aa v flex) ab false flex)).length) c_))] ax aP fun fR de=>?_)))))
  refine wp_ret (qat (qaM de ax.cells (v:=.slice A_ ((qav flex (z4 ac af ag ae ah ai ab aa v n1 s2 b3 l4 u5) ((qaq l4).length) 4 ++ ((qaq l4).take k).flatMap (qa2 (qa8 d aa v flex) ab false flex)).length) c_) kz ?_))
  have hkk:(qaq l4).take k = qaq l4:=List.take_of_length_le (by omega)
  exact qbr ax (k:=0) rfl (by rw [hkk,qgT ‹_› ‹_›]; rfl)
 have eO:ac ≠ 11:=by simpa using bN
 refine wp_skip (qab (wp_seq (qaf [0,1,2,3,4,5,6,7] kz ?_)))
 refine qai [0,1,2,3] [4,5,6,7] [(1,.v (.int .i64 v)),(2,.v (.bool flex)),(4,.p 0 0),(7,.p 1 0),(9,.v (.bool (z4 ac af ag ae ah ai ab aa v n1 s2 b3 l4 u5))),(52,.v (.bool (ac == 10)))] aj bM fun fS bJ=>?_
 refine (zO (ac == 10)).elim (fun aA=>?_) (fun aA=>?_)
 ·
  have eP:ac = 10:=by simpa using aA
  have df:=bJ
  rw [aA] at df
  refine qai [4,5,6,7] [] [(1,.v (.int .i64 v)),(2,.v (.bool flex)),(4,.p 0 0),(7,.p 1 0),(9,.v (.bool (z4 ac af ag ae ah ai ab aa v n1 s2 b3 l4 u5))),(56,.v (.bool (decide (ae ≥ 0))))] aj df fun fT bi=>?_
  refine qae (qab ?_)
  refine qaw bi (b:=decide (ae ≥ 0)) kz (fun bj=>?_) (fun bj=>?_)
  ·
   have eQ:=zD bj
   refine wp_seq (qas [(1,.v (.int .i64 v)),(2,.v (.bool flex)),(4,.p 0 0),(7,.p 1 0),(57,.v (.bool (z4 ac af ag ae ah ai ab aa v n1 s2 b3 l4 u5)))] aj bi fun fU bk=>?_)
   refine qaw bk (b:=Fld.nul (Fld.mk ac af ag ae ah ai ab aa) v (Tree.mk n1 s2 b3 l4 u5)) kz (fun dg=>?_) (fun dg=>?_)
   ·
    refine qaf [0,1] kz ?_
    refine qal (qak bk (f:=65) (vs:=[.int .i64 (-1),.int .i64 1]) (d:=58) kz Tryz.call65 (qfL (-1) 1 (by first | decide | exact qbM _ | omega) _) ?_)
    rintro e_ fV ⟨bS,bT,rfl,dh,di⟩
    refine ⟨_,rfl,fun fW dj=>?_⟩
    obtain ⟨bn,eR⟩:=aj.frFresh di (brow bS bT 5 (be 1 (-1))) (Nat.le_refl _) dh
    refine qai [1] [] [(8,.v (.slice bS ((be 1 (-1)).length) bT))] bn dj fun fX dl=>?_
    refine qae (qab ?_)
    refine wp_ret (qat (qat (qaM dl bn.cells (v:=.slice bS ((be 1 (-1)).length) bT) kz ?_)))
    exact qbr bn (k:=0) rfl (by first | rw [qdY ‹_› ‹_›] | rw [qdX ‹_› ‹_› ‹_›] | rw [qdt ‹_› ‹_› ‹_› ‹_›] | rw [qdW ‹_› ‹_› ‹_› ‹_›])
   refine wp_skip (qab (qaE 8 kz aj fun fY eS dp dq=>?_))
   refine qaB [1,2,3,4,5] [(61,.v (.slice ay aa.length az)),(62,.v (.int .i64 v)),(63,.v (.bool flex)),(64,.v (.agg #[.int .i64 n1,.slice A6 s2.length c7,.bool b3,.slice A8 l4.length c9,.slice aK u5.length aL]))] 4 (qaa (qaa qad)) (fun _ h=>h.cells) dq bk fun fZ dr=>?_
   refine qam (i:=0) kz (qak dr (f:=65) (vs:=[.int .i64 1,.int .i64 1]) (d:=59) kz Tryz.call65 (qfL 1 1 (by first | decide | exact qbM _ | omega) _) ?_)
   rintro e_ f5 ⟨bz,bA,rfl,dt,du⟩
   refine ⟨_,rfl,fun f7 dv=>?_⟩
   obtain ⟨au,bo⟩:=dp.frFresh du (brow bz bA 5 (be 1 1)) (Nat.le_refl _) dt
   have dw:=TT.ofW bo au
   refine ⟨fun _=>dw,?_⟩
   refine qam (i:=6) kz (qak dv (f:=29) (vs:=[.slice ay aa.length az,.int .i64 v,.bool flex,.agg #[.int .i64 n1,.slice A6 s2.length c7,.bool b3,.slice A8 l4.length c9,.slice aK u5.length aL]]) (d:=65) kz Tryz.call29 (hp _ _ aa v flex _ (Tree.mk n1 s2 b3 l4 u5) _ _ ⟨bw,(b8.move au.step nilM au.imm),(fun i_ x_ h_=>((dV i_ x_ h_).move au.step nilM au.imm))⟩ hd (ht.move au.step nilM au.imm) (by have h9_:=hroom; rw [qdt ‹_› ‹_› ‹_› ‹_›,List.length_append] at h9_; omega)) ?_)
   rintro e_ f8 ⟨bp,bq,rfl,dx,dy⟩
   refine ⟨_,rfl,fun f9 dz=>?_⟩
   obtain ⟨aI,bK⟩:=au.frFresh dy (brow bp bq 5 (qa8 d aa v flex (Tree.mk n1 s2 b3 l4 u5))) (Nat.le_refl _) dx
   have dA:=TT.ofW (bo.trans bK) aI
   refine ⟨fun _=>dA,?_⟩
   refine qam (i:=7) kz (qaR aI dz (k:=0) (d:=66) (t:=22) (e:=5) (size:=1) (bytes:=1) (A:=bz) (As:=bp) (m0:=((be 1 1).length)) (c:=bA) (m:=((qa8 d aa v flex (Tree.mk n1 s2 b3 l4 u5)).length)) (cs:=bq) (xs:=(bc (be 1 1))) (news:=bc (qa8 d aa v flex (Tree.mk n1 s2 b3 l4 u5))) kz kz rfl (qby (aI.own 1 _ rfl) (qdC _)) (qbE (aI.own 1 _ rfl)) (by have h9_:=hroom; rw [qdt ‹_› ‹_› ‹_› ‹_›,List.length_append] at h9_; omega) fun aC aD ga gb dB dC dD=>?_)
   have dE:(⟨aC,aD,5,1,(be 1 1).length + (qa8 d aa v flex (Tree.mk n1 s2 b3 l4 u5)).length,bc (be 1 1) ++ bc (qa8 d aa v flex (Tree.mk n1 s2 b3 l4 u5))⟩:Rw) = brow aC aD 5 (be 1 1 ++ (qa8 d aa v flex (Tree.mk n1 s2 b3 l4 u5))):=qcg (rfl) rfl
   obtain ⟨aJ,dF⟩:=dC.rowEq 0 [brow aC aD 5 (be 1 1 ++ (qa8 d aa v flex (Tree.mk n1 s2 b3 l4 u5))),brow bp bq 5 (qa8 d aa v flex (Tree.mk n1 s2 b3 l4 u5))] dE
   have dG:=EnvOk.pick dD (ks:=[61,62,63,64,59,65,66]) (env':=[(61,.v (.slice ay aa.length az)),(62,.v (.int .i64 v)),(63,.v (.bool flex)),(64,.v (.agg #[.int .i64 n1,.slice A6 s2.length c7,.bool b3,.slice A8 l4.length c9,.slice aK u5.length aL])),(59,.v (.slice bz ((be 1 1).length) bA)),(65,.v (.slice bp ((qa8 d aa v flex (Tree.mk n1 s2 b3 l4 u5)).length) bq)),(66,.v (.slice aC ((be 1 1).length + (qa8 d aa v flex (Tree.mk n1 s2 b3 l4 u5)).length) aD))]) kz
   have dH:=dG.cast (env':=[(61,.v (.slice ay aa.length az)),(62,.v (.int .i64 v)),(63,.v (.bool flex)),(64,.v (.agg #[.int .i64 n1,.slice A6 s2.length c7,.bool b3,.slice A8 l4.length c9,.slice aK u5.length aL])),(59,.v (.slice bz ((be 1 1).length) bA)),(65,.v (.slice bp ((qa8 d aa v flex (Tree.mk n1 s2 b3 l4 u5)).length) bq)),(66,.v (.slice aC ((be 1 1 ++ (qa8 d aa v flex (Tree.mk n1 s2 b3 l4 u5))).length) aD))]) (by simp only [List.length_append,List.length_cons,List.length_nil,Nat.zero_add])
   have dI:=TT.ofW (((bo.trans bK).trans dB).trans dF) aJ
   refine ⟨fun _=>dI,?_⟩
   refine qam (i:=8) kz (qbf [8] aJ.cells dH (env':=[(8,.v (.slice aC ((be 1 1 ++ (qa8 d aa v flex (Tree.mk n1 s2 b3 l4 u5))).length) aD))]) kz fun gc dJ=>?_)
   refine ⟨fun h=>absurd rfl h,?_⟩
   refine qaz kz ?_ _
   refine qab (wp_ret (qat (qaM dJ aJ.cells (v:=.slice aC ((be 1 1 ++ (qa8 d aa v flex (Tree.mk n1 s2 b3 l4 u5))).length) aD) kz ?_)))
   exact qbr aJ (k:=0) rfl (by first | rw [qdY ‹_› ‹_›] | rw [qdX ‹_› ‹_› ‹_›] | rw [qdt ‹_› ‹_› ‹_› ‹_›] | rw [qdW ‹_› ‹_› ‹_› ‹_›])
  have eU:=zF bj
  refine wp_skip (qab (qaf [0,1,2,3,4,5,6,7,8,9] kz ?_))
  refine qai [0,1,2,3,4,5,6,7] [8,9] [(68,.v (.int .i64 ac)),(70,.v (.slice ay aa.length az)),(71,.v (.bool (z4 ac af ag ae ah ai ab aa v n1 s2 b3 l4 u5))),(72,.v (.int .i64 v)),(73,.v (.bool flex)),(74,.v (.agg #[.int .i64 n1,.slice A6 s2.length c7,.bool b3,.slice A8 l4.length c9,.slice aK u5.length aL]))] aj bi fun gd dK=>?_
  refine qal (qak dK (f:=107) (vs:=[.int .i64 ac,.slice ay aa.length az,.bool (Fld.nul (Fld.mk ac af ag ae ah ai ab aa) v (Tree.mk n1 s2 b3 l4 u5)),.int .i64 v,.bool flex,.agg #[.int .i64 n1,.slice A6 s2.length c7,.bool b3,.slice A8 l4.length c9,.slice aK u5.length aL]]) (d:=75) kz Tryz.call107 (qjA hp ac _ _ aa (Fld.nul (Fld.mk ac af ag ae ah ai ab aa) v (Tree.mk n1 s2 b3 l4 u5)) v flex _ (Tree.mk n1 s2 b3 l4 u5) _ _ ⟨bw,(b8.move aj.step nilM aj.imm),(fun i_ x_ h_=>((dV i_ x_ h_).move aj.step nilM aj.imm))⟩ hd (ht.move aj.step nilM aj.imm) (by have h_:=hroom; (first | rw [qdY ‹_› ‹_›] at h_ | rw [qdX ‹_› ‹_› ‹_›] at h_); exact h_)) ?_)
  rintro e_ ge ⟨bU,bV,rfl,dL,dM⟩
  refine ⟨_,rfl,fun gg dN=>?_⟩
  obtain ⟨bt,eV⟩:=aj.frFresh dM (brow bU bV 5 (qa2 (qa8 d aa v flex) ac (z4 ac af ag ae ah ai ab aa v n1 s2 b3 l4 u5) flex (Tree.mk n1 s2 b3 l4 u5))) (Nat.le_refl _) dL
  refine qai [9] [] [(8,.v (.slice bU ((qa2 (qa8 d aa v flex) ac (z4 ac af ag ae ah ai ab aa v n1 s2 b3 l4 u5) flex (Tree.mk n1 s2 b3 l4 u5)).length) bV))] bt dN fun gh dO=>?_
  refine qae (qab ?_)
  refine wp_ret (qaM dO bt.cells (v:=.slice bU ((qa2 (qa8 d aa v flex) ac (z4 ac af ag ae ah ai ab aa v n1 s2 b3 l4 u5) flex (Tree.mk n1 s2 b3 l4 u5)).length) bV) kz ?_)
  exact qbr bt (k:=0) rfl (by first | rw [qdY ‹_› ‹_›] | rw [qdX ‹_› ‹_› ‹_›] | rw [qdt ‹_› ‹_› ‹_› ‹_›] | rw [qdW ‹_› ‹_› ‹_› ‹_›])
 have eW:ac ≠ 10:=by simpa using aA
 have dP:=bJ.cast (env':=[(1,.v (.int .i64 v)),(2,.v (.bool flex)),(4,.p 0 0),(7,.p 1 0),(9,.v (.bool (Fld.nul (Fld.mk ac af ag ae ah ai ab aa) v (Tree.mk n1 s2 b3 l4 u5)))),(52,.v (.bool false))]) (by rw [aA])
 refine qai [4,5,6,7] [] [(1,.v (.int .i64 v)),(2,.v (.bool flex)),(4,.p 0 0),(7,.p 1 0),(9,.v (.bool (z4 ac af ag ae ah ai ab aa v n1 s2 b3 l4 u5))),(56,.v (.bool false))] aj dP fun gi bL=>?_
 refine qae (qab ?_)
 refine qan bL (b:=false) kz rfl ?_
 refine wp_skip (qab (qaf [0,1,2,3,4,5,6,7,8,9] kz ?_))
 refine qai [0,1,2,3,4,5,6,7] [8,9] [(68,.v (.int .i64 ac)),(70,.v (.slice ay aa.length az)),(71,.v (.bool (z4 ac af ag ae ah ai ab aa v n1 s2 b3 l4 u5))),(72,.v (.int .i64 v)),(73,.v (.bool flex)),(74,.v (.agg #[.int .i64 n1,.slice A6 s2.length c7,.bool b3,.slice A8 l4.length c9,.slice aK u5.length aL]))] aj bL fun gj dQ=>?_
 refine qal (qak dQ (f:=107) (vs:=[.int .i64 ac,.slice ay aa.length az,.bool (Fld.nul (Fld.mk ac af ag ae ah ai ab aa) v (Tree.mk n1 s2 b3 l4 u5)),.int .i64 v,.bool flex,.agg #[.int .i64 n1,.slice A6 s2.length c7,.bool b3,.slice A8 l4.length c9,.slice aK u5.length aL]]) (d:=75) kz Tryz.call107 (qjA hp ac _ _ aa (Fld.nul (Fld.mk ac af ag ae ah ai ab aa) v (Tree.mk n1 s2 b3 l4 u5)) v flex _ (Tree.mk n1 s2 b3 l4 u5) _ _ ⟨bw,(b8.move aj.step nilM aj.imm),(fun i_ x_ h_=>((dV i_ x_ h_).move aj.step nilM aj.imm))⟩ hd (ht.move aj.step nilM aj.imm) (by have h_:=hroom; (first | rw [qdY ‹_› ‹_›] at h_ | rw [qdX ‹_› ‹_› ‹_›] at h_); exact h_)) ?_)
 rintro e_ gk ⟨bW,bX,rfl,dR,dS⟩
 refine ⟨_,rfl,fun gl dT=>?_⟩
 obtain ⟨bu,eX⟩:=aj.frFresh dS (brow bW bX 5 (qa2 (qa8 d aa v flex) ac (z4 ac af ag ae ah ai ab aa v n1 s2 b3 l4 u5) flex (Tree.mk n1 s2 b3 l4 u5))) (Nat.le_refl _) dR
 refine qai [9] [] [(8,.v (.slice bW ((qa2 (qa8 d aa v flex) ac (z4 ac af ag ae ah ai ab aa v n1 s2 b3 l4 u5) flex (Tree.mk n1 s2 b3 l4 u5)).length) bX))] bu dT fun gm dU=>?_
 refine qae (qab ?_)
 refine wp_ret (qaM dU bu.cells (v:=.slice bW ((qa2 (qa8 d aa v flex) ac (z4 ac af ag ae ah ai ab aa v n1 s2 b3 l4 u5) flex (Tree.mk n1 s2 b3 l4 u5)).length) bX) kz ?_)
 exact qbr bu (k:=0) rfl (by first | rw [qdY ‹_› ‹_›] | rw [qdX ‹_› ‹_› ‹_›] | rw [qdt ‹_› ‹_› ‹_› ‹_›] | rw [qdW ‹_› ‹_› ‹_› ‹_›])
abbrev z38 :=([.int .u32 0,.slice none 0 0]:List Value)
abbrev z42 (x0) (x1) (x2) (x3):=([.int .u32 x0,.slice x1 x2 x3]:List Value)
theorem qgu (Af:Option Addr) (cf:Nat) (l:List Fld) (A:Option Addr) (c:Nat) (u:List (Int × Bs)) (w:World) (F:Nat → Nat → Prop) (hl:FldsR w F Af cf l) (hu:TagsR w F A c u) :
  Calls Tryz.prog 35 #[.slice Af l.length cf,.slice A u.length c] w (qkz w F (qag l u)):=by
 obtain ⟨xf,hf1,hf2⟩:=hl.ex
 obtain ⟨xu,hu1,hu2⟩:=hu.ex
 have hsmu:=hu1.small
 have hule:(u.take 32767).length ≤ 32767:=by rw [List.length_take]; omega
 refine enter (n:=85) Tryz.func35 rfl Tryz.ntmps35 kz fun a hE=>?_
 have hW:=WOk.start w Nil
 refine qas [(0,.v (.slice Af l.length cf)),(1,.v (.slice A u.length c))] hW hE fun a1 hE2=>?_
 refine qaf [0,1,2] kz ?_
 refine qai [0] [1,2] [(1,.v (.slice A u.length c)),(11,.v (.slice Af l.length cf))] hW hE2 fun a3 hE4=>?_
 refine qal (qak hE4 (f:=63) (vs:=[.slice Af l.length cf]) (d:=12) kz Tryz.call63 (qkF _ _ l _ _ ⟨xf,(hf1.move hW.step nilM hW.imm),(fun i_ x_ h_=>((hf2 i_ x_ h_).move hW.step nilM hW.imm))⟩) ?_)
 rintro e_ w6 ⟨rfl,hs5⟩
 refine ⟨_,rfl,fun a7 hE8=>?_⟩
 have hW9:=hW.next_nil hs5
 have fC:=hW.frN hs5
 refine qai [2] [] [(1,.v (.slice A u.length c)),(5,.v (.int .u32 (qaC l)))] hW9 hE8 fun ia eF=>?_
 refine qae (qab ?_)
 refine qas [(1,.v (.slice A u.length c)),(5,.v (.int .u32 (qaC l))),(6,.v (.slice none 0 0))] hW9 eF fun ib eG=>?_
 refine wp_seq (qaf [0,1,2,3,4,5,6] kz ?_)
 refine qai [0,1,2,3] [4,5,6] [(5,.v (.int .u32 (qaC l))),(6,.v (.slice none 0 0)),(13,.v (.slice A u.length c)),(16,.v (.int .i64 (if 32767 < ((u.length:Nat):Int) then 32767 else ((u.length:Nat):Int))))] hW9 eG fun ic eH=>?_
 refine qal (qdy eH (t:=24) (A:=A) (m:=u.length) (cp:=c) (q:=(if 32767 < ((u.length:Nat):Int) then 32767 else ((u.length:Nat):Int))) (d:=17) (j:=(u.take 32767).length) kz (e:=66) (size:=2) (bytes:=32) kz (by simpa using qho u.length) (by rw [List.length_take]; have:=hu1.le; omega) fun ig eI=>?_)
 refine qai [5,6] [] [(5,.v (.int .u32 (qaC l))),(6,.v (.slice none 0 0)),(17,.v (.slice A ((u.take 32767).length) c)),(18,.v (.int .i64 (((u.take 32767).length:Nat):Int))),(19,.v (.int .i64 0))] hW9 eI fun ii eJ=>?_
 refine qae (qab ?_)
 refine wp_block ?_
 have cK:=hW9.addNil 66 2
 have fD:=hW9.frNil 66 2
 refine wp_loop_ghost (fun n_ a_ w_=>∃ (k:Nat) (A_:Option Addr) (c_:Nat) (out:List (Int × Bs)) (css:List (List Value)),n_ = (u.take 32767).length - k ∧ k ≤ (u.take 32767).length ∧ (TagsE w_ (Imm F w w_ [] [⟨A_,c_,66,2,out.length,css.flatten⟩]) out css) ∧ (out = ((u.take 32767).take k).foldl (qb9 (qaC l)) []) ∧ (out.length ≤ k) ∧ LInv cK 85 [] [⟨A_,c_,66,2,out.length,css.flatten⟩] [(5,.v (.int .u32 (qaC l))),(6,.v (.slice A_ out.length c_)),(17,.v (.slice A ((u.take 32767).length) c)),(18,.v (.int .i64 (((u.take 32767).length:Nat):Int))),(19,.v (.int .i64 ((k:Nat):Int)))] a_ w_) ((u.take 32767).length) ⟨0,none,0,[],[],by omega,by omega,TagsE.nil _ _,rfl,Nat.zero_le _,eJ.pk,cK,Fr.refl _ _ _⟩ ?_
 rintro ij ik il ⟨k,A_,c_,out,css,fE,fF,hT,hout,hlen,eK,aO,aR⟩
 refine qas [(5,.v (.int .u32 (qaC l))),(6,.v (.slice A_ out.length c_)),(17,.v (.slice A ((u.take 32767).length) c)),(18,.v (.int .i64 (((u.take 32767).length:Nat):Int))),(19,.v (.int .i64 ((k:Nat):Int))),(20,.v (.bool (decide (((k:Nat):Int) < (((u.take 32767).length:Nat):Int)))))] aO eK fun im cC=>?_
 refine wp_seq (qaw cC (b:=decide (((k:Nat):Int) < (((u.take 32767).length:Nat):Int))) kz (fun cD=>?_) (fun cD=>?_))
 ·
  have fG:=zD cD
  refine wp_skip (qab (wp_seq (wp_block (qaf [0,1,2,3] kz ?_))))
  obtain ⟨fH,fI,eL,fJ,bF⟩:=Slots.get (qfC hu1 32767) (i:=k) (by omega)
  obtain ⟨⟨al,ax⟩,aP⟩:∃ x,(u.take 32767)[k]? = some x:=⟨_,List.getElem?_eq_getElem (by omega)⟩
  obtain ⟨⟨aI,aJ,cL,cM⟩,fb,fe⟩:=(qfS hu2 32767) k al ax aP
  rw [cL] at bF
  refine qal (qax cC (t:=24) (A:=A) (m:=((u.take 32767).length)) (q:=((k:Nat):Int)) (d:=21) kz (e:=66) (size:=2) (bytes:=32) kz eL rfl (by omega) fun io eM=>?_)
  refine qal (qaU eM (t:=66) (b:=fH) (o:=fI + k * 2) (d:=22) kz (cs:=(z42 al aI ax.length aJ)) (v:=.agg #[.int .u32 al,.slice aI ax.length aJ]) kz (AtF.move bF aO.step nilM qa9).at_ fun ip eN=>?_)
  refine qal (qaQ aO eN (d:=8) (cs:=z38) kz fun eO iq ir fK fL ac eP eQ=>?_)
  refine qal (qao eP eQ (oi:=0) (cs:=(z42 al aI ax.length aJ)) kz fun iu ae cE eR=>?_)
  refine qae (qab ?_)
  refine qas [(5,.v (.int .u32 (qaC l))),(6,.v (.slice A_ out.length c_)),(8,.p 0 0),(9,.v (.int .i64 0)),(17,.v (.slice A ((u.take 32767).length) c)),(18,.v (.int .i64 (((u.take 32767).length:Nat):Int))),(19,.v (.int .i64 ((k:Nat):Int)))] cE eR fun iv eS=>?_
  refine wp_seq (wp_block (wp_loop_ghost (fun n_ a_ w_=>∃ (i:Nat),n_ = out.length - i ∧ (i ≤ out.length) ∧ (∀ q,q < i → (out.getD q (0,[])).1 < al) ∧ LInv cE 85 [⟨eO,0,[.int .u32 al,.slice aI ax.length aJ],true⟩] [⟨A_,c_,66,2,out.length,css.flatten⟩] [(5,.v (.int .u32 (qaC l))),(6,.v (.slice A_ out.length c_)),(8,.p 0 0),(9,.v (.int .i64 ((i:Nat):Int))),(17,.v (.slice A ((u.take 32767).length) c)),(18,.v (.int .i64 (((u.take 32767).length:Nat):Int))),(19,.v (.int .i64 ((k:Nat):Int)))] a_ w_) (out.length - 0) ⟨0,rfl,Nat.zero_le _,fun q h_=>absurd h_ (Nat.not_lt_zero q),eS.pk,cE,Fr.refl _ _ _⟩ ?_))
  rintro iw ix iy ⟨i,fM,hi,hlt,eU,eV,aa⟩
  refine wp_seq (qcb kz eV fun iz ab aB=>?_)
  refine qaB [0,1,2,3,4] [(5,.v (.int .u32 (qaC l))),(6,.v (.slice A_ out.length c_)),(8,.p 0 0),(9,.v (.int .i64 ((i:Nat):Int))),(17,.v (.slice A ((u.take 32767).length) c)),(18,.v (.int .i64 (((u.take 32767).length:Nat):Int))),(19,.v (.int .i64 ((k:Nat):Int))),(27,.v (.bool (decide (((i:Nat):Int) < ((out.length:Nat):Int)))))] 9 (qaa (qaa (qaa (qac (qaa (qac (qaa (qaa (qac (qaa qad)))))))))) (fun _ h=>h ▸ aB.cells) rfl eU fun iA cN=>?_
  refine (zO (decide (((i:Nat):Int) < ((out.length:Nat):Int)))).elim (fun aN=>?_) (fun aN=>?_)
  ·
   have fN:=zD aN
   have eW:=cN
   rw [aN] at eW
   refine qaB [5,6,10,11] [(5,.v (.int .u32 (qaC l))),(6,.v (.slice A_ out.length c_)),(8,.p 0 0),(9,.v (.int .i64 ((i:Nat):Int))),(17,.v (.slice A ((u.take 32767).length) c)),(18,.v (.int .i64 (((u.take 32767).length:Nat):Int))),(19,.v (.int .i64 ((k:Nat):Int))),(27,.v (.bool true)),(28,.v (.slice A_ out.length c_)),(29,.v (.int .i64 ((i:Nat):Int))),(34,.v (.int .u32 al))] 5 (qaa (qaa (qaa (qac (qaa (qac (qaa (qaa (qac (qaa qad)))))))))) (fun _ h=>h ▸ aB.cells) rfl eW fun iB eX=>?_
   obtain ⟨eY,cO⟩:=qbX (aB.own 0 _ rfl) (show 0 < out.length by omega)
   obtain ⟨⟨eE,iC⟩,bu⟩:∃ x,out[i]? = some x:=⟨_,List.getElem?_eq_getElem (by omega)⟩
   obtain ⟨iD,iE,eZ,fO,iF,iG⟩:=TagsE.get2 (hT.move (((ac.trans ae).trans aa).trans ab).step immM (((ac.trans ae).trans aa).trans ab).to') bu
   have cP:=qhQ (aB.own 0 _ rfl) cO (qd1 (hT.move (((ac.trans ae).trans aa).trans ab).step immM (((ac.trans ae).trans aa).trans ab).to').two eZ)
   refine qaD eX (i:=7) (t:=24) (A:=A_) (m:=out.length) (q:=((i:Nat):Int)) (d:=30) kz (e:=66) (size:=2) (bytes:=32) kz (b:=eY) (o:=0) (j:=i) cO (rfl) (by omega) kz kz (qaa (qaa (qaa (qac (qaa (qac (qaa (qaa (qac (qaa qad)))))))))) rfl fun iH e9=>?_
   refine qaB [8] [(5,.v (.int .u32 (qaC l))),(6,.v (.slice A_ out.length c_)),(8,.p 0 0),(9,.v (.int .i64 ((i:Nat):Int))),(17,.v (.slice A ((u.take 32767).length) c)),(18,.v (.int .i64 (((u.take 32767).length:Nat):Int))),(19,.v (.int .i64 ((k:Nat):Int))),(27,.v (.bool true)),(31,.v (.pointer (some ⟨eY,0 + i * 2,none⟩))),(34,.v (.int .u32 al))] 3 (qaa (qaa (qaa (qac (qaa (qac (qaa (qaa (qac (qaa qad)))))))))) (fun _ h=>h ▸ aB.cells) rfl e9 fun iI fa=>?_
   refine qa0 fa (i:=9) (t:=64) (b:=eY) (o:=0 + i * 2) (d:=32) kz (cs:=[.int .u32 eE]) (v:=.int .u32 eE) kz (fun w' h'=>h' ▸ (At.drop cP 0 1)) kz kz (qaa (qaa (qaa (qac (qaa (qac (qaa (qaa (qac (qaa qad)))))))))) rfl fun fP cQ=>?_
   refine qaB [12,13] [(5,.v (.int .u32 (qaC l))),(6,.v (.slice A_ out.length c_)),(8,.p 0 0),(9,.v (.int .i64 ((i:Nat):Int))),(17,.v (.slice A ((u.take 32767).length) c)),(18,.v (.int .i64 (((u.take 32767).length:Nat):Int))),(19,.v (.int .i64 ((k:Nat):Int))),(36,.v (.bool (decide (eE < al))))] 0 (qaa (qaa (qaa (qac (qaa (qac (qaa (qaa (qac (qaa qad)))))))))) (fun _ h=>h ▸ aB.cells) rfl cQ fun fQ aS=>?_
   refine qaz kz ?_ _
   refine qab (qaw aS (b:=decide (eE < al)) kz (fun aT=>?_) (fun aT=>?_))
   ·
    have ff:=zD aT
    refine wp_skip (qab (wp_block (qap [0,1,2] kz ?_)))
    refine qai [0,1,2] [] [(5,.v (.int .u32 (qaC l))),(6,.v (.slice A_ out.length c_)),(8,.p 0 0),(9,.v (.int .i64 (IntKind.i64.wrap (((i:Nat):Int) + 1)))),(17,.v (.slice A ((u.take 32767).length) c)),(18,.v (.int .i64 (((u.take 32767).length:Nat):Int))),(19,.v (.int .i64 ((k:Nat):Int)))] aB aS fun fR bG=>?_
    refine qae (qar (qab ?_))
    have cR:IntKind.i64.wrap (((i:Nat):Int) + 1) = ((i + 1:Nat):Int):=qaO (by omega)
    rw [cR] at bG
    exact ⟨out.length - (i + 1),by omega,(i + 1),rfl,by omega,fun q hq=>by rcases Nat.lt_succ_iff_lt_or_eq.1 hq with h_ | h_; exact hlt q h_; rw [h_,qjb bu]; assumption,bG.pk,aB,(aa.trans ab)⟩
   have fg:=zF aT
   refine wp_exit (qau (qau (qaI (qab (wp_seq (qcb kz aB fun fS af ap=>?_))))))
   refine qaB [0,1,2,3,4] [(5,.v (.int .u32 (qaC l))),(6,.v (.slice A_ out.length c_)),(8,.p 0 0),(9,.v (.int .i64 ((i:Nat):Int))),(17,.v (.slice A ((u.take 32767).length) c)),(18,.v (.int .i64 (((u.take 32767).length:Nat):Int))),(19,.v (.int .i64 ((k:Nat):Int))),(43,.v (.bool (decide (al < (qaC l)))))] 15 (qaa (qaa (qac (qaa (qaa (qac (qaa qad))))))) (fun _ h=>h ▸ ap.cells) rfl aS fun fT bH=>?_
   refine (zO (decide (al < (qaC l)))).elim (fun aK=>?_) (fun aK=>?_)
   ·
    have fh:=zD aK
    have cS:=bH
    rw [aK] at cS
    refine qaB [5,6,7,8,9,10,11,12,13,14,15,16,17,18,19] [(5,.v (.int .u32 (qaC l))),(6,.v (.slice A_ out.length c_)),(8,.p 0 0),(9,.v (.int .i64 ((i:Nat):Int))),(17,.v (.slice A ((u.take 32767).length) c)),(18,.v (.int .i64 (((u.take 32767).length:Nat):Int))),(19,.v (.int .i64 ((k:Nat):Int))),(58,.v (.bool true))] 0 (qaa (qaa (qac (qaa (qaa (qac (qaa qad))))))) (fun _ h=>h ▸ ap.cells) rfl cS fun fU bI=>?_
    refine qaz kz ?_ _
    refine qab (qa7 bI (b:=true) kz rfl ?_)
    refine wp_exit (qau (qaI (qab (qap [0,1] kz ?_))))
    refine qai [0,1] [] [(5,.v (.int .u32 (qaC l))),(6,.v (.slice A_ out.length c_)),(17,.v (.slice A ((u.take 32767).length) c)),(18,.v (.int .i64 (((u.take 32767).length:Nat):Int))),(19,.v (.int .i64 (IntKind.i64.wrap (((k:Nat):Int) + 1))))] ap bI fun fV cT=>?_
    refine qae (qab ?_)
    obtain ⟨bJ,cU,aU⟩:=ap.cutB cT 0 [] [(5,.v (.int .u32 (qaC l))),(6,.v (.slice A_ out.length c_)),(17,.v (.slice A ((u.take 32767).length) c)),(18,.v (.int .i64 (((u.take 32767).length:Nat):Int))),(19,.v (.int .i64 (IntKind.i64.wrap (((k:Nat):Int) + 1))))]
    have cV:IntKind.i64.wrap (((k:Nat):Int) + 1) = ((k + 1:Nat):Int):=qaO (by omega)
    rw [cV] at bJ
    exact ⟨(u.take 32767).length - (k + 1),by omega,k + 1,A_,c_,out,css,rfl,by omega,(hT.move (((((ac.trans ae).trans aa).trans ab).trans af).trans aU).step immM (((((ac.trans ae).trans aa).trans ab).trans af).trans aU).to'),by rw [qck aP,← hout]; exact (qjc ‹_›).symm,by omega,bJ.pk,cU,((((((aR.trans ac).trans ae).trans aa).trans ab).trans af).trans aU)⟩
   have fi:=zF aK
   have cW:=bH
   rw [aK] at cW
   refine qaB [5,6,7,8,9] [(5,.v (.int .u32 (qaC l))),(6,.v (.slice A_ out.length c_)),(8,.p 0 0),(9,.v (.int .i64 ((i:Nat):Int))),(17,.v (.slice A ((u.take 32767).length) c)),(18,.v (.int .i64 (((u.take 32767).length:Nat):Int))),(19,.v (.int .i64 ((k:Nat):Int))),(43,.v (.bool false)),(48,.v (.bool (decide (((i:Nat):Int) < ((out.length:Nat):Int)))))] 10 (qaa (qaa (qac (qaa (qaa (qac (qaa qad))))))) (fun _ h=>h ▸ ap.cells) rfl cW fun fW cX=>?_
   have cY:(decide (((i:Nat):Int) < ((out.length:Nat):Int))) = true:=aN
   have cZ:=cX
   rw [cY] at cZ
   refine qaB [10,11,15,16] [(5,.v (.int .u32 (qaC l))),(6,.v (.slice A_ out.length c_)),(8,.p 0 0),(9,.v (.int .i64 ((i:Nat):Int))),(17,.v (.slice A ((u.take 32767).length) c)),(18,.v (.int .i64 (((u.take 32767).length:Nat):Int))),(19,.v (.int .i64 ((k:Nat):Int))),(43,.v (.bool false)),(48,.v (.bool true)),(49,.v (.slice A_ out.length c_)),(50,.v (.int .i64 ((i:Nat):Int))),(55,.v (.int .u32 al))] 6 (qaa (qaa (qac (qaa (qaa (qac (qaa qad))))))) (fun _ h=>h ▸ ap.cells) rfl cZ fun fX c5=>?_
   obtain ⟨cG,bK⟩:=qbX (ap.own 0 _ rfl) (show 0 < out.length by omega)
   obtain ⟨⟨aQ,fY⟩,aL⟩:∃ x,out[i]? = some x:=⟨_,List.getElem?_eq_getElem (by omega)⟩
   obtain ⟨fZ,f5,c6,fj,f7,f8⟩:=TagsE.get2 (hT.move ((((ac.trans ae).trans aa).trans ab).trans af).step immM ((((ac.trans ae).trans aa).trans ab).trans af).to') aL
   have cH:=qhQ (ap.own 0 _ rfl) bK (qd1 (hT.move ((((ac.trans ae).trans aa).trans ab).trans af).step immM ((((ac.trans ae).trans aa).trans ab).trans af).to').two c6)
   refine qaD c5 (i:=12) (t:=24) (A:=A_) (m:=out.length) (q:=((i:Nat):Int)) (d:=51) kz (e:=66) (size:=2) (bytes:=32) kz (b:=cG) (o:=0) (j:=i) bK (rfl) (by omega) kz kz (qaa (qaa (qac (qaa (qaa (qac (qaa qad))))))) rfl fun f9 da=>?_
   refine qaB [13] [(5,.v (.int .u32 (qaC l))),(6,.v (.slice A_ out.length c_)),(8,.p 0 0),(9,.v (.int .i64 ((i:Nat):Int))),(17,.v (.slice A ((u.take 32767).length) c)),(18,.v (.int .i64 (((u.take 32767).length:Nat):Int))),(19,.v (.int .i64 ((k:Nat):Int))),(43,.v (.bool false)),(48,.v (.bool true)),(52,.v (.pointer (some ⟨cG,0 + i * 2,none⟩))),(55,.v (.int .u32 al))] 4 (qaa (qaa (qac (qaa (qaa (qac (qaa qad))))))) (fun _ h=>h ▸ ap.cells) rfl da fun ga db=>?_
   refine qa0 db (i:=14) (t:=64) (b:=cG) (o:=0 + i * 2) (d:=53) kz (cs:=[.int .u32 aQ]) (v:=.int .u32 aQ) kz (fun w' h'=>h' ▸ (At.drop cH 0 1)) kz kz (qaa (qaa (qac (qaa (qaa (qac (qaa qad))))))) rfl fun gb dc=>?_
   refine qaB [17,18,19] [(5,.v (.int .u32 (qaC l))),(6,.v (.slice A_ out.length c_)),(8,.p 0 0),(9,.v (.int .i64 ((i:Nat):Int))),(17,.v (.slice A ((u.take 32767).length) c)),(18,.v (.int .i64 (((u.take 32767).length:Nat):Int))),(19,.v (.int .i64 ((k:Nat):Int))),(58,.v (.bool (aQ == al)))] 0 (qaa (qaa (qac (qaa (qaa (qac (qaa qad))))))) (fun _ h=>h ▸ ap.cells) rfl dc fun gc aV=>?_
   refine qaz kz ?_ _
   refine qab (qaw aV (b:=aQ == al) kz (fun aW=>?_) (fun aW=>?_))
   ·
    have fk:aQ = al:=by simpa using aW
    refine wp_exit (qau (qaI (qab (qap [0,1] kz ?_))))
    refine qai [0,1] [] [(5,.v (.int .u32 (qaC l))),(6,.v (.slice A_ out.length c_)),(17,.v (.slice A ((u.take 32767).length) c)),(18,.v (.int .i64 (((u.take 32767).length:Nat):Int))),(19,.v (.int .i64 (IntKind.i64.wrap (((k:Nat):Int) + 1))))] ap aV fun gd de=>?_
    refine qae (qab ?_)
    obtain ⟨bL,df,aX⟩:=ap.cutB de 0 [] [(5,.v (.int .u32 (qaC l))),(6,.v (.slice A_ out.length c_)),(17,.v (.slice A ((u.take 32767).length) c)),(18,.v (.int .i64 (((u.take 32767).length:Nat):Int))),(19,.v (.int .i64 (IntKind.i64.wrap (((k:Nat):Int) + 1))))]
    have dg:IntKind.i64.wrap (((k:Nat):Int) + 1) = ((k + 1:Nat):Int):=qaO (by omega)
    rw [dg] at bL
    exact ⟨(u.take 32767).length - (k + 1),by omega,k + 1,A_,c_,out,css,rfl,by omega,(hT.move (((((ac.trans ae).trans aa).trans ab).trans af).trans aX).step immM (((((ac.trans ae).trans aa).trans ab).trans af).trans aX).to'),by rw [qck aP,← hout]; exact (qj9 (qfB hi hlt (fun _=>by rw [qd2 aL]; omega)) (by omega) (by rw [qd2 aL]; omega)).symm,by omega,bL.pk,df,((((((aR.trans ac).trans ae).trans aa).trans ab).trans af).trans aX)⟩
   have fm:aQ ≠ al:=by simpa using aW
   refine wp_skip (qab (qaf [0,1,2,3,4] kz ?_))
   refine qai [0,1] [2,3,4] [(5,.v (.int .u32 (qaC l))),(8,.p 0 0),(9,.v (.int .i64 ((i:Nat):Int))),(17,.v (.slice A ((u.take 32767).length) c)),(18,.v (.int .i64 (((u.take 32767).length:Nat):Int))),(19,.v (.int .i64 ((k:Nat):Int))),(59,.v (.slice A_ out.length c_)),(60,.v (.agg #[.int .u32 0,.slice none 0 0]))] ap aV fun ge dh=>?_
   refine qcJ ap dh (k:=0) (e:=66) (size:=2) (len:=1) (cs:=z38) (d1:=61) (d:=62) kz (t:=24) (bytes:=32) kz (fun _=>by kernel_rfl) rfl kz (by omega) fun ag ai gg gh am aY ⟨_,di⟩=>?_
   refine qai [4] [] [(5,.v (.int .u32 (qaC l))),(6,.v (.slice ag (out.length + 1) ai)),(8,.p 0 0),(9,.v (.int .i64 ((i:Nat):Int))),(17,.v (.slice A ((u.take 32767).length) c)),(18,.v (.int .i64 (((u.take 32767).length:Nat):Int))),(19,.v (.int .i64 ((k:Nat):Int)))] aY di fun gi dj=>?_
   refine qae (qab ?_)
   refine wp_seq (qas [(5,.v (.int .u32 (qaC l))),(6,.v (.slice ag (out.length + 1) ai)),(8,.p 0 0),(9,.v (.int .i64 ((i:Nat):Int))),(10,.v (.int .i64 (IntKind.i64.wrap (((out.length + 1:Nat):Int) - 1)))),(17,.v (.slice A ((u.take 32767).length) c)),(18,.v (.int .i64 (((u.take 32767).length:Nat):Int))),(19,.v (.int .i64 ((k:Nat):Int)))] aY dj fun gj bM=>?_)
   refine wp_block ?_
   have hcl0:=(hT.move (((((ac.trans ae).trans aa).trans ab).trans af).trans am).step immM (((((ac.trans ae).trans aa).trans ab).trans af).trans am).to').len
   have dl:(⟨ag,ai,66,2,out.length + 1,css.flatten ++ [.int .u32 0,.slice none 0 0]⟩:Rw) = ⟨ag,ai,66,2,out.length + 1,(qb7 css [.int .u32 0,.slice none 0 0] out.length).flatten⟩:=by rw [qhR hcl0]
   obtain ⟨bN,av⟩:=aY.rowEq 0 [⟨ag,ai,66,2,out.length + 1,(qb7 css z38 out.length).flatten⟩] dl
   have dp:IntKind.i64.wrap (((out.length + 1:Nat):Int) - 1) = ((out.length:Nat):Int):=by rw [wrap_i64 (by omega) (by omega)]; omega
   rw [dp] at bM
   refine wp_loop_ghost (fun n_ a_ w_=>∃ (j:Nat),n_ = j ∧ (i ≤ j) ∧ (j ≤ out.length) ∧ LInv bN 85 [⟨eO,0,[.int .u32 al,.slice aI ax.length aJ],true⟩] [⟨ag,ai,66,2,out.length + 1,(qb7 css [.int .u32 0,.slice none 0 0] j).flatten⟩] [(5,.v (.int .u32 (qaC l))),(6,.v (.slice ag (out.length + 1) ai)),(8,.p 0 0),(9,.v (.int .i64 ((i:Nat):Int))),(10,.v (.int .i64 ((j:Nat):Int))),(17,.v (.slice A ((u.take 32767).length) c)),(18,.v (.int .i64 (((u.take 32767).length:Nat):Int))),(19,.v (.int .i64 ((k:Nat):Int)))] a_ w_) (out.length) ⟨out.length,rfl,hi,Nat.le_refl _,bM.pk,bN,Fr.refl _ _ _⟩ ?_
   rintro gk gl gm ⟨j,fo,hij,hjl,dq,ay,ar⟩
   refine wp_seq (qas [(5,.v (.int .u32 (qaC l))),(6,.v (.slice ag (out.length + 1) ai)),(8,.p 0 0),(9,.v (.int .i64 ((i:Nat):Int))),(10,.v (.int .i64 ((j:Nat):Int))),(17,.v (.slice A ((u.take 32767).length) c)),(18,.v (.int .i64 (((u.take 32767).length:Nat):Int))),(19,.v (.int .i64 ((k:Nat):Int))),(68,.v (.bool (decide (((j:Nat):Int) > ((i:Nat):Int)))))] ay dq fun gn aZ=>?_)
   refine qaw aZ (b:=decide (((j:Nat):Int) > ((i:Nat):Int))) kz (fun ba=>?_) (fun ba=>?_)
   ·
    have fq:=zD ba
    refine wp_skip (qab (wp_seq (wp_block (qap [0,1,2,3,4,5,6,7,8] kz ?_))))
    refine qai [0,1,2,3,4] [5,6,7,8] [(5,.v (.int .u32 (qaC l))),(6,.v (.slice ag (out.length + 1) ai)),(8,.p 0 0),(9,.v (.int .i64 ((i:Nat):Int))),(10,.v (.int .i64 ((j:Nat):Int))),(17,.v (.slice A ((u.take 32767).length) c)),(18,.v (.int .i64 (((u.take 32767).length:Nat):Int))),(19,.v (.int .i64 ((k:Nat):Int))),(71,.v (.slice ag (out.length + 1) ai)),(72,.v (.int .i64 ((j:Nat):Int))),(73,.v (.slice ag (out.length + 1) ai)),(75,.v (.int .i64 (IntKind.i64.wrap (((j:Nat):Int) - 1))))] ay aZ fun gp dr=>?_
    obtain ⟨dt,bO⟩:=qbX (ay.own 0 _ rfl) (show 0 < out.length + 1 by omega)
    obtain ⟨⟨bw,bx⟩,du⟩:∃ x,out[j - 1]? = some x:=⟨_,List.getElem?_eq_getElem (by omega)⟩
    obtain ⟨bz,bA,bP,fr,gq,gt⟩:=TagsE.get2 (hT.move (((((((ac.trans ae).trans aa).trans ab).trans af).trans am).trans av).trans ar).step immM (((((((ac.trans ae).trans aa).trans ab).trans af).trans am).trans av).trans ar).to') du
    have cI:=qhQ (ay.own 0 _ rfl) bO (qd1 (qeE (hT.move (((((((ac.trans ae).trans aa).trans ab).trans af).trans am).trans av).trans ar).step immM (((((((ac.trans ae).trans aa).trans ab).trans af).trans am).trans av).trans ar).to').two rfl j) (qgY (show j - 1 < j by omega) bP))
    refine qal (qax dr (t:=24) (A:=ag) (m:=(out.length + 1)) (q:=(IntKind.i64.wrap (((j:Nat):Int) - 1))) (d:=76) kz (e:=66) (size:=2) (bytes:=32) kz (b:=dt) (o:=0) (j:=(j - 1)) bO (by rw [wrap_i64 (by omega) (by omega)]; omega) (by omega) fun gv dv=>?_)
    refine qal (qaU dv (t:=66) (b:=dt) (o:=0 + (j - 1) * 2) (d:=77) kz (cs:=(z42 bw bz bx.length bA)) (v:=.agg #[.int .u32 bw,.slice bz bx.length bA]) kz cI fun gw dw=>?_)
    obtain ⟨dx,bQ⟩:=qbX (ay.own 0 _ rfl) (show 0 < out.length + 1 by omega)
    refine qal (qax dw (t:=24) (A:=ag) (m:=(out.length + 1)) (q:=((j:Nat):Int)) (d:=78) kz (e:=66) (size:=2) (bytes:=32) kz (b:=dx) (o:=0) (j:=j) bQ (rfl) (by omega) fun gx dy=>?_)
    refine qal (qbL ay dy (k:=0) (g:=dx) (o:=j * 2) (c:=ai) (m:=(out.length + 1)) (size:=2) (e:=66) (A:=ag) (xs:=((qb7 css [.int .u32 0,.slice none 0 0] j).flatten)) (vs:=[.int .u32 bw,.slice bz bx.length bA]) kz rfl bQ (by simp only [List.length_cons,List.length_nil]; omega) fun gy bd bR dz=>?_)
    refine qae (qar (qab (qap [0,1,2] kz ?_)))
    refine qai [0,1,2] [] [(5,.v (.int .u32 (qaC l))),(6,.v (.slice ag (out.length + 1) ai)),(8,.p 0 0),(9,.v (.int .i64 ((i:Nat):Int))),(10,.v (.int .i64 (IntKind.i64.wrap (((j:Nat):Int) - 1)))),(17,.v (.slice A ((u.take 32767).length) c)),(18,.v (.int .i64 (((u.take 32767).length:Nat):Int))),(19,.v (.int .i64 ((k:Nat):Int)))] bR dz fun gz bS=>?_
    refine qae (qab ?_)
    have dA:(⟨ag,ai,66,2,out.length + 1,qbt ((qb7 css [.int .u32 0,.slice none 0 0] j).flatten) (j * 2) [.int .u32 bw,.slice bz bx.length bA]⟩:Rw) = ⟨ag,ai,66,2,out.length + 1,(qb7 css [.int .u32 0,.slice none 0 0] (j - 1)).flatten⟩:=by rw [qgZ (hT.move ((((((((ac.trans ae).trans aa).trans ab).trans af).trans am).trans av).trans ar).trans bd).step immM ((((((((ac.trans ae).trans aa).trans ab).trans af).trans am).trans av).trans ar).trans bd).to').two rfl (by omega) (by omega) bP]
    obtain ⟨dB,dC⟩:=bR.rowEq 0 [⟨ag,ai,66,2,out.length + 1,(qb7 css z38 (j - 1)).flatten⟩] dA
    have dD:IntKind.i64.wrap (((j:Nat):Int) - 1) = ((j - 1:Nat):Int):=by rw [wrap_i64 (by omega) (by omega)]; omega
    rw [dD] at bS
    exact ⟨(j - 1),by omega,(j - 1),rfl,by omega,by omega,bS.pk,dB,((ar.trans bd).trans dC)⟩
   have ft:=zF ba
   refine wp_exit (qau (qau (qaI (qab (qap [0,1,2,3,4] kz ?_)))))
   refine qai [0,1,2] [3,4] [(5,.v (.int .u32 (qaC l))),(6,.v (.slice ag (out.length + 1) ai)),(17,.v (.slice A ((u.take 32767).length) c)),(18,.v (.int .i64 (((u.take 32767).length:Nat):Int))),(19,.v (.int .i64 ((k:Nat):Int))),(79,.v (.slice ag (out.length + 1) ai)),(80,.v (.int .i64 ((i:Nat):Int))),(81,.v (.agg #[.int .u32 al,.slice aI ax.length aJ]))] ay aZ fun gA dE=>?_
   have hji:j = i:=by omega
   have dF:(⟨ag,ai,66,2,out.length + 1,(qb7 css [.int .u32 0,.slice none 0 0] j).flatten⟩:Rw) = ⟨ag,ai,66,2,out.length + 1,(qb7 css [.int .u32 0,.slice none 0 0] i).flatten⟩:=by rw [hji]
   obtain ⟨bT,aC⟩:=ay.rowEq 0 [⟨ag,ai,66,2,out.length + 1,(qb7 css z38 i).flatten⟩] dF
   obtain ⟨dG,bU⟩:=qbX (bT.own 0 _ rfl) (show 0 < out.length + 1 by omega)
   refine qal (qax dE (t:=24) (A:=ag) (m:=(out.length + 1)) (q:=((i:Nat):Int)) (d:=82) kz (e:=66) (size:=2) (bytes:=32) kz (b:=dG) (o:=0) (j:=i) bU (rfl) (by omega) fun gB dH=>?_)
   refine qal (qbL bT dH (k:=0) (g:=dG) (o:=i * 2) (c:=ai) (m:=(out.length + 1)) (size:=2) (e:=66) (A:=ag) (xs:=((qb7 css [.int .u32 0,.slice none 0 0] i).flatten)) (vs:=[.int .u32 al,.slice aI ax.length aJ]) kz rfl bU (by simp only [List.length_cons,List.length_nil]; omega) fun gC aD bV dI=>?_)
   refine qae (qar (qab (qap [0,1] kz ?_)))
   refine qai [0,1] [] [(5,.v (.int .u32 (qaC l))),(6,.v (.slice ag (out.length + 1) ai)),(17,.v (.slice A ((u.take 32767).length) c)),(18,.v (.int .i64 (((u.take 32767).length:Nat):Int))),(19,.v (.int .i64 (IntKind.i64.wrap (((k:Nat):Int) + 1))))] bV dI fun gD dJ=>?_
   refine qae (qab ?_)
   obtain ⟨bf,dK,aE⟩:=bV.cutB dJ 0 [] [(5,.v (.int .u32 (qaC l))),(6,.v (.slice ag (out.length + 1) ai)),(17,.v (.slice A ((u.take 32767).length) c)),(18,.v (.int .i64 (((u.take 32767).length:Nat):Int))),(19,.v (.int .i64 (IntKind.i64.wrap (((k:Nat):Int) + 1))))]
   have hcl:=(hT.move ((((((((((ac.trans ae).trans aa).trans ab).trans af).trans am).trans av).trans ar).trans aC).trans aD).trans aE).step immM ((((((((((ac.trans ae).trans aa).trans ab).trans af).trans am).trans av).trans ar).trans aC).trans aD).trans aE).to').len
   have dL:(⟨ag,ai,66,2,out.length + 1,qbt ((qb7 css [.int .u32 0,.slice none 0 0] i).flatten) (i * 2) [.int .u32 al,.slice aI ax.length aJ]⟩:Rw) = ⟨ag,ai,66,2,(out.take i ++ (al,ax) :: out.drop i).length,(css.take i ++ [.int .u32 al,.slice aI ax.length aJ] :: css.drop i).flatten⟩:=by rw [qg0 (hT.move ((((((((((ac.trans ae).trans aa).trans ab).trans af).trans am).trans av).trans ar).trans aC).trans aD).trans aE).step immM ((((((((((ac.trans ae).trans aa).trans ab).trans af).trans am).trans av).trans ar).trans aC).trans aD).trans aE).to').two rfl (by omega) rfl,qc2 (al,ax) hi]
   obtain ⟨bg,bh⟩:=dK.rowEq 0 [⟨ag,ai,66,2,(out.take i ++ (al,ax) :: out.drop i).length,(css.take i ++ (z42 al aI ax.length aJ) :: css.drop i).flatten⟩] dL
   have dM:IntKind.i64.wrap (((k:Nat):Int) + 1) = ((k + 1:Nat):Int):=qaO (by omega)
   rw [dM] at bf
   have dN:out.length + 1 = (out.take i ++ (al,ax) :: out.drop i).length:=qc2 (al,ax) hi
   rw [dN] at bf
   exact ⟨(u.take 32767).length - (k + 1),by omega,k + 1,ag,ai,(out.take i ++ (al,ax) :: out.drop i),(css.take i ++ [.int .u32 al,.slice aI ax.length aJ] :: css.drop i),rfl,by omega,(hT.move (((((((((((ac.trans ae).trans aa).trans ab).trans af).trans am).trans av).trans ar).trans aC).trans aD).trans aE).trans bh).step immM (((((((((((ac.trans ae).trans aa).trans ab).trans af).trans am).trans av).trans ar).trans aC).trans aD).trans aE).trans bh).to').ins ⟨⟨aI,aJ,rfl,(cM.move bg.step nilM bg.imm)⟩,fb,fe⟩ hi,by rw [qck aP,← hout]; exact (qjd (qfB hi hlt (fun _=>by first | (rw [qd2 bu]; omega) | (rw [qd2 aL]; omega))) ‹_› (fun _=>by first | (rw [qd2 bu]; omega) | (rw [qd2 aL]; omega))).symm,by rw [← qc2 (al,ax) hi]; omega,bf.pk,bg,((((((((((((aR.trans ac).trans ae).trans aa).trans ab).trans af).trans am).trans av).trans ar).trans aC).trans aD).trans aE).trans bh)⟩
  have fu:=zF aN
  have dO:=cN.cast (env':=[(5,.v (.int .u32 (qaC l))),(6,.v (.slice A_ out.length c_)),(8,.p 0 0),(9,.v (.int .i64 ((i:Nat):Int))),(17,.v (.slice A ((u.take 32767).length) c)),(18,.v (.int .i64 (((u.take 32767).length:Nat):Int))),(19,.v (.int .i64 ((k:Nat):Int))),(27,.v (.bool false))]) (by rw [aN])
  refine qaB [5,6,7,8,9,10,11,12,13] [(5,.v (.int .u32 (qaC l))),(6,.v (.slice A_ out.length c_)),(8,.p 0 0),(9,.v (.int .i64 ((i:Nat):Int))),(17,.v (.slice A ((u.take 32767).length) c)),(18,.v (.int .i64 (((u.take 32767).length:Nat):Int))),(19,.v (.int .i64 ((k:Nat):Int))),(36,.v (.bool false))] 0 (qaa (qaa (qaa (qac (qaa (qac (qaa (qaa (qac (qaa qad)))))))))) (fun _ h=>h ▸ aB.cells) rfl dO fun gE bW=>?_
  refine qaz kz ?_ _
  refine qab (qan bW (b:=false) kz rfl ?_)
  refine wp_exit (qau (qau (qaI (qab (wp_seq (qcb kz aB fun gF ak az=>?_))))))
  refine qaB [0,1,2,3,4] [(5,.v (.int .u32 (qaC l))),(6,.v (.slice A_ out.length c_)),(8,.p 0 0),(9,.v (.int .i64 ((i:Nat):Int))),(17,.v (.slice A ((u.take 32767).length) c)),(18,.v (.int .i64 (((u.take 32767).length:Nat):Int))),(19,.v (.int .i64 ((k:Nat):Int))),(43,.v (.bool (decide (al < (qaC l)))))] 15 (qaa (qaa (qac (qaa (qaa (qac (qaa qad))))))) (fun _ h=>h ▸ az.cells) rfl bW fun gG bX=>?_
  refine (zO (decide (al < (qaC l)))).elim (fun aM=>?_) (fun aM=>?_)
  ·
   have fv:=zD aM
   have dP:=bX
   rw [aM] at dP
   refine qaB [5,6,7,8,9,10,11,12,13,14,15,16,17,18,19] [(5,.v (.int .u32 (qaC l))),(6,.v (.slice A_ out.length c_)),(8,.p 0 0),(9,.v (.int .i64 ((i:Nat):Int))),(17,.v (.slice A ((u.take 32767).length) c)),(18,.v (.int .i64 (((u.take 32767).length:Nat):Int))),(19,.v (.int .i64 ((k:Nat):Int))),(58,.v (.bool true))] 0 (qaa (qaa (qac (qaa (qaa (qac (qaa qad))))))) (fun _ h=>h ▸ az.cells) rfl dP fun gH bY=>?_
   refine qaz kz ?_ _
   refine qab (qa7 bY (b:=true) kz rfl ?_)
   refine wp_exit (qau (qaI (qab (qap [0,1] kz ?_))))
   refine qai [0,1] [] [(5,.v (.int .u32 (qaC l))),(6,.v (.slice A_ out.length c_)),(17,.v (.slice A ((u.take 32767).length) c)),(18,.v (.int .i64 (((u.take 32767).length:Nat):Int))),(19,.v (.int .i64 (IntKind.i64.wrap (((k:Nat):Int) + 1))))] az bY fun gI dQ=>?_
   refine qae (qab ?_)
   obtain ⟨bZ,dR,bi⟩:=az.cutB dQ 0 [] [(5,.v (.int .u32 (qaC l))),(6,.v (.slice A_ out.length c_)),(17,.v (.slice A ((u.take 32767).length) c)),(18,.v (.int .i64 (((u.take 32767).length:Nat):Int))),(19,.v (.int .i64 (IntKind.i64.wrap (((k:Nat):Int) + 1))))]
   have dS:IntKind.i64.wrap (((k:Nat):Int) + 1) = ((k + 1:Nat):Int):=qaO (by omega)
   rw [dS] at bZ
   exact ⟨(u.take 32767).length - (k + 1),by omega,k + 1,A_,c_,out,css,rfl,by omega,(hT.move (((((ac.trans ae).trans aa).trans ab).trans ak).trans bi).step immM (((((ac.trans ae).trans aa).trans ab).trans ak).trans bi).to'),by rw [qck aP,← hout]; exact (qjc ‹_›).symm,by omega,bZ.pk,dR,((((((aR.trans ac).trans ae).trans aa).trans ab).trans ak).trans bi)⟩
  have fw:=zF aM
  have dT:=bX
  rw [aM] at dT
  refine qaB [5,6,7,8,9] [(5,.v (.int .u32 (qaC l))),(6,.v (.slice A_ out.length c_)),(8,.p 0 0),(9,.v (.int .i64 ((i:Nat):Int))),(17,.v (.slice A ((u.take 32767).length) c)),(18,.v (.int .i64 (((u.take 32767).length:Nat):Int))),(19,.v (.int .i64 ((k:Nat):Int))),(43,.v (.bool false)),(48,.v (.bool (decide (((i:Nat):Int) < ((out.length:Nat):Int)))))] 10 (qaa (qaa (qac (qaa (qaa (qac (qaa qad))))))) (fun _ h=>h ▸ az.cells) rfl dT fun gJ dU=>?_
  have dV:(decide (((i:Nat):Int) < ((out.length:Nat):Int))) = false:=aN
  have dW:=dU
  rw [dV] at dW
  refine qaB [10,11,12,13,14,15,16,17,18,19] [(5,.v (.int .u32 (qaC l))),(6,.v (.slice A_ out.length c_)),(8,.p 0 0),(9,.v (.int .i64 ((i:Nat):Int))),(17,.v (.slice A ((u.take 32767).length) c)),(18,.v (.int .i64 (((u.take 32767).length:Nat):Int))),(19,.v (.int .i64 ((k:Nat):Int))),(58,.v (.bool false))] 0 (qaa (qaa (qac (qaa (qaa (qac (qaa qad))))))) (fun _ h=>h ▸ az.cells) rfl dW fun gK b8=>?_
  refine qaz kz ?_ _
  refine qab (qan b8 (b:=false) kz rfl ?_)
  refine wp_skip (qab (qaf [0,1,2,3,4] kz ?_))
  refine qai [0,1] [2,3,4] [(5,.v (.int .u32 (qaC l))),(8,.p 0 0),(9,.v (.int .i64 ((i:Nat):Int))),(17,.v (.slice A ((u.take 32767).length) c)),(18,.v (.int .i64 (((u.take 32767).length:Nat):Int))),(19,.v (.int .i64 ((k:Nat):Int))),(59,.v (.slice A_ out.length c_)),(60,.v (.agg #[.int .u32 0,.slice none 0 0]))] az b8 fun gL dX=>?_
  refine qcJ az dX (k:=0) (e:=66) (size:=2) (len:=1) (cs:=z38) (d1:=61) (d:=62) kz (t:=24) (bytes:=32) kz (fun _=>by kernel_rfl) rfl kz (by omega) fun ah aj gM gN ao bj ⟨_,dY⟩=>?_
  refine qai [4] [] [(5,.v (.int .u32 (qaC l))),(6,.v (.slice ah (out.length + 1) aj)),(8,.p 0 0),(9,.v (.int .i64 ((i:Nat):Int))),(17,.v (.slice A ((u.take 32767).length) c)),(18,.v (.int .i64 (((u.take 32767).length:Nat):Int))),(19,.v (.int .i64 ((k:Nat):Int)))] bj dY fun gO dZ=>?_
  refine qae (qab ?_)
  refine wp_seq (qas [(5,.v (.int .u32 (qaC l))),(6,.v (.slice ah (out.length + 1) aj)),(8,.p 0 0),(9,.v (.int .i64 ((i:Nat):Int))),(10,.v (.int .i64 (IntKind.i64.wrap (((out.length + 1:Nat):Int) - 1)))),(17,.v (.slice A ((u.take 32767).length) c)),(18,.v (.int .i64 (((u.take 32767).length:Nat):Int))),(19,.v (.int .i64 ((k:Nat):Int)))] bj dZ fun gP cd=>?_)
  refine wp_block ?_
  have hcl0:=(hT.move (((((ac.trans ae).trans aa).trans ab).trans ak).trans ao).step immM (((((ac.trans ae).trans aa).trans ab).trans ak).trans ao).to').len
  have d5:(⟨ah,aj,66,2,out.length + 1,css.flatten ++ [.int .u32 0,.slice none 0 0]⟩:Rw) = ⟨ah,aj,66,2,out.length + 1,(qb7 css [.int .u32 0,.slice none 0 0] out.length).flatten⟩:=by rw [qhR hcl0]
  obtain ⟨ce,aw⟩:=bj.rowEq 0 [⟨ah,aj,66,2,out.length + 1,(qb7 css z38 out.length).flatten⟩] d5
  have d6:IntKind.i64.wrap (((out.length + 1:Nat):Int) - 1) = ((out.length:Nat):Int):=by rw [wrap_i64 (by omega) (by omega)]; omega
  rw [d6] at cd
  refine wp_loop_ghost (fun n_ a_ w_=>∃ (j:Nat),n_ = j ∧ (i ≤ j) ∧ (j ≤ out.length) ∧ LInv ce 85 [⟨eO,0,[.int .u32 al,.slice aI ax.length aJ],true⟩] [⟨ah,aj,66,2,out.length + 1,(qb7 css [.int .u32 0,.slice none 0 0] j).flatten⟩] [(5,.v (.int .u32 (qaC l))),(6,.v (.slice ah (out.length + 1) aj)),(8,.p 0 0),(9,.v (.int .i64 ((i:Nat):Int))),(10,.v (.int .i64 ((j:Nat):Int))),(17,.v (.slice A ((u.take 32767).length) c)),(18,.v (.int .i64 (((u.take 32767).length:Nat):Int))),(19,.v (.int .i64 ((k:Nat):Int)))] a_ w_) (out.length) ⟨out.length,rfl,hi,Nat.le_refl _,cd.pk,ce,Fr.refl _ _ _⟩ ?_
  rintro gQ gR gS ⟨j,fx,hij,hjl,d7,aA,au⟩
  refine wp_seq (qas [(5,.v (.int .u32 (qaC l))),(6,.v (.slice ah (out.length + 1) aj)),(8,.p 0 0),(9,.v (.int .i64 ((i:Nat):Int))),(10,.v (.int .i64 ((j:Nat):Int))),(17,.v (.slice A ((u.take 32767).length) c)),(18,.v (.int .i64 (((u.take 32767).length:Nat):Int))),(19,.v (.int .i64 ((k:Nat):Int))),(68,.v (.bool (decide (((j:Nat):Int) > ((i:Nat):Int)))))] aA d7 fun gT bk=>?_)
  refine qaw bk (b:=decide (((j:Nat):Int) > ((i:Nat):Int))) kz (fun bn=>?_) (fun bn=>?_)
  ·
   have fy:=zD bn
   refine wp_skip (qab (wp_seq (wp_block (qap [0,1,2,3,4,5,6,7,8] kz ?_))))
   refine qai [0,1,2,3,4] [5,6,7,8] [(5,.v (.int .u32 (qaC l))),(6,.v (.slice ah (out.length + 1) aj)),(8,.p 0 0),(9,.v (.int .i64 ((i:Nat):Int))),(10,.v (.int .i64 ((j:Nat):Int))),(17,.v (.slice A ((u.take 32767).length) c)),(18,.v (.int .i64 (((u.take 32767).length:Nat):Int))),(19,.v (.int .i64 ((k:Nat):Int))),(71,.v (.slice ah (out.length + 1) aj)),(72,.v (.int .i64 ((j:Nat):Int))),(73,.v (.slice ah (out.length + 1) aj)),(75,.v (.int .i64 (IntKind.i64.wrap (((j:Nat):Int) - 1))))] aA bk fun gU d8=>?_
   obtain ⟨d9,cm⟩:=qbX (aA.own 0 _ rfl) (show 0 < out.length + 1 by omega)
   obtain ⟨⟨bB,bC⟩,ea⟩:∃ x,out[j - 1]? = some x:=⟨_,List.getElem?_eq_getElem (by omega)⟩
   obtain ⟨bD,bE,cq,fz,gV,gW⟩:=TagsE.get2 (hT.move (((((((ac.trans ae).trans aa).trans ab).trans ak).trans ao).trans aw).trans au).step immM (((((((ac.trans ae).trans aa).trans ab).trans ak).trans ao).trans aw).trans au).to') ea
   have cJ:=qhQ (aA.own 0 _ rfl) cm (qd1 (qeE (hT.move (((((((ac.trans ae).trans aa).trans ab).trans ak).trans ao).trans aw).trans au).step immM (((((((ac.trans ae).trans aa).trans ab).trans ak).trans ao).trans aw).trans au).to').two rfl j) (qgY (show j - 1 < j by omega) cq))
   refine qal (qax d8 (t:=24) (A:=ah) (m:=(out.length + 1)) (q:=(IntKind.i64.wrap (((j:Nat):Int) - 1))) (d:=76) kz (e:=66) (size:=2) (bytes:=32) kz (b:=d9) (o:=0) (j:=(j - 1)) cm (by rw [wrap_i64 (by omega) (by omega)]; omega) (by omega) fun gX eb=>?_)
   refine qal (qaU eb (t:=66) (b:=d9) (o:=0 + (j - 1) * 2) (d:=77) kz (cs:=(z42 bB bD bC.length bE)) (v:=.agg #[.int .u32 bB,.slice bD bC.length bE]) kz cJ fun gY ec=>?_)
   obtain ⟨ee,cr⟩:=qbX (aA.own 0 _ rfl) (show 0 < out.length + 1 by omega)
   refine qal (qax ec (t:=24) (A:=ah) (m:=(out.length + 1)) (q:=((j:Nat):Int)) (d:=78) kz (e:=66) (size:=2) (bytes:=32) kz (b:=ee) (o:=0) (j:=j) cr (rfl) (by omega) fun gZ ef=>?_)
   refine qal (qbL aA ef (k:=0) (g:=ee) (o:=j * 2) (c:=aj) (m:=(out.length + 1)) (size:=2) (e:=66) (A:=ah) (xs:=((qb7 css [.int .u32 0,.slice none 0 0] j).flatten)) (vs:=[.int .u32 bB,.slice bD bC.length bE]) kz rfl cr (by simp only [List.length_cons,List.length_nil]; omega) fun g7 bo cu eg=>?_)
   refine qae (qar (qab (qap [0,1,2] kz ?_)))
   refine qai [0,1,2] [] [(5,.v (.int .u32 (qaC l))),(6,.v (.slice ah (out.length + 1) aj)),(8,.p 0 0),(9,.v (.int .i64 ((i:Nat):Int))),(10,.v (.int .i64 (IntKind.i64.wrap (((j:Nat):Int) - 1)))),(17,.v (.slice A ((u.take 32767).length) c)),(18,.v (.int .i64 (((u.take 32767).length:Nat):Int))),(19,.v (.int .i64 ((k:Nat):Int)))] cu eg fun g8 cw=>?_
   refine qae (qab ?_)
   have eh:(⟨ah,aj,66,2,out.length + 1,qbt ((qb7 css [.int .u32 0,.slice none 0 0] j).flatten) (j * 2) [.int .u32 bB,.slice bD bC.length bE]⟩:Rw) = ⟨ah,aj,66,2,out.length + 1,(qb7 css [.int .u32 0,.slice none 0 0] (j - 1)).flatten⟩:=by rw [qgZ (hT.move ((((((((ac.trans ae).trans aa).trans ab).trans ak).trans ao).trans aw).trans au).trans bo).step immM ((((((((ac.trans ae).trans aa).trans ab).trans ak).trans ao).trans aw).trans au).trans bo).to').two rfl (by omega) (by omega) cq]
   obtain ⟨ei,ej⟩:=cu.rowEq 0 [⟨ah,aj,66,2,out.length + 1,(qb7 css z38 (j - 1)).flatten⟩] eh
   have ek:IntKind.i64.wrap (((j:Nat):Int) - 1) = ((j - 1:Nat):Int):=by rw [wrap_i64 (by omega) (by omega)]; omega
   rw [ek] at cw
   exact ⟨(j - 1),by omega,(j - 1),rfl,by omega,by omega,cw.pk,ei,((au.trans bo).trans ej)⟩
  have fA:=zF bn
  refine wp_exit (qau (qau (qaI (qab (qap [0,1,2,3,4] kz ?_)))))
  refine qai [0,1,2] [3,4] [(5,.v (.int .u32 (qaC l))),(6,.v (.slice ah (out.length + 1) aj)),(17,.v (.slice A ((u.take 32767).length) c)),(18,.v (.int .i64 (((u.take 32767).length:Nat):Int))),(19,.v (.int .i64 ((k:Nat):Int))),(79,.v (.slice ah (out.length + 1) aj)),(80,.v (.int .i64 ((i:Nat):Int))),(81,.v (.agg #[.int .u32 al,.slice aI ax.length aJ]))] aA bk fun g9 em=>?_
  have hji:j = i:=by omega
  have eo:(⟨ah,aj,66,2,out.length + 1,(qb7 css [.int .u32 0,.slice none 0 0] j).flatten⟩:Rw) = ⟨ah,aj,66,2,out.length + 1,(qb7 css [.int .u32 0,.slice none 0 0] i).flatten⟩:=by rw [hji]
  obtain ⟨cz,aF⟩:=aA.rowEq 0 [⟨ah,aj,66,2,out.length + 1,(qb7 css z38 i).flatten⟩] eo
  obtain ⟨ep,cA⟩:=qbX (cz.own 0 _ rfl) (show 0 < out.length + 1 by omega)
  refine qal (qax em (t:=24) (A:=ah) (m:=(out.length + 1)) (q:=((i:Nat):Int)) (d:=82) kz (e:=66) (size:=2) (bytes:=32) kz (b:=ep) (o:=0) (j:=i) cA (rfl) (by omega) fun hC eu=>?_)
  refine qal (qbL cz eu (k:=0) (g:=ep) (o:=i * 2) (c:=aj) (m:=(out.length + 1)) (size:=2) (e:=66) (A:=ah) (xs:=((qb7 css [.int .u32 0,.slice none 0 0] i).flatten)) (vs:=[.int .u32 al,.slice aI ax.length aJ]) kz rfl cA (by simp only [List.length_cons,List.length_nil]; omega) fun hJ aG cB ev=>?_)
  refine qae (qar (qab (qap [0,1] kz ?_)))
  refine qai [0,1] [] [(5,.v (.int .u32 (qaC l))),(6,.v (.slice ah (out.length + 1) aj)),(17,.v (.slice A ((u.take 32767).length) c)),(18,.v (.int .i64 (((u.take 32767).length:Nat):Int))),(19,.v (.int .i64 (IntKind.i64.wrap (((k:Nat):Int) + 1))))] cB ev fun hK ew=>?_
  refine qae (qab ?_)
  obtain ⟨bp,ey,aH⟩:=cB.cutB ew 0 [] [(5,.v (.int .u32 (qaC l))),(6,.v (.slice ah (out.length + 1) aj)),(17,.v (.slice A ((u.take 32767).length) c)),(18,.v (.int .i64 (((u.take 32767).length:Nat):Int))),(19,.v (.int .i64 (IntKind.i64.wrap (((k:Nat):Int) + 1))))]
  have hcl:=(hT.move ((((((((((ac.trans ae).trans aa).trans ab).trans ak).trans ao).trans aw).trans au).trans aF).trans aG).trans aH).step immM ((((((((((ac.trans ae).trans aa).trans ab).trans ak).trans ao).trans aw).trans au).trans aF).trans aG).trans aH).to').len
  have ez:(⟨ah,aj,66,2,out.length + 1,qbt ((qb7 css [.int .u32 0,.slice none 0 0] i).flatten) (i * 2) [.int .u32 al,.slice aI ax.length aJ]⟩:Rw) = ⟨ah,aj,66,2,(out.take i ++ (al,ax) :: out.drop i).length,(css.take i ++ [.int .u32 al,.slice aI ax.length aJ] :: css.drop i).flatten⟩:=by rw [qg0 (hT.move ((((((((((ac.trans ae).trans aa).trans ab).trans ak).trans ao).trans aw).trans au).trans aF).trans aG).trans aH).step immM ((((((((((ac.trans ae).trans aa).trans ab).trans ak).trans ao).trans aw).trans au).trans aF).trans aG).trans aH).to').two rfl (by omega) rfl,qc2 (al,ax) hi]
  obtain ⟨bq,bt⟩:=ey.rowEq 0 [⟨ah,aj,66,2,(out.take i ++ (al,ax) :: out.drop i).length,(css.take i ++ (z42 al aI ax.length aJ) :: css.drop i).flatten⟩] ez
  have eB:IntKind.i64.wrap (((k:Nat):Int) + 1) = ((k + 1:Nat):Int):=qaO (by omega)
  rw [eB] at bp
  have eC:out.length + 1 = (out.take i ++ (al,ax) :: out.drop i).length:=qc2 (al,ax) hi
  rw [eC] at bp
  exact ⟨(u.take 32767).length - (k + 1),by omega,k + 1,ah,aj,(out.take i ++ (al,ax) :: out.drop i),(css.take i ++ [.int .u32 al,.slice aI ax.length aJ] :: css.drop i),rfl,by omega,(hT.move (((((((((((ac.trans ae).trans aa).trans ab).trans ak).trans ao).trans aw).trans au).trans aF).trans aG).trans aH).trans bt).step immM (((((((((((ac.trans ae).trans aa).trans ab).trans ak).trans ao).trans aw).trans au).trans aF).trans aG).trans aH).trans bt).to').ins ⟨⟨aI,aJ,rfl,(cM.move bq.step nilM bq.imm)⟩,fb,fe⟩ hi,by rw [qck aP,← hout]; exact (qjd (qfB hi hlt (fun h_=>absurd h_ (by omega))) ‹_› (fun h_=>absurd h_ (by omega))).symm,by rw [← qc2 (al,ax) hi]; omega,bp.pk,bq,((((((((((((aR.trans ac).trans ae).trans aa).trans ab).trans ak).trans ao).trans aw).trans au).trans aF).trans aG).trans aH).trans bt)⟩
 have fB:=zF cD
 refine wp_exit (qau (qau (qaI (qab (qas [(4,.v (.slice A_ out.length c_))] aO cC fun hZ eD=>?_)))))
 refine wp_ret (qaM eD aO.cells (v:=.slice A_ out.length c_) kz ?_)
 exact qhu aO (k:=0) rfl rfl rfl hT (by omega) (by rw [hout,List.take_of_length_le (by omega)]; rfl)
def qjB (d:Nat):Prop:=∀ (cf:List Value) (f:Fld) (ct:List Value) (t:Tree) (w:World) (F:Nat → Nat → Prop),FldR w F cf f → f.depth ≤ d → TreeR w F ct t →
  Calls Tryz.prog 32 #[.agg cf.toArray,.agg ct.toArray] w (qcs w (.bool (f.usual t)))
theorem qhB {d:Nat} (hu:qjB d) (cf:List Value) (f:Fld) (ct:List Value) (t:Tree) (w:World) (F:Nat → Nat → Prop) (hf:FldR w F cf f) (hd:f.depth ≤ d + 1) (ht:TreeR w F ct t) :
  Calls Tryz.prog 32 #[.agg cf.toArray,.agg ct.toArray] w (qcs w (.bool (f.usual t))):=by
 obtain ⟨k1,y2,y3,y4,y5,y6,y7,l8,A9,aA,dD,rfl,rfl,dE,em⟩:=hf.open_
 have eo:=dE.small
 obtain ⟨af,ab,aC,aK,aB,ah,ai,bS,bT,bt,bu,ff,rfl,rfl,ep,fg,gL,fh⟩:=ht.open_
 have eu:=ep.small
 have ev:=fg.small
 refine enter (n:=91) Tryz.func32 rfl Tryz.ntmps32 kz fun a hE=>?_
 have hW:=WOk.start w Nil
 refine qaf [0,1,2] kz ?_
 refine qal (qbq hW hE (d:=2) (cs:=(z7 k1 y2 y3 y4 y5 y6 y7 A9 l8.length aA)) kz fun dF gM gN fi fj fk dG dH=>?_)
 refine qal (qbq dG dH (d:=3) (cs:=(z1 af ah ab.length ai aC bS aK.length bT bt aB.length bu)) kz fun dI gO gP fm fo fq aa dJ=>?_)
 refine qai [2] [] [(2,.p 0 0),(3,.p 1 0)] aa dJ fun gQ dK=>?_
 refine qae (qab ?_)
 refine wp_seq (qas [(2,.p 0 0),(3,.p 1 0),(10,.v (.int .i64 k1))] aa dK fun gR dL=>?_)
 refine wp_block (qas [(2,.p 0 0),(3,.p 1 0),(10,.v (.int .i64 k1)),(11,.v (.bool (k1 == 0)))] aa dL fun gS bM=>?_)
 refine qaw bM (b:=k1 == 0) kz (fun bN=>?_) (fun bN=>?_)
 ·
  have fr:k1 = 0:=by simpa using bN
  refine qas [(4,.v (.bool ((IntKind.i64.wrap (zB 64 af &&& zB 64 1).toNat) == y6)))] aa bM fun gT dM=>?_
  refine wp_ret (qay (qat (qaM dM aa.cells (v:=.bool ((IntKind.i64.wrap (zB 64 af &&& zB 64 1).toNat) == y6)) kz ?_)))
  refine ⟨congrArg (fun b_=>Ending.returned (Value.bool b_)) ?_,aa.step⟩
  first
   | (rw [qc8 ‹_›]; simp only [and1]; done)
   | (rw [qbU ‹_› ‹_›]; exact qbS hz (by omega); done)
   | (rw [qbU ‹_› ‹_›]; exact qbI (k:=k) (by omega) (by omega) ‹_›; done)
   | (rw [qcl ‹_› ‹_› (by omega) ‹_›]; done)
   | (rw [qcB ‹_› ‹_› (by omega) ‹_›]; done)
   | (rw [qcC ‹_› ‹_› ‹_› ‹_› ‹_›]; done)
   | (rw [qcv ‹_› ‹_› ‹_› ‹_› ‹_› ‹_›,huu,qb5 (by omega),Bool.true_and]; done)
   | (rw [qb4 ‹_› ‹_› ‹_› ‹_› ‹_› ‹_›]; done)
 have ft:k1 ≠ 0:=by simpa using bN
 refine qas [(2,.p 0 0),(3,.p 1 0),(10,.v (.int .i64 k1)),(19,.v (.bool (k1 == 7)))] aa bM fun gU bO=>?_
 refine qaw bO (b:=k1 == 7) kz (fun bP=>?_) (fun bP=>?_)
 ·
  have fu:k1 = 7:=by simpa using bP
  refine wp_seq (qas [(22,.v (.slice ah ab.length ai)),(23,.v (.int .i64 ((ab.length:Nat):Int))),(24,.v (.int .i64 0))] aa bO fun gV dN=>?_)
  refine wp_block (wp_loop_ghost (fun n_ a_ w_=>∃ (k:Nat),n_ = ab.length - k ∧ k ≤ ab.length ∧ (∀ q,q < k → q < 16 → (((ab.getD q 0).toNat:Nat):Int) = 0) ∧ LInv aa 91 [⟨dF,0,[.int .i64 k1,.int .i64 y2,.int .i64 y3,.int .i64 y4,.int .i64 y5,.int .i64 y6,.int .i64 y7,.slice A9 l8.length aA],true⟩,⟨dI,0,[.int .i64 af,.slice ah ab.length ai,.bool aC,.slice bS aK.length bT,.slice bt aB.length bu],true⟩] [] [(22,.v (.slice ah ab.length ai)),(23,.v (.int .i64 ((ab.length:Nat):Int))),(24,.v (.int .i64 ((k:Nat):Int)))] a_ w_) (ab.length) ⟨0,by omega,by omega,fun q h_=>absurd h_ (Nat.not_lt_zero q),dN.pk,aa,Fr.refl _ _ _⟩ ?_)
  rintro gW gX gY ⟨k,fv,fw,hz,dO,ae,bU⟩
  refine qas [(22,.v (.slice ah ab.length ai)),(23,.v (.int .i64 ((ab.length:Nat):Int))),(24,.v (.int .i64 ((k:Nat):Int))),(25,.v (.bool (decide (((k:Nat):Int) < ((ab.length:Nat):Int)))))] ae dO fun gZ bQ=>?_
  refine wp_seq (qaw bQ (b:=decide (((k:Nat):Int) < ((ab.length:Nat):Int))) kz (fun bR=>?_) (fun bR=>?_))
  ·
   have fx:=zD bR
   refine wp_skip (qab (wp_seq (wp_block (qaf [0,1,2,3,4] kz ?_))))
   refine qai [0] [1,2,3,4] [(22,.v (.slice ah ab.length ai)),(23,.v (.int .i64 ((ab.length:Nat):Int))),(24,.v (.int .i64 ((k:Nat):Int))),(26,.v (.int .i64 ((k:Nat):Int)))] ae bQ fun g7 dP=>?_
   obtain ⟨fy,fz,dQ,fA,bV⟩:=Slots.get ep (i:=k) (by omega)
   refine qal (qax dP (t:=22) (A:=ah) (m:=ab.length) (q:=((k:Nat):Int)) (d:=27) kz (e:=5) (size:=1) (bytes:=1) kz dQ rfl (by omega) fun g8 dR=>?_)
   refine qal (qaU dR (t:=5) (b:=fy) (o:=fz + k * 1) (d:=28) kz (cs:=[.int .u8 ((ab.getD k 0).toNat:Int)]) (v:=.int .u8 ((ab.getD k 0).toNat:Int)) kz (AtF.move bV ae.step nilM qa9).at_ fun g9 dS=>?_)
   refine qai [3,4] [] [(5,.v (.int .i64 ((k:Nat):Int))),(6,.v (.int .u8 ((ab.getD k 0).toNat:Int))),(22,.v (.slice ah ab.length ai)),(23,.v (.int .i64 ((ab.length:Nat):Int))),(24,.v (.int .i64 ((k:Nat):Int)))] ae dS fun hC dT=>?_
   refine qae (qab ?_)
   refine qaf [0,1,2,3,4,5] kz ?_
   refine qai [0,1,2] [3,4,5] [(6,.v (.int .u8 ((ab.getD k 0).toNat:Int))),(22,.v (.slice ah ab.length ai)),(23,.v (.int .i64 ((ab.length:Nat):Int))),(24,.v (.int .i64 ((k:Nat):Int))),(31,.v (.bool (decide (((k:Nat):Int) < 16))))] ae dT fun hJ bW=>?_
   refine (zO (decide (((k:Nat):Int) < 16))).elim (fun aL=>?_) (fun aL=>?_)
   ·
    have fB:=zD aL
    have dU:=bW
    rw [aL] at dU
    refine qai [3,4,5] [] [(22,.v (.slice ah ab.length ai)),(23,.v (.int .i64 ((ab.length:Nat):Int))),(24,.v (.int .i64 ((k:Nat):Int))),(34,.v (.bool (((ab.getD k 0).toNat:Int) != 0)))] ae dU fun hK aM=>?_
    refine qae (qab ?_)
    refine qaw aM (b:=((ab.getD k 0).toNat:Int) != 0) kz (fun aN=>?_) (fun aN=>?_)
    ·
     have ew:((ab.getD k 0).toNat:Int) ≠ 0:=by simpa using aN
     refine qas [(4,.v (.bool false))] ae aM fun fC bX=>?_
     refine wp_ret (qay (qat (qat (qay (qat (qay (qat (qaM bX ae.cells (v:=.bool false) kz ?_))))))))
     refine ⟨congrArg (fun b_=>Ending.returned (Value.bool b_)) ?_,ae.step⟩
     first
      | (rw [qc8 ‹_›]; simp only [and1]; done)
      | (rw [qbU ‹_› ‹_›]; exact qbS hz (by omega); done)
      | (rw [qbU ‹_› ‹_›]; exact qbI (k:=k) (by omega) (by omega) ‹_›; done)
      | (rw [qcl ‹_› ‹_› (by omega) ‹_›]; done)
      | (rw [qcB ‹_› ‹_› (by omega) ‹_›]; done)
      | (rw [qcC ‹_› ‹_› ‹_› ‹_› ‹_›]; done)
      | (rw [qcv ‹_› ‹_› ‹_› ‹_› ‹_› ‹_›,huu,qb5 (by omega),Bool.true_and]; done)
      | (rw [qb4 ‹_› ‹_› ‹_› ‹_› ‹_› ‹_›]; done)
    have ey:((ab.getD k 0).toNat:Int) = 0:=by simpa using aN
    refine wp_skip (qar (qab (qap [0,1] kz ?_)))
    refine qai [0,1] [] [(22,.v (.slice ah ab.length ai)),(23,.v (.int .i64 ((ab.length:Nat):Int))),(24,.v (.int .i64 (IntKind.i64.wrap (((k:Nat):Int) + 1))))] ae aM fun fD bw=>?_
    refine qae (qab ?_)
    have bY:IntKind.i64.wrap (((k:Nat):Int) + 1) = ((k + 1:Nat):Int):=qaO (by omega)
    rw [bY] at bw
    exact ⟨ab.length - (k + 1),by omega,k + 1,rfl,by omega,fun q hq bZ=>by rcases Nat.lt_succ_iff_lt_or_eq.1 hq with h_ | h_; exact hz q h_ bZ; rw [h_] at bZ ⊢; first | assumption | omega,bw.pk,ae,bU⟩
   have ez:=zF aL
   have b8:=bW
   rw [aL] at b8
   refine qai [3,4,5] [] [(22,.v (.slice ah ab.length ai)),(23,.v (.int .i64 ((ab.length:Nat):Int))),(24,.v (.int .i64 ((k:Nat):Int))),(34,.v (.bool false))] ae b8 fun fE bx=>?_
   refine qae (qab ?_)
   refine qan bx (b:=false) kz rfl ?_
   refine wp_skip (qar (qab (qap [0,1] kz ?_)))
   refine qai [0,1] [] [(22,.v (.slice ah ab.length ai)),(23,.v (.int .i64 ((ab.length:Nat):Int))),(24,.v (.int .i64 (IntKind.i64.wrap (((k:Nat):Int) + 1))))] ae bx fun fF bz=>?_
   refine qae (qab ?_)
   have cd:IntKind.i64.wrap (((k:Nat):Int) + 1) = ((k + 1:Nat):Int):=qaO (by omega)
   rw [cd] at bz
   exact ⟨ab.length - (k + 1),by omega,k + 1,rfl,by omega,fun q hq bZ=>by rcases Nat.lt_succ_iff_lt_or_eq.1 hq with h_ | h_; exact hz q h_ bZ; rw [h_] at bZ ⊢; first | assumption | omega,bz.pk,ae,bU⟩
  have eB:=zF bR
  refine wp_exit (qau (qau (qaI (qab (qas [(4,.v (.bool true))] ae bQ fun fG ce=>?_)))))
  refine wp_ret (qay (qat (qaM ce ae.cells (v:=.bool true) kz ?_)))
  refine ⟨congrArg (fun b_=>Ending.returned (Value.bool b_)) ?_,ae.step⟩
  first
   | (rw [qc8 ‹_›]; simp only [and1]; done)
   | (rw [qbU ‹_› ‹_›]; exact qbS hz (by omega); done)
   | (rw [qbU ‹_› ‹_›]; exact qbI (k:=k) (by omega) (by omega) ‹_›; done)
   | (rw [qcl ‹_› ‹_› (by omega) ‹_›]; done)
   | (rw [qcB ‹_› ‹_› (by omega) ‹_›]; done)
   | (rw [qcC ‹_› ‹_› ‹_› ‹_› ‹_›]; done)
   | (rw [qcv ‹_› ‹_› ‹_› ‹_› ‹_› ‹_›,huu,qb5 (by omega),Bool.true_and]; done)
   | (rw [qb4 ‹_› ‹_› ‹_› ‹_› ‹_› ‹_›]; done)
 have eC:k1 ≠ 7:=by simpa using bP
 refine wp_seq (qas [(2,.p 0 0),(3,.p 1 0),(10,.v (.int .i64 k1)),(36,.v (.bool (k1 == 8)))] aa bO fun fH aD=>?_)
 refine qaw aD (b:=k1 == 8) kz (fun aE=>?_) (fun aE=>?_)
 ·
  have eD:k1 = 8:=by simpa using aE
  refine wp_skip (qab (qa7 aD (b:=k1 == 8) kz (aE) ?_))
  refine wp_seq (qas [(3,.p 1 0),(41,.v (.bool (decide (y4 ≥ 0))))] aa aD fun fI aO=>?_)
  refine qaw aO (b:=decide (y4 ≥ 0)) kz (fun aP=>?_) (fun aP=>?_)
  ·
   have eE:=zD aP
   refine qas [(4,.v (.bool aC))] aa aO fun fJ cm=>?_
   refine wp_ret (qat (qay (qat (qaM cm aa.cells (v:=.bool aC) kz ?_))))
   refine ⟨congrArg (fun b_=>Ending.returned (Value.bool b_)) ?_,aa.step⟩
   first
    | (rw [qc8 ‹_›]; simp only [and1]; done)
    | (rw [qbU ‹_› ‹_›]; exact qbS hz (by omega); done)
    | (rw [qbU ‹_› ‹_›]; exact qbI (k:=k) (by omega) (by omega) ‹_›; done)
    | (rw [qcl ‹_› ‹_› (by omega) ‹_›]; done)
    | (rw [qcB ‹_› ‹_› (by omega) ‹_›]; done)
    | (rw [qcC ‹_› ‹_› ‹_› ‹_› ‹_›]; done)
    | (rw [qcv ‹_› ‹_› ‹_› ‹_› ‹_› ‹_›,huu,qb5 (by omega),Bool.true_and]; done)
    | (rw [qb4 ‹_› ‹_› ‹_› ‹_› ‹_› ‹_›]; done)
  have eF:=zF aP
  refine wp_skip (qab (qas [(4,.v (.bool (((ab.length:Nat):Int) == 0)))] aa aO fun fK cq=>?_))
  refine wp_ret (qay (qat (qaM cq aa.cells (v:=.bool (((ab.length:Nat):Int) == 0)) kz ?_)))
  refine ⟨congrArg (fun b_=>Ending.returned (Value.bool b_)) ?_,aa.step⟩
  first
   | (rw [qc8 ‹_›]; simp only [and1]; done)
   | (rw [qbU ‹_› ‹_›]; exact qbS hz (by omega); done)
   | (rw [qbU ‹_› ‹_›]; exact qbI (k:=k) (by omega) (by omega) ‹_›; done)
   | (rw [qcl ‹_› ‹_› (by omega) ‹_›]; done)
   | (rw [qcB ‹_› ‹_› (by omega) ‹_›]; done)
   | (rw [qcC ‹_› ‹_› ‹_› ‹_› ‹_›]; done)
   | (rw [qcv ‹_› ‹_› ‹_› ‹_› ‹_› ‹_›,huu,qb5 (by omega),Bool.true_and]; done)
   | (rw [qb4 ‹_› ‹_› ‹_› ‹_› ‹_› ‹_›]; done)
 have eG:k1 ≠ 8:=by simpa using aE
 refine qap [0,1] kz ?_
 refine qai [0,1] [] [(2,.p 0 0),(3,.p 1 0),(10,.v (.int .i64 k1)),(36,.v (.bool (k1 == 9)))] aa aD fun fL aQ=>?_
 refine qae (qab ?_)
 refine qaw aQ (b:=k1 == 9) kz (fun aR=>?_) (fun aR=>?_)
 ·
  have eH:k1 = 9:=by simpa using aR
  refine wp_seq (qas [(3,.p 1 0),(41,.v (.bool (decide (y4 ≥ 0))))] aa aQ fun fM aS=>?_)
  refine qaw aS (b:=decide (y4 ≥ 0)) kz (fun aT=>?_) (fun aT=>?_)
  ·
   have eI:=zD aT
   refine qas [(4,.v (.bool aC))] aa aS fun fN cr=>?_
   refine wp_ret (qat (qay (qat (qaM cr aa.cells (v:=.bool aC) kz ?_))))
   refine ⟨congrArg (fun b_=>Ending.returned (Value.bool b_)) ?_,aa.step⟩
   first
    | (rw [qc8 ‹_›]; simp only [and1]; done)
    | (rw [qbU ‹_› ‹_›]; exact qbS hz (by omega); done)
    | (rw [qbU ‹_› ‹_›]; exact qbI (k:=k) (by omega) (by omega) ‹_›; done)
    | (rw [qcl ‹_› ‹_› (by omega) ‹_›]; done)
    | (rw [qcB ‹_› ‹_› (by omega) ‹_›]; done)
    | (rw [qcC ‹_› ‹_› ‹_› ‹_› ‹_›]; done)
    | (rw [qcv ‹_› ‹_› ‹_› ‹_› ‹_› ‹_›,huu,qb5 (by omega),Bool.true_and]; done)
    | (rw [qb4 ‹_› ‹_› ‹_› ‹_› ‹_› ‹_›]; done)
  have eJ:=zF aT
  refine wp_skip (qab (qas [(4,.v (.bool (((ab.length:Nat):Int) == 0)))] aa aS fun fO cu=>?_))
  refine wp_ret (qay (qat (qaM cu aa.cells (v:=.bool (((ab.length:Nat):Int) == 0)) kz ?_)))
  refine ⟨congrArg (fun b_=>Ending.returned (Value.bool b_)) ?_,aa.step⟩
  first
   | (rw [qc8 ‹_›]; simp only [and1]; done)
   | (rw [qbU ‹_› ‹_›]; exact qbS hz (by omega); done)
   | (rw [qbU ‹_› ‹_›]; exact qbI (k:=k) (by omega) (by omega) ‹_›; done)
   | (rw [qcl ‹_› ‹_› (by omega) ‹_›]; done)
   | (rw [qcB ‹_› ‹_› (by omega) ‹_›]; done)
   | (rw [qcC ‹_› ‹_› ‹_› ‹_› ‹_›]; done)
   | (rw [qcv ‹_› ‹_› ‹_› ‹_› ‹_› ‹_›,huu,qb5 (by omega),Bool.true_and]; done)
   | (rw [qb4 ‹_› ‹_› ‹_› ‹_› ‹_› ‹_›]; done)
 have eK:k1 ≠ 9:=by simpa using aR
 refine qas [(2,.p 0 0),(3,.p 1 0),(10,.v (.int .i64 k1)),(48,.v (.bool (k1 == 11)))] aa aQ fun fP aU=>?_
 refine qaw aU (b:=k1 == 11) kz (fun aV=>?_) (fun aV=>?_)
 ·
  have eL:k1 = 11:=by simpa using aV
  refine qas [(4,.v (.bool (((aK.length:Nat):Int) == 0)))] aa aU fun fQ cw=>?_
  refine wp_ret (qay (qat (qaM cw aa.cells (v:=.bool (((aK.length:Nat):Int) == 0)) kz ?_)))
  refine ⟨congrArg (fun b_=>Ending.returned (Value.bool b_)) ?_,aa.step⟩
  first
   | (rw [qc8 ‹_›]; simp only [and1]; done)
   | (rw [qbU ‹_› ‹_›]; exact qbS hz (by omega); done)
   | (rw [qbU ‹_› ‹_›]; exact qbI (k:=k) (by omega) (by omega) ‹_›; done)
   | (rw [qcl ‹_› ‹_› (by omega) ‹_›]; done)
   | (rw [qcB ‹_› ‹_› (by omega) ‹_›]; done)
   | (rw [qcC ‹_› ‹_› ‹_› ‹_› ‹_›]; done)
   | (rw [qcv ‹_› ‹_› ‹_› ‹_› ‹_› ‹_›,huu,qb5 (by omega),Bool.true_and]; done)
   | (rw [qb4 ‹_› ‹_› ‹_› ‹_› ‹_› ‹_›]; done)
 have eM:k1 ≠ 11:=by simpa using aV
 refine qas [(2,.p 0 0),(3,.p 1 0),(54,.v (.bool (k1 == 10)))] aa aU fun fR aW=>?_
 refine qaw aW (b:=k1 == 10) kz (fun aX=>?_) (fun aX=>?_)
 ·
  have eN:k1 = 10:=by simpa using aX
  refine wp_seq (qas [(2,.p 0 0),(3,.p 1 0),(57,.v (.slice A9 l8.length aA)),(58,.v (.int .i64 ((l8.length:Nat):Int))),(59,.v (.int .i64 0))] aa aW fun fS cz=>?_)
  refine wp_block (wp_loop_ghost (fun n_ a_ w_=>∃ (k:Nat),n_ = l8.length - k ∧ k ≤ l8.length ∧ (usuals l8 (Tree.mk af ab aC aK aB) 0 = usuals (l8.drop k) (Tree.mk af ab aC aK aB) k) ∧ LInv aa 91 [⟨dF,0,[.int .i64 k1,.int .i64 y2,.int .i64 y3,.int .i64 y4,.int .i64 y5,.int .i64 y6,.int .i64 y7,.slice A9 l8.length aA],true⟩,⟨dI,0,[.int .i64 af,.slice ah ab.length ai,.bool aC,.slice bS aK.length bT,.slice bt aB.length bu],true⟩] [] [(2,.p 0 0),(3,.p 1 0),(57,.v (.slice A9 l8.length aA)),(58,.v (.int .i64 ((l8.length:Nat):Int))),(59,.v (.int .i64 ((k:Nat):Int)))] a_ w_) (l8.length) ⟨0,by omega,by omega,rfl,cz.pk,aa,Fr.refl _ _ _⟩ ?_)
  rintro fT fU fV ⟨k,eO,eP,huu,cA,ac,cB⟩
  refine qas [(2,.p 0 0),(3,.p 1 0),(57,.v (.slice A9 l8.length aA)),(58,.v (.int .i64 ((l8.length:Nat):Int))),(59,.v (.int .i64 ((k:Nat):Int))),(60,.v (.bool (decide (((k:Nat):Int) < ((l8.length:Nat):Int)))))] ac cA fun fW aY=>?_
  refine wp_seq (qaw aY (b:=decide (((k:Nat):Int) < ((l8.length:Nat):Int))) kz (fun aZ=>?_) (fun aZ=>?_))
  ·
   have eQ:=zD aZ
   refine wp_skip (qab (wp_seq (wp_block (qaf [0,1,2,3,4,5] kz ?_))))
   refine qai [0] [1,2,3,4,5] [(2,.p 0 0),(3,.p 1 0),(57,.v (.slice A9 l8.length aA)),(58,.v (.int .i64 ((l8.length:Nat):Int))),(59,.v (.int .i64 ((k:Nat):Int))),(61,.v (.int .i64 ((k:Nat):Int)))] ac aY fun fX cC=>?_
   obtain ⟨dV,dW,cD,eR,ba⟩:=Slots.get dE (i:=k) (by omega)
   obtain ⟨dX,aF⟩:∃ x,l8[k]? = some x:=⟨_,List.getElem?_eq_getElem (by omega)⟩
   have bd:=em k dX aF
   obtain ⟨aj,ak,al,am,ao,ap,ar,au,aI,aJ,eS,rfl,bf,dY,fY⟩:=bd.open_
   rw [bf] at bd
   have dZ:=dY.small
   rw [bf] at ba
   refine qal (qax cC (t:=29) (A:=A9) (m:=l8.length) (q:=((k:Nat):Int)) (d:=62) kz (e:=51) (size:=8) (bytes:=80) kz cD rfl (by omega) fun fZ cE=>?_)
   refine qal (qaU cE (t:=51) (b:=dV) (o:=dW + k * 8) (d:=63) kz (cs:=(z7 aj ak al am ao ap ar aI au.length aJ)) (v:=.agg #[.int .i64 aj,.int .i64 ak,.int .i64 al,.int .i64 am,.int .i64 ao,.int .i64 ap,.int .i64 ar,.slice aI au.length aJ]) kz (AtF.move ba ac.step nilM qa9).at_ fun f5 cG=>?_)
   refine qal (qaQ ac cG (d:=8) (cs:=z15) kz fun f7 f8 f9 eU eV cH bA cI=>?_)
   refine qai [4] [5] [(2,.p 0 0),(3,.p 1 0),(7,.v (.int .i64 ((k:Nat):Int))),(8,.p 2 0),(57,.v (.slice A9 l8.length aA)),(58,.v (.int .i64 ((l8.length:Nat):Int))),(59,.v (.int .i64 ((k:Nat):Int))),(63,.v (.agg #[.int .i64 aj,.int .i64 ak,.int .i64 al,.int .i64 am,.int .i64 ao,.int .i64 ap,.int .i64 ar,.slice aI au.length aJ]))] bA cI fun ga cJ=>?_
   refine qal (qao bA cJ (oi:=2) (cs:=(z7 aj ak al am ao ap ar aI au.length aJ)) kz fun gb cK cL cM=>?_)
   refine qae (qab ?_)
   refine qaE 6 kz cL fun gc cN av cO=>?_
   refine qaB [0,1,2] [(2,.p 0 0),(3,.p 1 0),(57,.v (.slice A9 l8.length aA)),(58,.v (.int .i64 ((l8.length:Nat):Int))),(59,.v (.int .i64 ((k:Nat):Int))),(64,.v (.agg #[.int .i64 aj,.int .i64 ak,.int .i64 al,.int .i64 am,.int .i64 ao,.int .i64 ap,.int .i64 ar,.slice aI au.length aJ])),(65,.v (.agg #[.int .i64 af,.slice ah ab.length ai,.bool aC,.slice bS aK.length bT,.slice bt aB.length bu])),(66,.v (.int .i64 ((k:Nat):Int)))] 3 (qaa (qac (qaa (qaa (qac (qaa (qac (qaa qad)))))))) (fun _ h=>h.cells) cO cM fun gd cP=>?_
   refine qam (i:=3) kz (qak cP (f:=30) (vs:=[.agg #[.int .i64 af,.slice ah ab.length ai,.bool aC,.slice bS aK.length bT,.slice bt aB.length bu],.int .i64 ((k:Nat):Int)]) (d:=67) kz Tryz.call30 (sAt _ _ k _ _ (ht.move av.step nilM av.imm)) ?_)
   rintro e_ ge ⟨eW,rfl,cQ,aw⟩
   have bg:=cQ.move aw nilM (fun b o h_ hb_=>av.laid (G:=F) aw b o (.inl h_) (Nat.lt_of_lt_of_le hb_ aw.size))
   obtain ⟨d5,d6,d7,d8,d9,ea,eb,ec,ee,ef,eg,eX,eY,bh,eh,ei,gg,gh⟩:=bg.open_
   rw [bh] at bg
   have ej:=eh.small
   have ek:=ei.small
   rw [bh]
   refine ⟨_,rfl,fun gi cR=>?_⟩
   have ax:=av.next_nil aw
   have bi:=av.frN aw
   have cS:=TT.ofW bi ax
   refine ⟨fun _=>cS,?_⟩
   refine qam (i:=4) kz (qak cR (f:=32) (vs:=[.agg #[.int .i64 aj,.int .i64 ak,.int .i64 al,.int .i64 am,.int .i64 ao,.int .i64 ap,.int .i64 ar,.slice aI au.length aJ],.agg #[.int .i64 d5,.slice ea d6.length eb,.bool d7,.slice ec d8.length ee,.slice ef d9.length eg]]) (d:=68) kz Tryz.call32 ( hu _ _ _ _ _ _ (bd.move ax.step nilM ax.imm) (by have h_:=qd3 aF; rw [qfl] at hd; omega) bg) ?_)
   rintro e_ gj ⟨rfl,bB⟩
   refine ⟨_,rfl,fun gk cT=>?_⟩
   have ag:=ax.next_nil bB
   have bC:=ax.frN bB
   have bD:=TT.ofW (bi.trans bC) ag
   refine ⟨fun _=>bD,?_⟩
   refine qaB [5] [(2,.p 0 0),(3,.p 1 0),(57,.v (.slice A9 l8.length aA)),(58,.v (.int .i64 ((l8.length:Nat):Int))),(59,.v (.int .i64 ((k:Nat):Int))),(69,.v (.bool (!(Fld.usual (Fld.mk aj ak al am ao ap ar au) (Tree.at_ (Tree.mk af ab aC aK aB) k)))))] 0 (qaa (qac (qaa (qaa (qac (qaa (qac (qaa qad)))))))) (fun _ h=>h.cells) bD cT fun gl bj=>?_
   refine qaz kz ?_ _
   refine qab (qaw bj (b:=!(Fld.usual (Fld.mk aj ak al am ao ap ar au) (Tree.at_ (Tree.mk af ab aC aK aB) k))) kz (fun bk=>?_) (fun bk=>?_))
   ·
    refine qas [(4,.v (.bool false))] ag bj fun gm cU=>?_
    refine wp_ret (qay (qat (qat (qay (qat (qay (qat (qaM cU ag.cells (v:=.bool false) kz ?_))))))))
    refine ⟨congrArg (fun b_=>Ending.returned (Value.bool b_)) ?_,ag.step⟩
    first
     | (rw [qc8 ‹_›]; simp only [and1]; done)
     | (rw [qbU ‹_› ‹_›]; exact qbS hz (by omega); done)
     | (rw [qbU ‹_› ‹_›]; exact qbI (k:=k) (by omega) (by omega) ‹_›; done)
     | (rw [qcl ‹_› ‹_› (by omega) ‹_›]; done)
     | (rw [qcB ‹_› ‹_› (by omega) ‹_›]; done)
     | (rw [qcC ‹_› ‹_› ‹_› ‹_› ‹_›]; done)
     | (rw [qcv ‹_› ‹_› ‹_› ‹_› ‹_› ‹_›,huu,qb5 (by omega),Bool.true_and]; done)
     | (rw [qb4 ‹_› ‹_› ‹_› ‹_› ‹_› ‹_›]; done)
     | (rw [qcv ‹_› ‹_› ‹_› ‹_› ‹_› ‹_›,huu,qhw aF (by simpa using bk),Bool.false_and]; done)
   refine wp_skip (qar (qab (qap [0,1] kz ?_)))
   refine qai [0,1] [] [(2,.p 0 0),(3,.p 1 0),(57,.v (.slice A9 l8.length aA)),(58,.v (.int .i64 ((l8.length:Nat):Int))),(59,.v (.int .i64 (IntKind.i64.wrap (((k:Nat):Int) + 1))))] ag bj fun gn cV=>?_
   refine qae (qab ?_)
   obtain ⟨bE,cW,cX⟩:=ag.cutB cV 2 [⟨dF,0,(z7 k1 y2 y3 y4 y5 y6 y7 A9 l8.length aA),true⟩,⟨dI,0,(z1 af ah ab.length ai aC bS aK.length bT bt aB.length bu),true⟩] [(2,.p 0 0),(3,.p 1 0),(57,.v (.slice A9 l8.length aA)),(58,.v (.int .i64 ((l8.length:Nat):Int))),(59,.v (.int .i64 (IntKind.i64.wrap (((k:Nat):Int) + 1))))]
   have cY:IntKind.i64.wrap (((k:Nat):Int) + 1) = ((k + 1:Nat):Int):=qaO (by omega)
   rw [cY] at bE
   exact ⟨l8.length - (k + 1),by omega,k + 1,rfl,by omega,by rw [huu]; exact qhv aF (by simpa using bk),bE.pk,cW,((((((cB.trans cH).trans cK).trans cN).trans bi).trans bC).trans cX)⟩
  have eZ:=zF aZ
  refine wp_exit (qau (qau (qaI (qab (qaf [0,1,2,3,4,5,6,7] kz ?_)))))
  refine qai [0,1,2,3] [4,5,6,7] [(72,.v (.slice A9 l8.length aA)),(74,.v (.slice bt aB.length bu))] ac aY fun gp cZ=>?_
  refine qal (qak cZ (f:=35) (vs:=[.slice A9 l8.length aA,.slice bt aB.length bu]) (d:=75) kz Tryz.call35 (qgu _ _ l8 _ _ aB _ _ ⟨dD,(dE.move ac.step nilM ac.imm),(fun i_ x_ h_=>((em i_ x_ h_).move ac.step nilM ac.imm))⟩ (fh.move ac.step nilM ac.imm)) ?_)
  rintro e_ gq ⟨gt,gv,rfl,c5,bn⟩
  have e9:=c5.move (Step.refl _ Nil) nilM (ac.laid (G:=F) bn)
  refine ⟨_,rfl,fun gw c6=>?_⟩
  have bo:=ac.next_nil bn
  have fa:=ac.frN bn
  refine qai [5,6,7] [] [(4,.v (.bool ((((qag l8 aB).length:Nat):Int) == 0)))] bo c6 fun gx da=>?_
  refine qae (qab ?_)
  refine wp_ret (qay (qat (qaM da bo.cells (v:=.bool ((((qag l8 aB).length:Nat):Int) == 0)) kz ?_)))
  refine ⟨congrArg (fun b_=>Ending.returned (Value.bool b_)) ?_,bo.step⟩
  first
   | (rw [qc8 ‹_›]; simp only [and1]; done)
   | (rw [qbU ‹_› ‹_›]; exact qbS hz (by omega); done)
   | (rw [qbU ‹_› ‹_›]; exact qbI (k:=k) (by omega) (by omega) ‹_›; done)
   | (rw [qcl ‹_› ‹_› (by omega) ‹_›]; done)
   | (rw [qcB ‹_› ‹_› (by omega) ‹_›]; done)
   | (rw [qcC ‹_› ‹_› ‹_› ‹_› ‹_›]; done)
   | (rw [qcv ‹_› ‹_› ‹_› ‹_› ‹_› ‹_›,huu,qb5 (by omega),Bool.true_and]; done)
   | (rw [qb4 ‹_› ‹_› ‹_› ‹_› ‹_› ‹_›]; done)
 have fb:k1 ≠ 10:=by simpa using aX
 refine wp_skip (qar (qab (qaE 13 kz aa fun gy fe bF db=>?_)))
 refine qaB [0,1,2,3,6,7,8,9] [(79,.v (.int .i64 af)),(81,.v (.int .i64 k1)),(85,.v (.int .i64 y6)),(87,.v (.int .i64 k1))] 6 (qaa qad) (fun _ h=>h.cells) db aW fun gz dc=>?_
 refine qam (i:=4) kz (qak dc (f:=66) (vs:=[.int .i64 k1]) (d:=82) kz Tryz.call66 (qjy k1 _) ?_)
 rintro e_ gA ⟨rfl,bG⟩
 refine ⟨_,rfl,fun gB de=>?_⟩
 have bH:=bF.next_nil bG
 have ay:=bF.frN bG
 have df:=TT.ofW ay bH
 refine ⟨fun _=>df,?_⟩
 refine qam (i:=5) kz (qak de (f:=65) (vs:=[.int .i64 af,.int .i64 ((qbH k1:Nat):Int)]) (d:=83) kz Tryz.call65 (qfL af (qbH k1) (by first | decide | exact qbM _ | omega) _) ?_)
 rintro e_ gC ⟨dg,dh,rfl,di,dj⟩
 refine ⟨_,rfl,fun gD dl=>?_⟩
 obtain ⟨bp,aG⟩:=bH.frFresh dj (brow dg dh 5 (be (qbH k1) af)) (Nat.le_refl _) di
 have dp:=TT.ofW (ay.trans aG) bp
 refine ⟨fun _=>dp,?_⟩
 refine qam (i:=10) kz (qak dl (f:=66) (vs:=[.int .i64 k1]) (d:=88) kz Tryz.call66 (qjy k1 _) ?_)
 rintro e_ gE ⟨rfl,bI⟩
 refine ⟨_,rfl,fun gF dq=>?_⟩
 have bJ:=bp.next_nil bI
 have bq:=bp.frN bI
 have dr:=TT.ofW ((ay.trans aG).trans bq) bJ
 refine ⟨fun _=>dr,?_⟩
 refine qam (i:=11) kz (qak dq (f:=65) (vs:=[.int .i64 y6,.int .i64 ((qbH k1:Nat):Int)]) (d:=89) kz Tryz.call65 (qfL y6 (qbH k1) (by first | decide | exact qbM _ | omega) _) ?_)
 rintro e_ gG ⟨dt,du,rfl,dv,dw⟩
 refine ⟨_,rfl,fun gH dx=>?_⟩
 obtain ⟨az,bK⟩:=bJ.frFresh dw (brow dt du 5 (be (qbH k1) y6)) (Nat.le_refl _) dv
 have dy:=TT.ofW (((ay.trans aG).trans bq).trans bK) az
 refine ⟨fun _=>dy,?_⟩
 refine qam (i:=12) kz (qak dx (f:=36) (vs:=[.slice dg ((be (qbH k1) af).length) dh,.slice dt ((be (qbH k1) y6).length) du]) (d:=90) kz Tryz.call36 (qer _ _ _ _ (be (qbH k1) af) (be (qbH k1) y6) _ _ (qcA (az.own 0 _ rfl) (by first | omega | (rw [qbp]; decide) | (simp only [be_length]; exact Nat.le_trans (qbM _) (by decide)) | (have:=hroom; omega) | (have:=hmade; omega) | (simp only [List.length_append,List.length_nil]; omega)) (F:=fun _ _=>True) (fun _ _ _=>trivial)) (qcA (az.own 1 _ rfl) (by first | omega | (rw [qbp]; decide) | (simp only [be_length]; exact Nat.le_trans (qbM _) (by decide)) | (have:=hroom; omega) | (have:=hmade; omega) | (simp only [List.length_append,List.length_nil]; omega)) (F:=fun _ _=>True) (fun _ _ _=>trivial))) ?_)
 rintro e_ gI ⟨rfl,bL⟩
 refine ⟨_,rfl,fun gJ dz=>?_⟩
 have aH:=az.next_nil bL
 have dA:=az.frN bL
 have dB:=TT.ofW ((((ay.trans aG).trans bq).trans bK).trans dA) aH
 refine ⟨fun _=>dB,?_⟩
 refine qam (i:=13) kz (qbf [4] aH.cells dz (env':=[(4,.v (.bool (decide (be (qbH k1) af = be (qbH k1) y6))))]) kz fun gK dC=>?_)
 refine ⟨fun h=>absurd rfl h,?_⟩
 refine qaz kz ?_ _
 refine qab (wp_ret (qaM dC aH.cells (v:=.bool (decide (be (qbH k1) af = be (qbH k1) y6))) kz ?_))
 refine ⟨congrArg (fun b_=>Ending.returned (Value.bool b_)) ?_,aH.step⟩
 first
  | (rw [qc8 ‹_›]; simp only [and1]; done)
  | (rw [qbU ‹_› ‹_›]; exact qbS hz (by omega); done)
  | (rw [qbU ‹_› ‹_›]; exact qbI (k:=k) (by omega) (by omega) ‹_›; done)
  | (rw [qcl ‹_› ‹_› (by omega) ‹_›]; done)
  | (rw [qcB ‹_› ‹_› (by omega) ‹_›]; done)
  | (rw [qcC ‹_› ‹_› ‹_› ‹_› ‹_›]; done)
  | (rw [qcv ‹_› ‹_› ‹_› ‹_› ‹_› ‹_›,huu,qb5 (by omega),Bool.true_and]; done)
  | (rw [qb4 ‹_› ‹_› ‹_› ‹_› ‹_› ‹_›]; done)
theorem qh5:∀ d,qjB d
 | 0=>fun cf f ct t w F hf hd ht=>by
  obtain ⟨k,x1,x2,x3,x4,x5,x6,l,A,c,xs,rfl,_⟩:=hf.open_
  rw [qfl] at hd; omega
 | d + 1=>qhB (qh5 d)
end Go.Proofs.YtdlaobdadlmcdaaGreatDoor.ME