/- The texts of a claim, put together: the engine, the contracts, the law. Own work. -/
import Derived.Test.YtdlaobdadlmcdaaGreatDoorWt2P0
import Derived.Test.YtdlaobdadlmcdaaGreatDoorRows
import Derived.WalkKit
import Derived.ProofKit
import Derived.OpenShut
import Derived.JoinedCond
import Derived.WideKeyArgs
import Derived.ChangeSame
import Derived.Laws.BytesArg
import Derived.Test.YtdlaobdadlmcdaaGreatDoorProg
namespace Go.Proofs.YtdlaobdadlmcdaaGreatDoor.ME
open Go
open Go.RowKit
set_option linter.unusedVariables false
set_option linter.unusedSimpArgs false
set_option maxRecDepth 20000
theorem qeq:∀ {l:List Fld} {i:Nat} {f:Fld},l[i]? = some f → f.depth ≤ depths l
 | [],i,f,h=>by simp at h
 | a :: r,0,f,h=>by
  simp only [List.getElem?_cons_zero,Option.some.injEq] at h
  subst h
  exact Nat.le_max_left _ _
 | a :: r,i + 1,f,h=>by
  have:=qeq (l:=r) (i:=i) (f:=f) (by simpa using h)
  exact Nat.le_trans this (Nat.le_max_right _ _)
theorem qfC (k x1 x2 x3 x4 x5 x6:Int) (l:List Fld):(Fld.mk k x1 x2 x3 x4 x5 x6 l).depth = depths l + 1:=by rw [Fld.depth]
section
variable {k x1 x2 x3 x4 x5 x6 n:Int} {l:List Fld} {s:Bs} {b:Bool} {ll:List Tree} {u:List (Int × Bs)}
theorem qdi (h:k = 0):Fld.usual (.mk k x1 x2 x3 x4 x5 x6 l) (.mk n s b ll u) = (n % 2 == x5):=by
 subst h; rw [Fld.usual,if_pos rfl]; simp [Tree.N]; rfl
theorem qb3 (h0:k ≠ 0) (h:k = 7):Fld.usual (.mk k x1 x2 x3 x4 x5 x6 l) (.mk n s b ll u) = (s.take 16).all (· == 0):=by
 rw [Fld.usual,if_neg h0,if_pos h]; rfl
theorem qcu (h0:k ≠ 0) (h7:k ≠ 7) (h:k = 8 ∨ k = 9) (hn:x3 ≥ 0):Fld.usual (.mk k x1 x2 x3 x4 x5 x6 l) (.mk n s b ll u) = b:=by
 rw [Fld.usual,if_neg h0,if_neg h7,if_pos h,if_pos hn]; rfl
theorem qcK (h0:k ≠ 0) (h7:k ≠ 7) (h:k = 8 ∨ k = 9) (hn:¬ x3 ≥ 0):Fld.usual (.mk k x1 x2 x3 x4 x5 x6 l) (.mk n s b ll u) = (((s.length:Nat):Int) == 0):=by
 rw [Fld.usual,if_neg h0,if_neg h7,if_pos h,if_neg hn,Bool.eq_iff_iff,decide_eq_true_iff,beq_iff_eq]
 show s.length = 0 ↔ _
 omega
theorem qcL (h0:k ≠ 0) (h7:k ≠ 7) (h8:k ≠ 8) (h9:k ≠ 9) (h:k = 11):Fld.usual (.mk k x1 x2 x3 x4 x5 x6 l) (.mk n s b ll u) = (((ll.length:Nat):Int) == 0):=by
 rw [Fld.usual,if_neg h0,if_neg h7,if_neg (by rintro (h | h); exact h8 h; exact h9 h),if_pos h,Bool.eq_iff_iff,decide_eq_true_iff,beq_iff_eq]
 show ll.length = 0 ↔ _
 omega
theorem qcG (h0:k ≠ 0) (h7:k ≠ 7) (h8:k ≠ 8) (h9:k ≠ 9) (h11:k ≠ 11) (h:k = 10):Fld.usual (.mk k x1 x2 x3 x4 x5 x6 l) (.mk n s b ll u) = (usuals l (.mk n s b ll u) 0 && (((qaj l u).length:Nat):Int) == 0):=by
 rw [Fld.usual,if_neg h0,if_neg h7,if_neg (by rintro (h | h); exact h8 h; exact h9 h),if_neg h11,if_pos h]
 congr 1
 rw [Bool.eq_iff_iff,decide_eq_true_iff,beq_iff_eq]
 show (qaj l u).length = 0 ↔ _
 omega
theorem qca (h0:k ≠ 0) (h7:k ≠ 7) (h8:k ≠ 8) (h9:k ≠ 9) (h11:k ≠ 11) (h10:k ≠ 10):Fld.usual (.mk k x1 x2 x3 x4 x5 x6 l) (.mk n s b ll u) = decide (be (qbN k) n = be (qbN k) x5):=by
 rw [Fld.usual,if_neg h0,if_neg h7,if_neg (by rintro (h | h); exact h8 h; exact h9 h),if_neg h11,if_neg h10]; rfl
end
theorem qb2 {s:Bs} {k:Nat} (h:∀ q,q < k → q < 16 → (((s.getD q 0).toNat:Nat):Int) = 0) (hk:s.length ≤ k):true = (s.take 16).all (· == 0):=by
 symm
 rw [List.all_eq_true]
 intro x hx
 obtain ⟨i,hi,rfl⟩:=List.getElem_of_mem hx
 rw [List.length_take] at hi
 have:=h i (by omega) (by omega)
 rw [List.getD_eq_getElem?_getD,List.getElem?_eq_getElem (show i < s.length by omega)] at this
 rw [List.getElem_take]
 simp only [Option.getD_some] at this
 have h0:s[i].toNat = 0:=by omega
 have:s[i] = 0:=UInt8.toNat.inj h0
 simp [this]
theorem qbR {s:Bs} {k:Nat} (hk:k < s.length) (h:k < 16) (hn:(((s.getD k 0).toNat:Nat):Int) ≠ 0):false = (s.take 16).all (· == 0):=by
 symm
 rw [← Bool.not_eq_true,List.all_eq_true]
 intro hall
 have:=hall s[k] (by
  rw [List.mem_iff_getElem?]
  exact ⟨k,by rw [List.getElem?_take,if_pos h,List.getElem?_eq_getElem hk]⟩)
 rw [List.getD_eq_getElem?_getD,List.getElem?_eq_getElem hk] at hn
 simp only [beq_iff_eq] at this
 rw [this] at hn
 exact hn rfl
theorem qcH {α:Type} {l:List α} {k:Nat} {x:α} (h:l[k]? = some x):l.drop k = x :: l.drop (k + 1):=by
 obtain ⟨hk,rfl⟩:=List.getElem?_eq_some_iff.1 h
 exact List.drop_eq_getElem_cons hk
theorem qhL {l:List Fld} {k:Nat} {f:Fld} {T:Tree} (h:l[k]? = some f) (hu:f.usual (T.at_ k) = true):usuals (l.drop k) T k = usuals (l.drop (k + 1)) T (k + 1):=by
 rw [qcH h]
 show (f.usual (T.at_ k) && usuals (l.drop (k + 1)) T (k + 1)) = _
 rw [hu,Bool.true_and]
theorem qhM {l:List Fld} {k:Nat} {f:Fld} {T:Tree} (h:l[k]? = some f) (hu:f.usual (T.at_ k) = false):usuals (l.drop k) T k = false:=by
 rw [qcH h]
 show (f.usual (T.at_ k) && usuals (l.drop (k + 1)) T (k + 1)) = _
 rw [hu,Bool.false_and]
theorem qcb {l:List Fld} {k:Nat} {T:Tree} (h:l.length ≤ k):usuals (l.drop k) T k = true:=by
 rw [List.drop_eq_nil_of_le h]; rfl
section
variable {W:Fld → Tree → Bs} {l:List Fld} {k:Nat} {a x1 x2 x3 x4 x5 x6 v:Int} {s:List Fld} {t:Tree} {m:Nat}
theorem qe0 (h:l[k]? = some (.mk a x1 x2 x3 x4 x5 x6 s)) (h1:x4 < 0) (h2:Fld.has (.mk a x1 x2 x3 x4 x5 x6 s) v = true):qaZ W (l.drop k) v t k = W (.mk a x1 x2 x3 x4 x5 x6 s) (t.at_ k) ++ qaZ W (l.drop (k + 1)) v t (k + 1):=by
 rw [qcH h,qaZ,if_pos ⟨h1,h2⟩]
theorem qiQ (h:l[k]? = some (.mk a x1 x2 x3 x4 x5 x6 s)) (h1:¬ x4 < 0):qaZ W (l.drop k) v t k = qaZ W (l.drop (k + 1)) v t (k + 1):=by
 rw [qcH h,qaZ,if_neg (fun h=>h1 h.1),List.nil_append]
theorem qiR (h:l[k]? = some (.mk a x1 x2 x3 x4 x5 x6 s)) (h2:Fld.has (.mk a x1 x2 x3 x4 x5 x6 s) v = false):qaZ W (l.drop k) v t k = qaZ W (l.drop (k + 1)) v t (k + 1):=by
 rw [qcH h,qaZ,if_neg (fun h=>by rw [h2] at h; cases h.2),List.nil_append]
theorem qhk (h:l.length ≤ k):qaZ W (l.drop k) v t k = []:=by rw [List.drop_eq_nil_of_le h]; rfl
theorem qer (h:l[k]? = some (.mk a x1 x2 x3 x4 x5 x6 s)) (h1:x4 = (m:Int)) (h2:Fld.usual (.mk a x1 x2 x3 x4 x5 x6 s) (t.at_ k) = false):tagB W (l.drop k) m t k = uv m ++ uv (W (.mk a x1 x2 x3 x4 x5 x6 s) (t.at_ k)).length ++ W (.mk a x1 x2 x3 x4 x5 x6 s) (t.at_ k) ++ tagB W (l.drop (k + 1)) m t (k + 1):=by
 rw [qcH h,tagB,if_pos ⟨h1,h2⟩]
theorem qjD (h:l[k]? = some (.mk a x1 x2 x3 x4 x5 x6 s)) (h1:x4 ≠ (m:Int)):tagB W (l.drop k) m t k = tagB W (l.drop (k + 1)) m t (k + 1):=by
 rw [qcH h,tagB,if_neg (fun h=>h1 h.1),List.nil_append]
theorem qjE (h:l[k]? = some (.mk a x1 x2 x3 x4 x5 x6 s)) (h2:Fld.usual (.mk a x1 x2 x3 x4 x5 x6 s) (t.at_ k) = true):tagB W (l.drop k) m t k = tagB W (l.drop (k + 1)) m t (k + 1):=by
 rw [qcH h,tagB,if_neg (fun h=>by rw [h2] at h; cases h.2),List.nil_append]
theorem qkz (h:l.length ≤ k):tagB W (l.drop k) m t k = []:=by rw [List.drop_eq_nil_of_le h]; rfl
theorem qkA (h:l[k]? = some (.mk a x1 x2 x3 x4 x5 x6 s)) (h1:x4 = (m:Int)) (h2:Fld.usual (.mk a x1 x2 x3 x4 x5 x6 s) (t.at_ k) = false):tagN W (l.drop k) m t k = 1 + tagN W (l.drop (k + 1)) m t (k + 1):=by
 rw [qcH h,tagN,if_pos ⟨h1,h2⟩]
theorem qjF (h:l[k]? = some (.mk a x1 x2 x3 x4 x5 x6 s)) (h1:x4 ≠ (m:Int)):tagN W (l.drop k) m t k = tagN W (l.drop (k + 1)) m t (k + 1):=by
 rw [qcH h,tagN,if_neg (fun h=>h1 h.1),Nat.zero_add]
theorem qjG (h:l[k]? = some (.mk a x1 x2 x3 x4 x5 x6 s)) (h2:Fld.usual (.mk a x1 x2 x3 x4 x5 x6 s) (t.at_ k) = true):tagN W (l.drop k) m t k = tagN W (l.drop (k + 1)) m t (k + 1):=by
 rw [qcH h,tagN,if_neg (fun h=>by rw [h2] at h; cases h.2),Nat.zero_add]
theorem qkB (h:l.length ≤ k):tagN W (l.drop k) m t k = 0:=by rw [List.drop_eq_nil_of_le h]; rfl
theorem qmq (n:Nat):0 < (uv n).length:=by
 rw [uv]; split <;> simp
theorem qhN (W:Fld → Tree → Bs) (m:Nat) (t:Tree):∀ (l:List Fld) (i:Nat),tagN W l m t i ≤ (tagB W l m t i).length
 | [],i=>Nat.zero_le _
 | f :: r,i=>by
  have:=qhN W m t r (i + 1)
  rw [tagN,tagB,List.length_append]
  split
  ·have h1:=qmq m
   simp only [List.length_append]; omega
  simp; omega
theorem qib (W:Fld → Tree → Bs) (l:List Fld) (t:Tree):∀ k,qa6 W l t k ≤ (qaN W l t k).length
 | 0=>Nat.zero_le _
 | k + 1=>by
  have h1:=qib W l t k
  have h2:=qhN W k t l 0
  rw [qa6,qaN,List.length_append]; omega
theorem qiS (W:Fld → Tree → Bs) (l:List Fld) (t:Tree) {i j:Nat} (h:i ≤ j):(qaN W l t i).length ≤ (qaN W l t j).length:=by
 induction j with
 | zero=>rw [Nat.le_zero.1 h]; omega
 | succ j ih =>
  rcases Nat.eq_or_lt_of_le h with he | he
  ·rw [he]; omega
  have:=ih (by omega)
  rw [qaN,List.length_append]; omega
end
theorem qgm (W:Fld → Tree → Bs) (l:List Fld) (v:Int) (n:Int) (s:Bs) (b:Bool) (ll:List Tree) (u:List (Int × Bs)):qeF W l v true (.mk n s b ll u) =
  qaZ W l v (.mk n s b ll u) 0 ++ uv (qa6 W l (.mk n s b ll u) (qaD l).toNat + (qaj l u).length) ++ (qaN W l (.mk n s b ll u) (qaD l).toNat ++ qbn (qaj l u)):=by
 rw [qeF,if_pos rfl,List.append_assoc]; rfl
theorem qjH (W:Fld → Tree → Bs) (l:List Fld) (v:Int) (t:Tree):qeF W l v false t = qaZ W l v t 0:=by
 rw [qeF]; simp
theorem qjI (l:List Fld):IntKind.i64.wrap (qaD l) = (((qaD l).toNat:Nat):Int):=by
 have:=qeI l
 rw [wrap_i64 (by omega) (by omega)]; omega
theorem qes {l:List (Int × Bs)} {k:Nat} {i:Int} {s:Bs} (h:l[k]? = some (i,s)):qbn (l.take (k + 1)) = qbn (l.take k) ++ (uv i.toNat ++ uv (qaG s).length ++ qaG s):=by
 unfold qbn; exact qdG h
theorem qgE {l:List (Int × Bs)} (k:Nat):(qbn (l.take k)).length ≤ (qbn l).length:=by
 unfold qbn; exact qdh l _ k
theorem qic:∀ {l:List Tree} {i:Nat} {x:Tree},l[i]? = some x → x.depth ≤ deep l
 | [],i,x,h=>by simp at h
 | a :: r,0,x,h=>by
  simp only [List.getElem?_cons_zero,Option.some.injEq] at h
  subst h
  exact Nat.le_max_left _ _
 | a :: r,i + 1,x,h=>Nat.le_trans (qic (l:=r) (i:=i) (by simpa using h)) (Nat.le_max_right _ _)
theorem qhl (n:Int) (s:Bs) (b:Bool) (l:List Tree) (u:List (Int × Bs)):(Tree.mk n s b l u).depth = deep l + 1:=by rw [Tree.depth]
theorem qdu {α:Type} {l:List α} {k:Nat} {x:α} (h:l[k]? = some x):l.take (k + 1) = l.take k ++ [x]:=by rw [List.take_add_one,h]; rfl
section
variable {F:Nat → Nat → Prop} {w0 w:World} {tb:Tb} {rs:List Rw}
theorem qid (hW:WOk w0 Nil w tb rs) {k:Nat} {r:Rw} (hk:rs[k]? = some r):∀ g,r.A.map (·.block) = some g → ∀ o,Fp F w0 g o:=by
 intro g hg o
 rcases hW.ownM k r hk g hg with h | h
 ·exact .inr h
 exact (h 0).elim
theorem qie (hW:WOk w0 Nil w tb rs) {k:Nat} {A:Option Addr} {c e n:Nat} {xs:List Value} {l:List Tree} {css:List (List Value)} (hk:rs[k]? = some ⟨A,c,e,5,n,xs⟩) (hT:Trees w (Imm F w0 w tb rs) xs l css) (hn:n = l.length) (hsm:l.length ≤ 1099511627776) :
  Slots w (Fp F w0) 5 A c l.length (fun i=>css.getD i []) ∧ ∀ (i:Nat) (x:Tree),l[i]? = some x → TreeR w (Fp F w0) (css.getD i []) x :=
 (hT.move (Step.refl w Nil) nilM qbP).slots (hW.own k _ hk) hn hsm (qid hW hk)
theorem qlq (hW:WOk w0 Nil w tb rs) {k:Nat} {A:Option Addr} {c e n:Nat} {xs:List Value} {l:List (Int × Bs)} {css:List (List Value)} (hk:rs[k]? = some ⟨A,c,e,2,n,xs⟩) (hT:Tags w (Imm F w0 w tb rs) xs l css) (hn:n = l.length) (hsm:l.length ≤ 1099511627776):TagsR w (Fp F w0) A c l :=
 (hT.move (Step.refl w Nil) nilM qbP).slots (hW.own k _ hk) hn hsm (qid hW hk)
theorem qkC (hW:WOk w0 Nil w tb rs) {A1 A2 A3:Option Addr} {c1 c2 c3 n2 n3:Nat} {n:Int} {s:Bs} {b:Bool} {l:List Tree} {u:List (Int × Bs)} {xs:Nat → List Value} {m:Nat} (hm:m = s.length) (hS:Octs w (Fp F w0) A1 c1 s) (hn2:n2 = l.length) (hL:Slots w (Fp F w0) 5 A2 c2 l.length xs ∧ ∀ (i:Nat) (x:Tree),l[i]? = some x → TreeR w (Fp F w0) (xs i) x)
  (hn3:n3 = u.length) (hU:TagsR w (Fp F w0) A3 c3 u) {t:Tree} (ht:t = .mk n s b l u):qdX w0 F t (.returned (.agg #[.int .i64 n,.slice A1 m c1,.bool b,.slice A2 n2 c2,.slice A3 n3 c3])) w:=by
 subst hm; subst hn2; subst hn3; subst ht
 exact ⟨_,rfl,TreeR.mk xs hS hL.1 hL.2 hU,hW.step⟩
theorem qlr {G:Nat → Nat → Prop}:∀ b o,G b o → b < w0.heap.size → Fp G w0 b o:=fun _ _ h _=>.inl h
end
theorem qhm (W:Fld → Tree → Tree) (t:Tree):∀ {l:List Fld} {i k:Nat} {f:Fld},l[k]? = some f → (qhF W l t i)[k]? = some (W f (t.at_ (i + k)))
 | [],i,k,f,h=>by simp at h
 | a :: r,i,0,f,h=>by
  simp only [List.getElem?_cons_zero,Option.some.injEq] at h
  subst h; rfl
 | a :: r,i,k + 1,f,h=>by
  rw [qhF,List.getElem?_cons_succ,qhm W t (l:=r) (i:=i + 1) (by simpa using h),show i + 1 + k = i + (k + 1) by omega]
theorem qkD {W:Fld → Tree → Tree} {t:Tree} {l:List Fld} {k:Nat} {f:Fld} (h:l[k]? = some f):(qhF W l t 0)[k]? = some (W f (t.at_ k)):=by
 have:=qhm W t (i:=0) h
 rwa [Nat.zero_add] at this
def qcC (u:List (Int × Bs)):List (Int × Bs):=u.map fun x=>(x.1,qaG x.2)
theorem qiT {u:List (Int × Bs)} {k:Nat} {i:Int} {s:Bs} (h:u[k]? = some (i,s)):(qcC u)[k]? = some (i,qaG s):=by
 rw [qcC,List.getElem?_map,h]; rfl
theorem qcV (u:List (Int × Bs)):(qcC u).length = u.length:=by rw [qcC,List.length_map]
section
variable {p:List Fld → Tree → Tree} {k x1 x2 x3 x4 x5 x6 v n:Int} {l:List Fld} {s:Bs} {b null:Bool} {ll:List Tree} {u:List (Int × Bs)}
end
theorem qgn:∀ {l:List Fld} {f:Fld},plains l → f ∈ l → f.plain
 | [],f,_,h=>by cases h
 | a :: r,f,hp,h=>by
  rcases List.mem_cons.1 h with rfl | h
  ·exact hp.1
  exact qgn (l:=r) hp.2 h
theorem qjJ {f:Fld} (h:f.plain):plains f.sub:=by cases f; exact h.2
def qjK (w:World):Ending → World → Prop:=fun en w'=>∃ b,en = .returned (.bool b) ∧ Step w w' Nil
structure Flds (w:World) (F:Nat → Nat → Prop) (xs:List Value) (l:List Fld) (css:List (List Value)):Prop where
 flat:Flat 8 xs css
 len:css.length = l.length
 each:∀ (i:Nat) (c:List Value) (x:Fld),css[i]? = some c → l[i]? = some x → FldR w F c x
theorem Flds.nil (w:World) (F:Nat → Nat → Prop):Flds w F [] [] []:=⟨Flat.nil 8,rfl,fun i c x h=>by simp at h⟩
theorem FldR.eight {w:World} {F:Nat → Nat → Prop} {cs:List Value} {t:Fld} (h:FldR w F cs t):cs.length = 8:=by
 obtain ⟨k,x1,x2,x3,x4,x5,x6,l,A,c,xs,rfl,rfl,_⟩:=h.open_; rfl
theorem FldR.one {w:World} {F:Nat → Nat → Prop} {cs:List Value} {t:Fld} (h:FldR w F cs t):∀ u ∈ cs,u.oneCell' = true:=by
 obtain ⟨k,x1,x2,x3,x4,x5,x6,l,A,c,xs,rfl,rfl,_⟩:=h.open_
 intro v hv
 simp only [List.mem_cons,List.not_mem_nil,or_false] at hv
 rcases hv with rfl | rfl | rfl | rfl | rfl | rfl | rfl | rfl <;> rfl
theorem Flds.snoc {w:World} {F:Nat → Nat → Prop} {xs:List Value} {l:List Fld} {css:List (List Value)} (h:Flds w F xs l css) {c:List Value} {x:Fld} (hx:FldR w F c x):Flds w F (xs ++ c) (l ++ [x]) (css ++ [c]):=by
 refine ⟨h.flat.snoc hx.eight,by simp [h.len],fun i d y hd hy=>?_⟩
 rcases qci hd with ⟨h1,h2⟩ | ⟨h1,rfl⟩
 ·rcases qci hy with ⟨_,h3⟩ | ⟨h3,_⟩
  ·exact h.each i d y h2 h3
  have:=h.len; omega
 rcases qci hy with ⟨h3,_⟩ | ⟨_,rfl⟩
 ·have:=h.len; omega
 exact hx
theorem Flds.slots {w0 w:World} {tb:Tb} {rs:List Rw} {F:Nat → Nat → Prop} (hW:WOk w0 Nil w tb rs) {k e n:Nat} {A:Option Addr} {c:Nat} {xs:List Value} {l:List Fld} {css:List (List Value)} (hk:rs[k]? = some ⟨A,c,e,8,n,xs⟩) (h:Flds w (Fp F w0) xs l css) (hn:n = l.length) (hsm:l.length ≤ 1099511627776) :
  Slots w (Fp F w0) 8 A c l.length (fun i=>css.getD i []) ∧ ∀ (i:Nat) (x:Fld),l[i]? = some x → FldR w (Fp F w0) (css.getD i []) x:=by
 subst hn
 have ho:=hW.own k _ hk
 have h1:∀ u ∈ xs,u.oneCell' = true:=by
  intro v hv
  rw [h.flat.eq] at hv
  obtain ⟨c,hc,hv⟩:=List.mem_flatten.1 hv
  obtain ⟨i,hi,rfl⟩:=List.getElem_of_mem hc
  have hl:=h.len
  exact (h.each i _ _ (List.getElem?_eq_getElem hi) (List.getElem?_eq_getElem (show i < l.length by omega))).one v hv
 refine ⟨?_,fun i x hx=>?_⟩
 ·have hx:=h.flat
  simp only [Rw.v] at ho
  rw [← h.len] at ho ⊢
  exact hx.slots ho h1 (by rw [h.len]; exact hsm) (qid hW hk)
 have hi:i < css.length:=by rw [h.len]; exact (List.getElem?_eq_some_iff.1 hx).1
 have:css.getD i [] = css[i]:=by rw [List.getD_eq_getElem?_getD,List.getElem?_eq_getElem hi]; rfl
 rw [this]
 exact h.each i _ x (List.getElem?_eq_getElem hi) hx
theorem qb7 (w:World) (F:Nat → Nat → Prop):Slots w F 8 none 0 ([]:List Fld).length (fun _=>[]) ∧ ∀ (i:Nat) (x:Fld),([]:List Fld)[i]? = some x → FldR w F [] x :=
 ⟨Slots.nil w F 8 _,fun i x h=>by simp at h⟩
def qlY (w:World) (F:Nat → Nat → Prop) (l:List Fld) (x:Int):Ending → World → Prop:=fun en w'=>∃ A c,en = .returned (.agg #[.slice A l.length c,.int .i64 x]) ∧ FldsR w' (Fp F w) A c l ∧ Step w w' Nil
theorem qfS (y:Int × Bs) (r:List (Int × Bs)) (k:Int):qdW (y :: r) k = if y.1 < k then qdW r k + 1 else 0:=by
 unfold qdW
 rw [List.takeWhile_cons]
 by_cases h:y.1 < k
 ·simp [h]
 simp [h]
theorem qeB {least:Int} {y t:Int × Bs} {r:List (Int × Bs)} (h:y.1 < t.1):qce least (y :: r) t = y :: qce least r t:=by
 unfold qce
 rw [qfS,if_pos h]
 simp only [List.length_cons,Nat.add_lt_add_iff_right,List.getD_cons_succ,List.take_succ_cons,List.drop_succ_cons,List.cons_append]
 split <;> rfl
theorem qeC {least:Int} {y t:Int × Bs} {r:List (Int × Bs)} (h:¬ y.1 < t.1):qce least (y :: r) t = if t.1 < least ∨ y.1 = t.1 then y :: r else t :: y :: r:=by
 unfold qce
 rw [qfS,if_neg h]
 simp only [List.length_cons,Nat.zero_lt_succ,List.getD_cons_zero,List.take_zero,List.drop_zero,List.nil_append,true_and]
theorem qgo {least:Int} {t:Int × Bs}:qce least [] t = if t.1 < least then [] else [t]:=by
 unfold qce
 simp [qdW]
theorem qff {least:Int} {t:Int × Bs}:∀ {out:List (Int × Bs)},∀ x ∈ qce least out t,x = t ∨ x ∈ out
 | [],x,hx=>by
  rw [qgo] at hx
  split at hx
  ·cases hx
  exact .inl (List.mem_singleton.1 hx)
 | y :: r,x,hx=>by
  by_cases h:y.1 < t.1
  ·rw [qeB h] at hx
   rcases List.mem_cons.1 hx with rfl | hx
   ·exact .inr (List.mem_cons_self ..)
   rcases qff x hx with h1 | h1
   ·exact .inl h1
   exact .inr (List.mem_cons_of_mem _ h1)
  rw [qeC h] at hx
  split at hx
  ·exact .inr hx
  rcases List.mem_cons.1 hx with rfl | hx
  ·exact .inl rfl
  exact .inr hx
theorem qe1 {least:Int} {t:Int × Bs}:∀ {out:List (Int × Bs)},qdI out → qdI (qce least out t)
 | [],_=>by
  rw [qgo]
  split
  ·exact List.Pairwise.nil
  exact List.pairwise_singleton _ _
 | y :: r,h=>by
  have h1:=@List.rel_of_pairwise_cons _ _ _ _ h
  have h2:=List.Pairwise.of_cons h
  by_cases hlt:y.1 < t.1
  ·rw [qeB hlt]
   refine List.pairwise_cons.2 ⟨fun z hz=>?_,qe1 h2⟩
   rcases qff z hz with rfl | hz
   ·exact hlt
   exact h1 hz
  rw [qeC hlt]
  split
  ·exact h
  rename_i hn
  refine List.pairwise_cons.2 ⟨fun z hz=>?_,h⟩
  rcases List.mem_cons.1 hz with rfl | hz
  ·omega
  have:=h1 hz; omega
theorem qfs {least:Int}:∀ {l out:List (Int × Bs)},qdI out → qdI (l.foldl (qce least) out)
 | [],_,h=>h
 | x :: r,_,h=>qfs (l:=r) (qe1 h)
theorem qhn {least:Int}:∀ {l out:List (Int × Bs)},(l.foldl (qce least) out).length ≤ out.length + l.length
 | [],_=>Nat.le_refl _
 | x :: r,out=>by
  have h1:=qhn (least:=least) (l:=r) (out:=qce least out x)
  have h2:=qiP least out x
  rw [List.foldl_cons,List.length_cons]
  omega
theorem qho {least:Int}:∀ {l out:List (Int × Bs)},∀ x ∈ l.foldl (qce least) out,x ∈ out ∨ x ∈ l
 | [],_,x,hx=>.inl hx
 | y :: r,out,x,hx=>by
  rcases qho (l:=r) x hx with h | h
  ·rcases qff x h with rfl | h
   ·exact .inr (List.mem_cons_self ..)
   exact .inl h
  exact .inr (List.mem_cons_of_mem _ h)
theorem qfT (l:List Fld) (u:List (Int × Bs)):qdI (qaj l u):=qfs List.Pairwise.nil
theorem qhp (l:List Fld) (u:List (Int × Bs)):(qaj l u).length ≤ 32767:=by
 have h:=qhn (least:=qaD l) (l:=u.take 32767) (out:=[])
 rw [List.length_take,List.length_nil] at h
 unfold qaj
 omega
theorem qhq {l:List Fld} {u:List (Int × Bs)}:∀ x ∈ qaj l u,x ∈ u:=fun x hx=>by
 rcases qho x hx with h | h
 ·cases h
 exact List.mem_of_mem_take h
theorem qgF {u:List (Int × Bs)} (h:qdI u):qdI (qcC u):=List.pairwise_map.2 h
theorem qdQ (u:List (Int × Bs)):qck (qcC u) = qbn u:=by
 unfold qck qcC qbn tagR
 rw [List.flatMap_map]
theorem qf9 (v:Int) (d:Nat) (l:List Fld) (t:Tree):(fitT v d l t).U = qcC (qaj l t.U):=by cases d <;> rfl
theorem qgp {v:Int} {d:Nat} {l:List Fld} {t:Tree} {i:Nat} {f:Fld} (h:l[i]? = some f):(fitT v (d + 1) l t).at_ i = qcJ (fitT v d) v f (t.at_ i):=by
 have h1:=qkD (W:=qcJ (fitT v d) v) (t:=t) h
 have e:(fitT v (d + 1) l t).L = qhF (qcJ (fitT v d) v) l t 0:=rfl
 rw [Tree.at_,e,List.getD_eq_getElem?_getD,h1]
 rfl
theorem qdZ {v:Int} {d:Nat} {l:List Fld} {t:Tree} {i:Nat} {k x1 x2 x3 x4 x5 x6:Int} {s:List Fld} (h:l[i]? = some (.mk k x1 x2 x3 x4 x5 x6 s)) (hk:k < 8):((fitT v (d + 1) l t).at_ i).N = (t.at_ i).N:=by
 rw [qgp h]
 have e1:k ≠ 11:=by omega
 have e2:¬ (k = 8 ∨ k = 9):=by omega
 have e3:k ≠ 10:=by omega
 simp [qcJ,qch,Fld.kind,e1,e2,e3,Tree.N]
theorem qk1 {v:Int} {d:Nat} {l:List Fld} {t:Tree} {i:Nat} {k x1 x2 x3 x4 x5 x6:Int} {s:List Fld} (h:l[i]? = some (.mk k x1 x2 x3 x4 x5 x6 s)) (hk:k < 8):((fitT v (d + 1) l t).at_ i).S = (t.at_ i).S:=by
 rw [qgp h]
 have e1:k ≠ 11:=by omega
 have e2:¬ (k = 8 ∨ k = 9):=by omega
 have e3:k ≠ 10:=by omega
 simp [qcJ,qch,Fld.kind,e1,e2,e3,Tree.S]
theorem qhr {v:Int} (h0:0 ≤ v) (h1:v < 32768):IntKind.i16.wrap v = v:=by
 have:IntKind.i16.wrap v = (v + 32768) % 65536 - 32768:=by simp [IntKind.wrap,IntKind.signed,IntKind.bits]; omega
 omega
theorem qgG (x:Int):be 8 (IntKind.i64.wrap x) = be 8 x:=by
 rw [IntKind.wrap_i64]
 simp only [be,List.cons.injEq,and_true]
 refine ⟨qbr ?_,qbr ?_,qbr ?_,qbr ?_,qbr ?_,qbr ?_,qbr ?_,qbr ?_⟩ <;> simp only [Int.reducePow] <;> omega
theorem qif (x:Int):be 1 (IntKind.i8.wrap x) = be 1 x:=by
 have:IntKind.i8.wrap x = (x + 128) % 256 - 128:=by simp [IntKind.wrap,IntKind.signed,IntKind.bits]; omega
 rw [this]
 simp only [be,List.cons.injEq,and_true]
 refine qbr ?_
 simp only [Int.reducePow]; omega
def qah (s:Bs):Bs:=(List.range 16).map fun i=>s.getD i 0
theorem qd8 (s:Bs):(qah s).length = 16:=by simp [qah]
theorem qcM (s:Bs):qah s = qbF s:=by
 apply List.ext_getElem?
 intro i
 unfold qah qbF
 rw [List.getElem?_map,List.getElem?_append,List.length_take]
 by_cases h:i < 16
 ·rw [List.getElem?_range h]
  by_cases hs:i < s.length
  ·rw [if_pos (by omega),List.getElem?_take,if_pos h,Option.map_some,List.getD_eq_getElem?_getD,List.getElem?_eq_getElem hs]; rfl
  rw [if_neg (by omega),List.getElem?_replicate,if_pos (by omega),Option.map_some,List.getD_eq_getElem?_getD,List.getElem?_eq_none (by omega)]; rfl
 rw [List.getElem?_eq_none (by simp; omega)]
 by_cases hs:i < min 16 s.length
 ·omega
 rw [if_neg hs,List.getElem?_replicate,if_neg (by omega)]; rfl
theorem qlZ {x m:Int} (h0:0 ≤ x) (h1:x ≤ 255) (hm:0 < m) (hm':m ≤ 32768):0 ≤ Int.tmod x m ∧ Int.tmod x m < 32768:=by
 rw [Int.tmod_eq_emod_of_nonneg h0]
 have g1:=Int.emod_nonneg x (show m ≠ 0 by omega)
 have g2:=Int.emod_lt_of_pos x hm
 omega
def usz:List (Int × Bs) → Nat
 | []=>0
 | x :: r=>(1 + (uv x.1.toNat).length + x.2.length) + usz r
def Tree.size:Tree → Nat
 | .mk _ s _ l u=>sizes l + (1 + s.length + usz u)
where sizes:List Tree → Nat
 | []=>0
 | t :: r=>t.size + sizes r
abbrev sizes:=Tree.size.sizes
theorem Tree.size_mk (n:Int) (s:Bs) (b:Bool) (l:List Tree) (u:List (Int × Bs)):(Tree.mk n s b l u).size = sizes l + (1 + s.length + usz u):=by rw [Tree.size]
theorem Tree.size_pos (t:Tree):1 ≤ t.size:=by cases t; rw [Tree.size_mk]; omega
theorem Tree.size_S (t:Tree):t.S.length ≤ t.size:=by cases t; rw [Tree.size_mk]; show List.length _ ≤ _; simp only [Tree.S]; omega
theorem Tree.size_U (t:Tree):usz t.U ≤ t.size:=by cases t; rw [Tree.size_mk]; simp only [Tree.U]; omega
theorem Tree.size_L (t:Tree):sizes t.L ≤ t.size:=by cases t; rw [Tree.size_mk]; simp only [Tree.L]; omega
theorem qhs:∀ {l:List Tree} {i:Nat} {x:Tree},l[i]? = some x → x.size ≤ sizes l
 | [],i,x,h=>by simp at h
 | t :: r,0,x,h=>by
  simp only [List.getElem?_cons_zero,Option.some.injEq] at h
  subst h
  exact Nat.le_add_right _ _
 | t :: r,i + 1,x,h=>Nat.le_trans (qhs (l:=r) (i:=i) (by simpa using h)) (Nat.le_add_left _ _)
theorem qgq:∀ (l:List Tree) (k:Nat),sizes (l.take k) ≤ sizes l
 | [],k=>by simp
 | t :: r,0=>Nat.zero_le _
 | t :: r,k + 1=>Nat.add_le_add_left (qgq r k) _
theorem qjL:∀ (l:List Tree),l.length ≤ sizes l
 | []=>Nat.zero_le _
 | t :: r=>by
  have h1:=t.size_pos
  have h2:=qjL r
  show r.length + 1 ≤ t.size + sizes r
  omega
theorem qjM (t:Tree) (i:Nat):(t.at_ i).size ≤ t.size:=by
 unfold Tree.at_
 rw [List.getD_eq_getElem?_getD]
 cases h:t.L[i]? with
 | none =>
  have h1:=t.size_pos
  have:Tree.zero.size = 1:=by unfold Tree.zero; rw [Tree.size_mk]; rfl
  show Tree.zero.size ≤ _
  omega
 | some x=>exact Nat.le_trans (qhs h) t.size_L
theorem qfg:∀ (a b:List (Int × Bs)),usz (a ++ b) = usz a + usz b
 | [],b=>by simp [usz]
 | x :: r,b=>by
  show (1 + _ + _) + usz (r ++ b) = (1 + _ + _) + usz r + usz b
  rw [qfg r b]; omega
theorem qls (k:Int) (out:List (Int × Bs)) (t:Int × Bs):usz (qce k out t) ≤ usz out + usz [t]:=by
 unfold qce
 dsimp only
 split
 ·omega
 have h:usz out = usz (out.take (qdW out t.1)) + usz (out.drop (qdW out t.1)):=by rw [← qfg,List.take_append_drop]
 rw [qfg]
 show _ + (_ + usz (out.drop _)) ≤ _
 rw [h]
 simp only [usz]
 omega
theorem qig (k:Int):∀ (l out:List (Int × Bs)),usz (l.foldl (qce k) out) ≤ usz out + usz l
 | [],out=>by simp [usz]
 | t :: r,out=>by
  rw [List.foldl_cons]
  refine Nat.le_trans (qig k r _) ?_
  have:=qls k out t
  simp only [usz] at this ⊢
  omega
theorem qih:∀ (l:List (Int × Bs)) (k:Nat),usz (l.take k) ≤ usz l
 | [],k=>by simp
 | t :: r,0=>Nat.zero_le _
 | t :: r,k + 1=>Nat.add_le_add_left (qih r k) _
theorem qhO (l:List Fld) (u:List (Int × Bs)):usz (qaj l u) ≤ usz u:=by
 unfold qaj
 refine Nat.le_trans (qig _ _ _) ?_
 have:=qih u 32767
 simp only [usz]; omega
theorem qht (s:Bs):(qaG s).length ≤ s.length:=by simp only [qaG,List.length_take]; omega
theorem qhu:∀ (l:List (Int × Bs)),(qbn l).length ≤ 10 * usz l
 | []=>by simp [qbn]
 | x :: r=>by
  have h1:=qhu r
  have h2:=qeX (qaG x.2).length (by have:=qbs x.2; omega)
  have h3:=qht x.2
  unfold qbn at h1 ⊢
  rw [List.flatMap_cons,List.length_append,List.length_append,List.length_append]
  show _ ≤ 10 * ((1 + _ + _) + usz r)
  omega
theorem qk2:∀ (n:Nat),(uv n).length ≤ n + 1:=by
 intro n
 induction n using Nat.strongRecOn with
 | _ n ih =>
  by_cases h:n < 128
  ·rw [qcZ h]; simp
  rw [qeA (by omega),List.length_cons]
  have:=ih (n / 128) (by omega)
  omega
def Fld.cost:Fld → Nat
 | .mk _ _ _ _ _ _ _ sub=>64 + (3 * (((qaD sub).toNat + 1) * costs sub) + 64)
where costs:List Fld → Nat
 | []=>0
 | f :: r=>(20 + f.cost) + costs r
abbrev costs:=Fld.cost.costs
def qhP (l:List Fld):Nat:=3 * (((qaD l).toNat + 1) * costs l) + 64
theorem qlt (f:Fld):f.cost = 64 + qhP f.sub:=by
 cases f; rw [Fld.cost]; rfl
theorem qfh (f:Fld) (r:List Fld):costs (f :: r) = (20 + f.cost) + costs r:=by
 show Fld.cost.costs (f :: r) = _
 rw [Fld.cost.costs]
theorem qhv {p:Tree → Bs} {c:Nat} (hp:∀ t,(p t).length ≤ c * t.size) (kind:Int) (null flex:Bool) (t:Tree):(qa0 p kind null flex t).length ≤ (32 + c) * t.size:=by
 have h1:=t.size_pos
 have h2:=t.size_S
 have hm:(32 + c) * t.size = 32 * t.size + c * t.size:=Nat.add_mul _ _ _
 have hs:∀ (n:Nat),n ≤ 8 → (qaw flex null (if null = true then ([]:Bs) else qaG t.S).length n ++ (if null = true then ([]:Bs) else qaG t.S)).length ≤ 32 * t.size:=by
  intro n hn
  have h3:(if null = true then ([]:Bs) else qaG t.S).length ≤ t.S.length:=by
   split
   ·exact Nat.zero_le _
   exact qht _
  have h5:(if null = true then ([]:Bs) else qaG t.S).length ≤ 32767:=by
   split
   ·exact Nat.zero_le _
   exact qbs _
  have h4:=qeH flex null (if null = true then ([]:Bs) else qaG t.S).length n (by omega) hn
  rw [List.length_append]; omega
 unfold qa0
 split
 ·show 1 ≤ _; omega
 split
 ·rw [qbt]; omega
 split
 ·have:=hs 2 (by omega); exact Nat.le_trans this (by omega)
 split
 ·have:=hs 4 (by omega); exact Nat.le_trans this (by omega)
 split
 ·have:=hp t; omega
 rw [be_length]; have:=qbW kind; omega
theorem qgr {g:Tree → Bs} {c:Nat} (hg:∀ t,(g t).length ≤ c * t.size):∀ (l:List Tree),(l.flatMap g).length ≤ c * sizes l
 | []=>by simp
 | t :: r=>by
  have h1:=hg t
  have h2:=qgr hg r
  rw [List.flatMap_cons,List.length_append]
  show _ ≤ c * (t.size + sizes r)
  rw [Nat.mul_add]; omega
theorem qjN {p:Tree → Bs} {c:Nat} (hp:∀ t,(p t).length ≤ c * t.size) (f:Fld) (v:Int) (flex:Bool) (t:Tree):(qds p f v flex t).length ≤ (64 + c) * t.size:=by
 have h1:=t.size_pos
 have h2:=t.size_L
 have hm:(64 + c) * t.size = 64 * t.size + c * t.size:=Nat.add_mul _ _ _
 have hm2:(32 + c) * t.size = 32 * t.size + c * t.size:=Nat.add_mul _ _ _
 unfold qds
 dsimp only
 split
 ·rw [List.length_append]
  have hl:(if f.nul v t = true then ([]:List Tree) else qar t.L).length ≤ 32767:=by
   split
   ·exact Nat.zero_le _
   exact qdg _
  have h3:=qeH flex (f.nul v t) (if f.nul v t = true then ([]:List Tree) else qar t.L).length 4 (by omega) (by omega)
  have h4:=qgr (g:=fun x=>qa0 p f.of false flex x) (fun x=>qhv hp f.of false flex x) (if f.nul v t = true then ([]:List Tree) else qar t.L)
  have h5:sizes (if f.nul v t = true then ([]:List Tree) else qar t.L) ≤ t.size:=by
   split
   ·exact Nat.zero_le _
   exact Nat.le_trans (qgq _ _) h2
  have h6:(32 + c) * sizes (if f.nul v t = true then ([]:List Tree) else qar t.L) ≤ (32 + c) * t.size:=Nat.mul_le_mul_left _ h5
  omega
 split
 ·split
  ·rw [be_length]; omega
  rw [List.length_append,be_length]
  have:=hp t
  omega
 have:=qhv hp f.kind (f.nul v t) flex t
 omega
section
variable {w:Fld → Tree → Bs}
theorem qii (v:Int) (t:Tree):∀ (l:List Fld) (i:Nat),(∀ f ∈ l,∀ t,(w f t).length ≤ f.cost * t.size) → (qaZ w l v t i).length ≤ costs l * t.size
 | [],i,_=>by simp [qaZ]
 | f :: r,i,h=>by
  have h1:=qii v t r (i + 1) fun g hg=>h g (List.mem_cons_of_mem _ hg)
  have h2:f.cost * (t.at_ i).size ≤ f.cost * t.size:=Nat.mul_le_mul_left _ (qjM t i)
  have h3:=h f (List.mem_cons_self ..) (t.at_ i)
  rw [qaZ,List.length_append,qfh,Nat.add_mul,Nat.add_mul]
  have h4:(if f.tag < 0 ∧ f.has v = true then w f (t.at_ i) else []).length ≤ f.cost * t.size:=by
   split
   ·omega
   exact Nat.zero_le _
  omega
theorem qjO (t:Tree) (k:Nat) (hk:k < 18446744073709551616):∀ (l:List Fld) (i:Nat),(∀ f ∈ l,∀ t,(w f t).length ≤ f.cost * t.size) → (tagB w l k t i).length ≤ 2 * (costs l * t.size)
 | [],i,_=>by simp [tagB]
 | f :: r,i,h=>by
  have h1:=qjO t k hk r (i + 1) fun g hg=>h g (List.mem_cons_of_mem _ hg)
  have h2:f.cost * (t.at_ i).size ≤ f.cost * t.size:=Nat.mul_le_mul_left _ (qjM t i)
  have h3:=h f (List.mem_cons_self ..) (t.at_ i)
  have h5:=t.size_pos
  have h6:=qeX k hk
  have h7:=qk2 (w f (t.at_ i)).length
  rw [tagB,List.length_append,qfh,Nat.add_mul,Nat.add_mul]
  have h4:(if f.tag = k ∧ f.usual (t.at_ i) = false then uv k ++ uv (w f (t.at_ i)).length ++ w f (t.at_ i) else []).length ≤ 11 + 2 * (f.cost * t.size):=by
   split
   ·rw [List.length_append,List.length_append]; omega
   exact Nat.zero_le _
  omega
theorem qij (t:Tree) {l:List Fld} (h:∀ f ∈ l,∀ t,(w f t).length ≤ f.cost * t.size):∀ (k:Nat),k < 18446744073709551616 → (qaN w l t k).length ≤ 2 * (k * (costs l * t.size))
 | 0,_=>by simp [qaN]
 | k + 1,hk=>by
  have h1:=qij t h k (by omega)
  have h2:=qjO t k (by omega) l 0 h
  rw [qaN,List.length_append,Nat.add_mul]
  omega
theorem qk3 (t:Tree) (k:Nat):∀ (l:List Fld) (i:Nat),tagN w l k t i ≤ costs l
 | [],i=>by simp [tagN]
 | f :: r,i=>by
  have h1:=qk3 t k r (i + 1)
  rw [tagN,qfh]
  split <;> omega
theorem qjP (t:Tree) (l:List Fld):∀ (k:Nat),qa6 w l t k ≤ k * costs l
 | 0=>by simp [qa6]
 | k + 1=>by
  have h1:=qjP t l k
  have h2:=qk3 (w:=w) t k l 0
  rw [qa6,Nat.add_mul]
  omega
theorem qjQ:∀ (u:List (Int × Bs)),u.length ≤ usz u
 | []=>Nat.le_refl _
 | x :: r=>by
  have:=qjQ r
  rw [List.length_cons]
  simp only [usz]; omega
theorem qik {l:List Fld} (h:∀ f ∈ l,∀ t,(w f t).length ≤ f.cost * t.size) (hk:(qaD l).toNat < 18446744073709551616) (v:Int) (flex:Bool) (t:Tree):(qeF w l v flex t).length ≤ qhP l * t.size:=by
 have h0:=t.size_pos
 have h1:=qii v t l 0 h
 have h2:=qij t h _ hk
 have h3:=qjP (w:=w) t l (qaD l).toNat
 have h4:=qhu (qaj l t.U)
 have h5:=qhO l t.U
 have h6:=t.size_U
 have h7:=qjQ (qaj l t.U)
 have h8:=qk2 (qa6 w l t (qaD l).toNat + (qaj l t.U).length)
 have e1:qhP l * t.size = 3 * (((qaD l).toNat + 1) * (costs l * t.size)) + 64 * t.size:=by
  unfold qhP
  rw [Nat.add_mul,Nat.mul_assoc,Nat.mul_assoc]
 have e2:((qaD l).toNat + 1) * (costs l * t.size) = (qaD l).toNat * (costs l * t.size) + costs l * t.size:=by rw [Nat.add_mul,Nat.one_mul]
 have e3:(qaD l).toNat * costs l ≤ (qaD l).toNat * (costs l * t.size):=Nat.mul_le_mul_left _ (Nat.le_mul_of_pos_right _ h0)
 unfold qeF
 rw [List.length_append,e1,e2]
 split
 ·rw [List.length_append,List.length_append]; omega
 simp only [List.length_nil]; omega
end
theorem qhw (l:List Fld):(qaD l).toNat < 18446744073709551616:=by
 have h:=qeI l
 omega
theorem qil:∀ (d:Nat) (l:List Fld) (v:Int) (flex:Bool) (t:Tree),(qa8 d l v flex t).length ≤ qhP l * t.size
 | 0,l,v,flex,t=>qik (fun f _ t=>by simp) (qhw l) v flex t
 | d + 1,l,v,flex,t=>qik (fun f _ t=>by
   rw [qlt]
   exact qjN (fun t=>qil d f.sub v flex t) f v flex t) (qhw l) v flex t
theorem qjR (d:Nat) (l:List Fld) (x v:Int) (t:Tree):(qdf d l x v t).length ≤ qhP l * t.size:=qil d l v _ t
end Go.Proofs.YtdlaobdadlmcdaaGreatDoor.ME
namespace Go.Proofs.YtdlaobdadlmcdaaGreatDoor.ME
open Go
open Go.Proofs.YtdlaobdadlmcdaaGreatDoor.Rows (uptoBulk uptoBulkAll)
set_option linter.unusedVariables false
set_option linter.unusedSimpArgs false
def Tree.i64s:Tree → Prop
 | .mk n _ _ l _=>(-9223372036854775808 ≤ n ∧ n ≤ 9223372036854775807) ∧ i64ss l
where i64ss:List Tree → Prop
 | []=>True
 | t :: r=>t.i64s ∧ i64ss r
abbrev i64ss:=Tree.i64s.i64ss
theorem qfU:∀ {l:List Tree},i64ss l → ∀ x ∈ l,x.i64s
 | [],_,x,h=>by cases h
 | t :: r,hr,x,h=>by
  rcases List.mem_cons.1 h with rfl | h
  ·exact hr.1
  exact qfU (l:=r) hr.2 x h
theorem qim:∀ {l:List Tree},(∀ x ∈ l,x.i64s) → i64ss l
 | [],_=>trivial
 | t :: r,h=>⟨h t List.mem_cons_self,qim (l:=r) fun x hx=>h x (List.mem_cons_of_mem _ hx)⟩
theorem qgH {H:Type} (d:DataW H):1 ≤ uptoBulk d:=by cases d <;> first | (unfold uptoBulk; omega) | (rename_i l; cases l <;> (unfold uptoBulk; omega))
theorem qgI {H:Type}:∀ (l:List (DataW H)),l.length ≤ uptoBulkAll l
 | []=>Nat.zero_le _
 | d :: r=>by
  have h1:=qgH d
  have h2:=qgI r
  unfold uptoBulkAll
  rw [List.length_cons]; omega
theorem qfD {H:Type}:∀ {l:List (DataW H)} {d:DataW H},d ∈ l → uptoBulk d ≤ uptoBulkAll l
 | [],d,h=>by cases h
 | a :: r,d,h=>by
  unfold uptoBulkAll
  rcases List.mem_cons.1 h with rfl | h
  ·omega
  have:=qfD h; omega
theorem qhx {α β:Type} {f:α → Option β}:∀ {l:List α} {r:List β},l.mapM f = some r → r.length = l.length ∧ ∀ (i:Nat) (a:α),l[i]? = some a → ∃ b,f a = some b ∧ r[i]? = some b
 | [],r,h=>by
  simp only [List.mapM_nil,Option.pure_def,Option.some.injEq] at h
  subst h
  exact ⟨rfl,fun i a h=>by simp at h⟩
 | x :: l,r,h=>by
  rw [List.mapM_cons] at h
  cases hx:f x with
  | none=>rw [hx] at h; cases h
  | some y =>
   rw [hx] at h
   cases hl:l.mapM f with
   | none=>rw [hl] at h; cases h
   | some ys =>
    rw [hl] at h
    obtain rfl:y :: ys = r:=Option.some.inj h
    obtain ⟨h1,h2⟩:=qhx hl
    refine ⟨by simp [h1],fun i a ha=>?_⟩
    cases i with
    | zero =>
     simp only [List.getElem?_cons_zero,Option.some.injEq] at ha
     subst ha
     exact ⟨y,hx,rfl⟩
    | succ i=>simpa using h2 i a (by simpa using ha)
theorem qfi {w:World} {a:Addr} {n:Nat} {cs:List Value} (h:w.cells? 0 a n = some cs):cs.length = n ∧ ∀ (j:Nat) (v:Value),cs[j]? = some v → w.cell? (a.add j) = some v:=by
 unfold World.cells? at h
 rw [if_pos (Nat.zero_le _)] at h
 obtain ⟨h1,h2⟩:=qhx h
 rw [List.length_range] at h1
 refine ⟨h1,fun j v hj=>?_⟩
 have hjn:j < n:=by rw [← h1]; exact (List.getElem?_eq_some_iff.1 hj).1
 obtain ⟨b,hb,hc⟩:=h2 j j (by rw [List.getElem?_range hjn])
 rw [hj] at hc
 rw [hb,Option.some.inj hc]
theorem qiU {w:World} {a:Addr} {v:Value} (h:w.cell? a = some v):a.spot = none:=by
 unfold World.cell? at h
 split at h
 ·split at h
  ·cases h
  rename_i hs; simpa using hs
 cases h
theorem qkE {w:World} {size n c:Nat} {ad:Addr} {cs:Nat → List Value} (hle:n ≤ c) (hsm:n ≤ 1099511627776) (hsz:0 < size) (h:∀ i,i < n → (cs i).length = size ∧ ∀ (j:Nat) (v:Value),(cs i)[j]? = some v → w.cell? ((ad.add (i * size)).add j) = some v):Slots w (fun _ _=>True) size (some ad) c n cs:=by
 refine ⟨hle,hsm,(fun hA=>by cases hA),fun ad' hA hn=>?_⟩
 obtain rfl:=Option.some.inj hA
 have h0:=h 0 hn
 have hp:ad.spot = none:=by
  have h1:=qiU (h0.2 0 _ (List.getElem?_eq_getElem (by omega)))
  unfold Addr.add at h1
  split at h1
  ·split at h1 <;> simp_all
  simp_all
 obtain ⟨b,o,sp⟩:=ad
 simp only at hp
 subst hp
 refine ⟨b,o,rfl,fun i hi=>⟨(h i hi).1,fun j v hj=>⟨trivial,?_⟩⟩⟩
 have:=(h i hi).2 j v hj
 rwa [qb4,qb4] at this
theorem qfV {α:Type} {R:Nat → α → Prop}:∀ (n:Nat),(∀ i,i < n → ∃ x,R i x) → ∃ l:List α,l.length = n ∧ ∀ i x,l[i]? = some x → R i x
 | 0,_=>⟨[],rfl,fun i x h=>by simp at h⟩
 | n + 1,h=>by
  obtain ⟨l,h1,h2⟩:=qfV n fun i hi=>h i (by omega)
  obtain ⟨x,hx⟩:=h n (by omega)
  refine ⟨l ++ [x],by simp [h1],fun i y hy=>?_⟩
  rcases qbG hy with hy | ⟨rfl,rfl⟩
  ·exact h2 i y hy
  rw [h1]; exact hx
theorem qfj {α:Type} {w:World} {a:Addr} {len cap size:Nat} (R:Nat → List Value → α → Prop) (hle:len ≤ cap) (hsm:len ≤ 1099511627776) (hsz:0 < size)
  (hex:∀ i,i < len → ∃ ci:List Value,ci.length = size ∧ (∀ (j:Nat) (v:Value),ci[j]? = some v → w.cell? ((a.add (i * size)).add j) = some v) ∧ ∃ x,R i ci x) :
  ∃ l:List α,l.length = len ∧ ∃ xs:Nat → List Value,Slots w (fun _ _=>True) size (some a) cap len xs ∧ ∀ i x,l[i]? = some x → R i (xs i) x:=by
 obtain ⟨l,h1,h2⟩:=qfV (R:=fun i (z:List Value × α)=>z.1.length = size ∧ (∀ (j:Nat) (v:Value),z.1[j]? = some v → w.cell? ((a.add (i * size)).add j) = some v) ∧ R i z.1 z.2) len (fun i hi=>by
  obtain ⟨ci,g1,g2,x,g3⟩:=hex i hi
  exact ⟨(ci,x),g1,g2,g3⟩)
 have hget:∀ i,i < len → ∃ z,l[i]? = some z:=fun i hi=>⟨_,List.getElem?_eq_getElem (by omega)⟩
 have hxs:∀ i z,l[i]? = some z → ((l.map (·.1)).getD i []) = z.1:=fun i z hz=>by
  rw [List.getD_eq_getElem?_getD,List.getElem?_map,hz]; rfl
 refine ⟨l.map (·.2),by simp [h1],fun i=>(l.map (·.1)).getD i [],qkE hle hsm hsz (fun i hi=>?_),fun i x hx=>?_⟩
 ·obtain ⟨z,hz⟩:=hget i hi
  rw [hxs i z hz]
  exact ⟨(h2 i z hz).1,(h2 i z hz).2.1⟩
 rw [List.getElem?_map] at hx
 cases hz:l[i]? with
 | none=>rw [hz] at hx; cases hx
 | some z =>
  rw [hz] at hx
  simp only [Option.map_some,Option.some.injEq] at hx
  subst hx
  dsimp only
  rw [hxs i z hz]
  exact (h2 i z hz).2.2
def qfE (P:Program) (t:TypeId):Option (List (TypeId × Nat)) :=
 match P.underlying t with
 | some (.struct fs)=>some (fs.toList.map fun f=>(f.type,f.offset))
 | _=>none
theorem qfW {P:Program} {t:TypeId} {l:List (TypeId × Nat)} (h:qfE P t = some l):∃ fs:Array Field,P.underlying t = some (.struct fs) ∧ fs.size = l.length ∧ ∀ (i:Nat) ty off,l[i]? = some (ty,off) → ∃ f,fs[i]? = some f ∧ f.type = ty ∧ f.offset = off:=by
 unfold qfE at h
 split at h
 ·rename_i fs hfs
  simp only [Option.some.injEq] at h
  subst h
  refine ⟨fs,hfs,by simp,fun i ty off hi=>?_⟩
  rw [List.getElem?_map] at hi
  cases hf:fs.toList[i]? with
  | none=>rw [hf] at hi; cases hi
  | some f =>
   rw [hf] at hi
   simp only [Option.map_some,Option.some.injEq,Prod.mk.injEq] at hi
   exact ⟨f,by simpa using hf,hi.1,hi.2⟩
 cases h
structure TreeTys (P:Program) (T TL TU TG TB TI TO TK T8:TypeId):Prop where
 tree:qfE P T = some [(TI,0),(TB,1),(TO,2),(TL,3),(TU,4)]
 tag:qfE P TG = some [(TK,0),(TB,1)]
 trees:P.underlying TL = some (.slice T)
 tags:P.underlying TU = some (.slice TG)
 bytes:P.underlying TB = some (.slice T8)
 int:P.underlying TI = some (.int .i64)
 bool:P.underlying TO = some .bool
 key:P.underlying TK = some (.int .u32)
 byte:P.underlying T8 = some (.int .u8)
 cells:(P.cellsOf T,P.cellsOf TL,P.cellsOf TU,P.cellsOf TG,P.cellsOf TB,P.cellsOf TI,P.cellsOf TO,P.cellsOf TK,P.cellsOf T8) = (5,1,1,2,1,1,1,1,1)
section
variable {H:Type} {enc:TypeId × Value → H} {P:Program} {W:World} {sp:Nat → Bool} {hd:Bool} {T TL TU TG TB TI TO TK T8:TypeId}
theorem qgJ {α β:Type} {x:Option α} {f:α → Option β} {l:List β} {i:Nat} (h:x.bind f = l[i]?) (hi:i < l.length):∃ a b,x = some a ∧ f a = some b ∧ l[i]? = some b:=by
 rw [List.getElem?_eq_getElem hi] at h
 obtain ⟨a,ha,hb⟩:=Option.bind_eq_some_iff.1 h
 exact ⟨a,_,ha,hb,List.getElem?_eq_getElem hi⟩
theorem qfk {elems spare:List (DataW H)} {n:Nat} (h:uptoBulk (.slice elems spare) ≤ n):elems.length ≤ n ∧ ∀ d ∈ elems,uptoBulk d ≤ n:=by
 unfold uptoBulk at h
 have h1:=qgI elems
 exact ⟨by omega,fun d hd=>by have:=qfD hd; omega⟩
theorem qin {parts:List (DataW H)} {n:Nat} (h:uptoBulk (.agg parts) ≤ n):∀ d ∈ parts,uptoBulk d ≤ n:=by
 unfold uptoBulk at h
 exact fun d hd=>by have:=qfD hd; omega
theorem qhy {fuel:Nat} {cs:List Value} {x:DataW H × List MemPlace} (hT:TreeTys P T TL TU TG TB TI TO TK T8) (h:DataW.trod enc P W 0 sp hd fuel TB cs = some x) (hb:uptoBulk x.1 ≤ 1048576) :
  ∃ A c s,cs = [.slice A (s:Bs).length c] ∧ Octs W (fun _ _=>True) A c s ∧ s.length ≤ uptoBulk x.1:=by
 have hc:=hT.cells
 simp only [Prod.mk.injEq] at hc
 rcases DataW.trod_slice hT.bytes h with ⟨rfl,rfl⟩ | ⟨a,len,cap,elems,rest,n,_,rfl,rfl,_,hle,_,hlen,he,_⟩
 ·exact ⟨none,0,[],rfl,Octs.nil _ _,Nat.zero_le _⟩
 have hlb:=qgI (elems.map (·.1))
 rw [List.length_map] at hlb
 have hbl:=qfk hb
 simp only [List.length_map] at hbl
 obtain ⟨l,hl,xs,h1,h2⟩:=qfj (w:=W) (a:=a) (len:=len) (cap:=cap) (size:=1) (fun _ ci (q:UInt8)=>ci = [qad q]) hle (by omega) (by omega) (fun i hi=>by
  obtain ⟨ci,y,g1,g2,g3⟩:=qgJ (he i hi) (by omega)
  obtain ⟨g4,g5⟩:=qfi g1
  rw [hc.2.2.2.2.2.2.2.2] at g4 g5
  refine ⟨ci,g4,g5,?_⟩
  obtain ⟨v,rfl,_,hw⟩:=DataW.trod_int hT.byte g2
  have hx:0 ≤ v ∧ v ≤ 255:=by simpa [Lit.wf,IntKind.min,IntKind.max,IntKind.signed,IntKind.bits] using hw
  refine ⟨UInt8.ofNat v.toNat,?_⟩
  unfold qad
  rw [UInt8.toNat_ofNat']
  congr 2
  omega)
 refine ⟨some a,cap,l,by rw [hl],?_,by rw [hl,← hlen]; dsimp only; unfold uptoBulk; omega⟩
 unfold Octs
 rw [hl]
 refine ⟨h1.le,h1.small,h1.none_,fun ad hA hn=>?_⟩
 obtain ⟨b,o,e1,e2⟩:=h1.some_ ad hA hn
 refine ⟨b,o,e1,fun i hi=>?_⟩
 have hli:l[i]? = some (l.getD i 0):=by
  rw [List.getD_eq_getElem?_getD,List.getElem?_eq_getElem (by omega)]; rfl
 have:=h2 i _ hli
 rw [← this]
 exact e2 i hi
theorem qeL {n:Nat} {fs:Array Field} {xs:List (DataW H × List MemPlace)} {cs:List Value} {l:List (TypeId × Nat)} (hx:∀ (i:Nat) (f:Field),fs[i]? = some f → DataW.trod enc P W 0 sp hd n f.type ((cs.drop f.offset).take (P.cellsOf f.type)) = xs[i]?)
  (hl:∀ (i:Nat) ty off,l[i]? = some (ty,off) → ∃ f,fs[i]? = some f ∧ f.type = ty ∧ f.offset = off) {i:Nat} {ty off:Nat} (hi:l[i]? = some (ty,off)) (h1:P.cellsOf ty = 1) (hxl:i < xs.length) {c:Value} (hc:cs[off]? = some c) :
  ∃ y,xs[i]? = some y ∧ DataW.trod enc P W 0 sp hd n ty [c] = some y:=by
 obtain ⟨f,hf,rfl,rfl⟩:=hl i _ _ hi
 have:=hx i f hf
 rw [h1] at this
 refine ⟨xs[i],List.getElem?_eq_getElem hxl,?_⟩
 rw [List.getElem?_eq_getElem hxl] at this
 have e:(cs.drop f.offset).take 1 = [c]:=by
  rw [List.take_one,List.head?_drop,hc]; rfl
 rw [e] at this
 exact this
theorem qio:∀ (l:List (Int × Bs)) {elems:List (DataW H × List MemPlace)},l.length = elems.length → (∀ (i:Nat) (x:Int × Bs) (y:DataW H × List MemPlace),l[i]? = some x → elems[i]? = some y → 1 + (uv x.1.toNat).length + x.2.length ≤ 8 * uptoBulk y.1) → usz l ≤ 8 * uptoBulkAll (elems.map (·.1))
 | [],_,_,_=>Nat.zero_le _
 | x :: r,[],h,_=>by cases h
 | x :: r,y :: es,h,hp=>by
  have h1:=qio r (elems:=es) (by simpa using h) fun i x' y' hx hy=>hp (i + 1) x' y' (by simpa using hx) (by simpa using hy)
  have h2:=hp 0 x y rfl rfl
  simp only [usz,List.map_cons,uptoBulkAll]
  omega
theorem qgs:∀ (l:List Tree) {elems:List (DataW H × List MemPlace)},l.length = elems.length → (∀ (i:Nat) (x:Tree) (y:DataW H × List MemPlace),l[i]? = some x → elems[i]? = some y → x.size ≤ 8 * uptoBulk y.1) → sizes l ≤ 8 * uptoBulkAll (elems.map (·.1))
 | [],_,_,_=>Nat.zero_le _
 | x :: r,[],h,_=>by cases h
 | x :: r,y :: es,h,hp=>by
  have h1:=qgs r (elems:=es) (by simpa using h) fun i x' y' hx hy=>hp (i + 1) x' y' (by simpa using hx) (by simpa using hy)
  have h2:=hp 0 x y rfl rfl
  show x.size + sizes r ≤ _
  simp only [List.map_cons,uptoBulkAll]
  omega
theorem qjS {y0 y1 y2 y3 y4:DataW H × List MemPlace} {xs:List (DataW H × List MemPlace)} (h:xs.length = 5) (h0:xs[0]? = some y0) (h1:xs[1]? = some y1) (h2:xs[2]? = some y2) (h3:xs[3]? = some y3) (h4:xs[4]? = some y4):uptoBulk (.agg (xs.map (·.1))) = uptoBulk y0.1 + uptoBulk y1.1 + uptoBulk y2.1 + uptoBulk y3.1 + uptoBulk y4.1 + 1:=by
 match xs,h with
 | [a,b,c,d,e],_ =>
  simp only [List.getElem?_cons_zero,List.getElem?_cons_succ,Option.some.injEq] at h0 h1 h2 h3 h4
  subst h0; subst h1; subst h2; subst h3; subst h4
  have e:uptoBulk (.agg [a.1,b.1,c.1,d.1,e.1]) = uptoBulkAll [a.1,b.1,c.1,d.1,e.1] + 1:=by rw [uptoBulk]
  simp only [List.map_cons,List.map_nil]
  rw [e]
  simp only [uptoBulkAll]
  omega
theorem qjT {fuel:Nat} {cs:List Value} {x:DataW H × List MemPlace} (hT:TreeTys P T TL TU TG TB TI TO TK T8) (h:DataW.trod enc P W 0 sp hd fuel TU cs = some x) (hb:uptoBulk x.1 ≤ 1048576) :
  ∃ A c u,cs = [.slice A (u:List (Int × Bs)).length c] ∧ TagsR W (fun _ _=>True) A c u ∧ usz u ≤ 8 * uptoBulk x.1:=by
 have hc:=hT.cells
 simp only [Prod.mk.injEq] at hc
 rcases DataW.trod_slice hT.tags h with ⟨rfl,rfl⟩ | ⟨a,len,cap,elems,rest,n,_,rfl,rfl,_,hle,_,hlen,he,_⟩
 ·exact ⟨none,0,[],rfl,TagsR.nil _ _,Nat.zero_le _⟩
 have hbl:=qfk hb
 simp only [List.length_map] at hbl
 obtain ⟨l,hl,xs,h1,h2⟩:=qfj (w:=W) (a:=a) (len:=len) (cap:=cap) (size:=2) (fun i ci (q:Int × Bs)=>((∃ A' c',ci = [.int .u32 q.1,.slice A' q.2.length c'] ∧ Octs W (fun _ _=>True) A' c' q.2) ∧ 0 ≤ q.1 ∧ q.1 < 4294967296) ∧ ∀ y,elems[i]? = some y → 1 + (uv q.1.toNat).length + q.2.length ≤ 8 * uptoBulk y.1) hle (by omega) (by omega) (fun i hi=>by
  obtain ⟨ci,y,g1,g2,g3⟩:=qgJ (he i hi) (by omega)
  obtain ⟨g4,g5⟩:=qfi g1
  rw [hc.2.2.2.1] at g4 g5
  refine ⟨ci,g4,g5,?_⟩
  obtain ⟨fs,hfs,hsz,hl⟩:=qfW hT.tag
  obtain ⟨xs,m,_,rfl,_,hxl,hx⟩:=DataW.trod_struct hfs g2
  rw [hsz] at hxl
  have hxl':xs.length = 2:=hxl
  match ci,g4 with
  | [c0,c1],_ =>
   obtain ⟨y0,_,k0⟩:=qeL hx hl (i:=0) rfl hc.2.2.2.2.2.2.2.1 (by omega) (c:=c0) rfl
   obtain ⟨y1,e1,k1⟩:=qeL hx hl (i:=1) rfl hc.2.2.2.2.1 (by omega) (c:=c1) rfl
   obtain ⟨v,hv,_,hw⟩:=DataW.trod_int hT.key k0
   have hx:0 ≤ v ∧ v ≤ 4294967295:=by simpa [Lit.wf,IntKind.min,IntKind.max,IntKind.signed,IntKind.bits] using hw
   have hby:uptoBulk y1.1 ≤ 1048576:=by
    have hm:DataW.agg (xs.map (·.1)) ∈ elems.map (·.1):=by
     have:=List.mem_of_getElem? g3
     exact List.mem_map.2 ⟨_,this,rfl⟩
    exact qin (hbl.2 _ hm) _ (List.mem_map.2 ⟨_,List.mem_of_getElem? e1,rfl⟩)
   obtain ⟨A',c',s,hs,ho,hsl⟩:=qhy hT k1 hby
   simp only [List.cons.injEq,and_true] at hv hs
   subst hv; subst hs
   refine ⟨(v,s),⟨⟨A',c',rfl,ho⟩,by dsimp only; omega,by dsimp only; omega⟩,fun y hy=>?_⟩
   rw [g3] at hy
   obtain rfl:=Option.some.inj hy
   have h5:=qhb v.toNat 5 (by omega) (by omega)
   have h6:uptoBulk y1.1 ≤ uptoBulkAll (xs.map (·.1)):=qfD (List.mem_map.2 ⟨_,List.mem_of_getElem? e1,rfl⟩)
   dsimp only
   unfold uptoBulk
   omega)
 refine ⟨some a,cap,l,by rw [hl],⟨xs,by rw [hl]; exact h1,fun i k s hi=>(h2 i (k,s) hi).1⟩,?_⟩
 have:=qio l (elems:=elems) (by rw [hl,hlen]) (fun i x y hx hy=>(h2 i x hx).2 y hy)
 dsimp only
 unfold uptoBulk
 omega
theorem qiV (hT:TreeTys P T TL TU TG TB TI TO TK T8):∀ (fuel:Nat) (cs:List Value) (x:DataW H × List MemPlace),DataW.trod enc P W 0 sp hd fuel T cs = some x → uptoBulk x.1 ≤ 1048576 → ∃ t,TreeR W (fun _ _=>True) cs t ∧ t.size ≤ 8 * uptoBulk x.1 ∧ t.i64s:=by
 intro fuel
 induction fuel using Nat.strongRecOn with
 | _ fuel ih =>
 intro cs x h hb
 have hc:=hT.cells
 simp only [Prod.mk.injEq] at hc
 obtain ⟨fs,hfs,hsz,hl⟩:=qfW hT.tree
 obtain ⟨xs,m,rfl,rfl,hcl,hxl,hx⟩:=DataW.trod_struct hfs h
 rw [hsz] at hxl
 have hxl':xs.length = 5:=hxl
 rw [hc.1] at hcl
 have hbe:∀ {i:Nat} {y:DataW H × List MemPlace},xs[i]? = some y → uptoBulk y.1 ≤ 1048576:=fun e=>qin hb _ (List.mem_map.2 ⟨_,List.mem_of_getElem? e,rfl⟩)
 match cs,hcl with
 | [c0,c1,c2,c3,c4],_ =>
  obtain ⟨y0,e0,k0⟩:=qeL hx hl (i:=0) rfl hc.2.2.2.2.2.1 (by omega) (c:=c0) rfl
  obtain ⟨y1,e1,k1⟩:=qeL hx hl (i:=1) rfl hc.2.2.2.2.1 (by omega) (c:=c1) rfl
  obtain ⟨y2,e2,k2⟩:=qeL hx hl (i:=2) rfl hc.2.2.2.2.2.2.1 (by omega) (c:=c2) rfl
  obtain ⟨y3,e3,k3⟩:=qeL hx hl (i:=3) rfl hc.2.1 (by omega) (c:=c3) rfl
  obtain ⟨y4,e4,k4⟩:=qeL hx hl (i:=4) rfl hc.2.2.1 (by omega) (c:=c4) rfl
  obtain ⟨v,hv,_,hw0⟩:=DataW.trod_int hT.int k0
  have hx0:-9223372036854775808 ≤ v ∧ v ≤ 9223372036854775807:=by simpa [Lit.wf,IntKind.min,IntKind.max,IntKind.signed,IntKind.bits] using hw0
  obtain ⟨A1,d1,s,hs,ho,hz1⟩:=qhy hT k1 (hbe e1)
  obtain ⟨b,hbo,_⟩:=DataW.trod_bool hT.bool k2
  obtain ⟨A3,d3,u,hu,hur,hz3⟩:=qjT hT k4 (hbe e4)
  have hll:∃ A2 d2 l xs2,[c3] = [.slice A2 (l:List Tree).length d2] ∧ Slots W (fun _ _=>True) 5 A2 d2 l.length xs2 ∧ (∀ i x,l[i]? = some x → TreeR W (fun _ _=>True) (xs2 i) x) ∧ sizes l ≤ 8 * uptoBulk y3.1 ∧ i64ss l:=by
   rcases DataW.trod_slice hT.trees k3 with ⟨e,_⟩ | ⟨a,len,cap,elems,rest,n,rfl,e,rfl,_,hle,_,hlen,he,_⟩
   ·exact ⟨none,0,[],fun _=>[],e,Slots.nil _ _ _ _,(fun i x h=>by simp at h),Nat.zero_le _,trivial⟩
   have hbl:=qfk (hbe e3)
   simp only [List.length_map] at hbl
   obtain ⟨l,hl,xs2,h1,h2⟩:=qfj (w:=W) (a:=a) (len:=len) (cap:=cap) (size:=5) (fun i ci (q:Tree)=>(TreeR W (fun _ _=>True) ci q ∧ q.i64s) ∧ ∀ y,elems[i]? = some y → q.size ≤ 8 * uptoBulk y.1) hle (by omega) (by omega) (fun i hi=>by
    obtain ⟨ci,y,g1,g2,g3⟩:=qgJ (he i hi) (by omega)
    obtain ⟨g4,g5⟩:=qfi g1
    rw [hc.1] at g4 g5
    obtain ⟨q,q1,q2,q3⟩:=ih n (by omega) ci y g2 (hbl.2 _ (List.mem_map.2 ⟨_,List.mem_of_getElem? g3,rfl⟩))
    exact ⟨ci,g4,g5,q,⟨q1,q3⟩,fun y' hy=>by
     rw [g3] at hy
     obtain rfl:=Option.some.inj hy
     exact q2⟩)
   refine ⟨some a,cap,l,xs2,by rw [e,hl],by rw [hl]; exact h1,fun i x hx=>(h2 i x hx).1.1,?_,qim fun x hx=>by
    obtain ⟨i,hi,rfl⟩:=List.getElem_of_mem hx
    exact (h2 i _ (List.getElem?_eq_getElem hi)).1.2⟩
   have:=qgs l (elems:=elems) (by rw [hl,hlen]) (fun i x y hx hy=>(h2 i x hx).2 y hy)
   dsimp only
   unfold uptoBulk
   omega
  obtain ⟨A2,d2,l,xs2,hl2,hsl,hxl2,hz2,hi2⟩:=hll
  simp only [List.cons.injEq,and_true] at hv hs hbo hl2 hu
  subst hv; subst hs; subst hbo; subst hl2; subst hu
  refine ⟨_,.mk xs2 ho hsl hxl2 hur,?_,hx0,hi2⟩
  have h5:=qjS hxl' e0 e1 e2 e3 e4
  have p0:=qgH y0.1
  have p1:=qgH y2.1
  dsimp only at h5 ⊢
  rw [Tree.size_mk,h5]
  omega
end
section
variable {H:Type} {enc:TypeId × Value → H} {P:Program}
open Go.ChangeShapes Go.WideShapes Go.ChangeAt Go.RowKit
theorem Step.same {W W':World} (h:Step W W' Nil) {b:Nat} (hb:b < W.heap.size):W'.heap[b]? = W.heap[b]?:=(h.keeps b hb).1 fun _ hn=>hn
theorem Step.sameAt {W W':World} (h:Step W W' Nil) {p:MemPlace} (hp:p.block < W.heap.size):W.sameAt W' p:=by
 cases p with
 | cell b o=>exact World.cell_of_heap (h.same hp)
 | map b=>exact h.same hp
theorem Step.keptBut {W W':World} (h:Step W W' Nil) (may:MemPlace → Prop):W.keptBut W' may:=by
 refine ⟨h.os,h.output,fun i hi=>?_⟩
 rw [h.same hi]
 cases hx:W.heap[i]? with
 | none=>rfl
 | some x =>
  cases x with
  | cells c t f=>exact ⟨rfl,rfl,rfl,fun _ _=>rfl⟩
  | map es clock=>exact .inr ⟨rfl,rfl⟩
  | _=>rfl
theorem qe2 (hl:laidOutB P = true) {W W':World} (hs:Step W W' Nil):∀ {ts:List TypeId} {vs:List Value} {ds:List (DataW H)} {ps:List MemPlace},(∀ t ∈ ts,P.readableRec t = true ∧ t < P.types.size) → DataW.TrodAll enc P W 0 (fun _=>true) true ts vs ds ps → (∀ p ∈ ps,p.block < W.heap.size) →
  DataW.TrodAll enc P W' 0 (fun b=>decide (b < W.heap.size)) true ts vs ds ps
 | [],vs,ds,ps,_,h,_=>by
  obtain ⟨rfl,rfl,rfl⟩:=trodAll_nil h
  exact rfl
 | t :: ts,vs,ds,ps,ht,h,hp=>by
  obtain ⟨v,vs',d,ds',p,q,rfl,rfl,rfl,h1,h2⟩:=trodAll_cons h
  have h0:=ht t (List.mem_cons_self ..)
  refine ⟨p,q,?_,qe2 hl hs (fun t' h'=>ht t' (List.mem_cons_of_mem _ h')) h2 (fun x hx=>hp x (List.mem_append_right _ hx)),rfl⟩
  exact Go.WideElems.Trod_stays hl h0.1 h0.2 h1 (fun x hx=>hs.sameAt (hp x (List.mem_append_left _ hx))) (fun x hx=>decide_eq_true (hp x (List.mem_append_left _ hx)))
theorem qjU {f:Func} {s:ChangeSpec} {W W':World} {args:Array Value} {v:Value} {ds gs:List (DataW H)} {before:List MemPlace} {handsOn:Bool}
  (hW:DataW.Whole enc P f.params.toList s.vars false W args.toList ds gs before) (hs:Step W W' Nil) (hl:laidOutB P = true) (hpar:∀ t ∈ f.params.toList,P.readableRec t = true ∧ t < P.types.size)
  (hv:s.vars = []) (hargs:(s.fn H (ds ++ gs)).args = ds) (hvars:(s.fn H (ds ++ gs)).vars = [])
  (hres:∀ (b:Nat) (sp:Nat → Bool) (hd:Bool),DataW.TrodAll enc P W' b sp hd f.resultTypes.toList (v.resultList f.resultTypes.size) (s.fn H (ds ++ gs)).results []) :
  s.post enc P f false true handsOn false W args v W':=by
 have hlt:∀ p ∈ before,p.block < W.heap.size:=fun p hp=>hW.lt p hp
 obtain ⟨p,q,hA,hV,rfl,_,_⟩:=id hW
 rw [hv] at hV
 obtain ⟨rfl,rfl⟩:=trodVars_none hV
 refine ⟨ds,[],_,[],p,[],hW,hres _ _ _,?_,?_,hs.keptBut _,fun h=>by cases h⟩
 ·rw [hargs]
  exact qe2 hl hs hpar hA (fun x hx=>hlt x (List.mem_append_left _ hx))
 rw [hvars,hv]; exact rfl
end
end Go.Proofs.YtdlaobdadlmcdaaGreatDoor.ME
namespace Go.Proofs.YtdlaobdadlmcdaaGreatDoor.ME
open Go
open Go.RowKit
set_option linter.unusedVariables false
set_option linter.unusedSimpArgs false
set_option maxRecDepth 20000
section
variable {P:Program} {ops:Array Oper} {Q:Exit → Act → World → Prop} {n:Nat} {tb:Tb} {env:Env} {rs:List Rw} {w0:World} {M:Nat → Nat → Prop} {a:Act} {w:World}
theorem qhQ {i d:Nat} {t u e e':TypeId} {bytes b c:Nat} {A:Option Addr} {s:Bs} {F:Nat → Nat → Prop} {zs:Array Value} {N:Act → World → Prop} (hE:EnvOk n tb env a)
  (h:qks tb env ops n i = some (t,u,.slice (some ⟨b,0,none⟩) 16 16,.slice A s.length c,d)) (ht:qc2 P t = some (e,1,bytes)) (hb:w.heap[b]? = some (.cells zs e' (0,0))) (hz:zs = ((List.range 16).map fun _=>qad 0).toArray)
  (hs:Octs w F A c s)
  (K:∀ a' w',Step w w' (fun b' _=>b' = b) → At w' b 0 ((List.range 16).map fun i=>qad (s.getD i 0)) → (∀ j,w'.frozen? ⟨b,j,none⟩ = false) → (∃ v,EnvOk n tb ((d,.v v) :: env) a') → N a' w'):wpOp P ops Q i N a w:=by
 obtain ⟨ht',inf,z,hi,hz',hzs,hs1,rfl,hsz,hbp⟩:=qcD ht
 obtain ⟨op,ho,hd,hrun⟩:=qh8 (P:=P) (w:=w) hE h
 have hsz':(P.info? e).map (·.size) = some 1:=by rw [hi]; simp [hs1]
 have hb16:zs.size = 16:=by rw [hz]; simp
 by_cases h0:min s.length 16 = 0
 ·have hr:=fun ty=>run_copy_none (P:=P) w t u ty e (some ⟨b,0,none⟩) A 16 16 s.length c ht' hsz' h0
  refine qbe hE ho (v:=.int .i64 0) (w':=w) (fun o hop=>hrun o _ _ hop (hr o.type)) ?_
  have hs0:s = []:=List.eq_nil_of_length_eq_zero (by omega)
  subst hs0
  refine K _ w (Step.refl _ _) (fun j v hj=>?_) (fun j=>by simp [World.frozen?,hb]) ⟨_,hE.put hd (.v _) trivial⟩
  subst hz
  rw [Nat.zero_add]
  simp only [World.cell?,hb]
  simpa using hj
 have hsrc:=hs.src
 have hA:∃ ad,A = some ad:=by
  cases A with
  | none=>have:=hsrc.nil rfl; omega
  | some ad=>exact ⟨ad,rfl⟩
 obtain ⟨ad,rfl⟩:=hA
 have hcl:((bc s).take (min s.length 16)).length = min s.length 16:=by rw [List.length_take]; simp
 have hr:=fun ty=>run_copy_row P w t u ty e b 0 16 16 ad s.length c zs e' ((bc s).take (min s.length 16)) ht' hsz' hb hcl (fun j v hj=>hsrc.cells ad rfl j v (by
  rw [List.getElem?_take] at hj
  split at hj
  ·exact hj
  cases hj)) (by rw [hcl]; omega) (fun v hv=>qdF s v (List.mem_of_mem_take hv))
 have hw:=setRow_heap w b zs (zs.toList.take 0 ++ (bc s).take (min s.length 16) ++ zs.toList.drop (0 + ((bc s).take (min s.length 16)).length)).toArray e' _ hb
 refine qbe hE ho (v:=.int .i64 ((min s.length 16:Nat):Int)) (w':=w.setRow b (zs.toList.take 0 ++ (bc s).take (min s.length 16) ++ zs.toList.drop (0 + ((bc s).take (min s.length 16)).length)).toArray) (fun o hop=>hrun o _ _ hop (by rw [hr o.type]; simp only [hcl]; rfl)) ?_
 refine K _ _ (Step.setRow w b _) (fun j v hj=>?_) (fun j=>by unfold World.frozen?; rw [hw]; simp) ⟨_,hE.put hd (.v _) trivial⟩
 rw [Nat.zero_add j]
 unfold World.cell?
 rw [hw]
 simp only [Option.isSome_none,Bool.false_eq_true,if_false]
 have hj16:j < 16:=by
  have:=(List.getElem?_eq_some_iff.1 hj).1
  simpa using this
 rw [List.getElem?_map,List.getElem?_range hj16] at hj
 simp only [Option.map_some,Option.some.injEq] at hj
 subst hj
 simp only [List.take_zero,List.nil_append,Nat.zero_add]
 rw [← Array.getElem?_toList,List.toList_toArray,List.getElem?_append,hcl]
 by_cases hjs:j < min s.length 16
 ·rw [if_pos hjs,List.getElem?_take,if_pos hjs,bc,List.getElem?_map,List.getElem?_eq_getElem (by omega),List.getD_eq_getElem?_getD,List.getElem?_eq_getElem (by omega)]
  rfl
 rw [if_neg hjs,List.getElem?_drop,hz,List.toList_toArray,List.getElem?_map,List.getElem?_range (by omega),List.getD_eq_getElem?_getD,List.getElem?_eq_none (by omega)]
 rfl
theorem qfX {i d:Nat} {cs:List Value} {N:Act → World → Prop} (hE:EnvOk n tb env a) (h:qg4 P env ops n i = some (d,cs))
  (k:∀ t a',EnvOk n tb ((d,.v (.pointer (some ⟨w.heap.size,0,none⟩))) :: env) a' → N a' (w.alloc (.cells cs.toArray t))):wpOp P ops Q i N a w:=by
 unfold qg4 at h
 split at h
 ·rename_i t d' ho
  split at h
  ·rename_i inf hi
   split at h
   ·rename_i z hz
    simp only [Option.some.injEq,Prod.mk.injEq] at h
    obtain ⟨rfl,rfl⟩:=h
    have hd:d' < n:=(qbH hE ho).choose_spec.2.2.2.1
    refine qbe hE ho (v:=.pointer (some ⟨w.heap.size,0,none⟩)) (w':=w.alloc (.cells z.cells t)) ?_ ?_
    ·intro o hop
     unfold execOp
     rw [hop]
     simp only [Instr.alloc,Sem.run_bind,run_zeroValue' hi hz,Result.andThen_ok,newVar,newRow,run_newObj,Sem.run_pure]
     rfl
    have:=k t _ (hE.put hd (.v (.pointer (some ⟨w.heap.size,0,none⟩))) trivial)
    rw [Array.toArray_toList] at this
    exact this
   cases h
  cases h
 cases h
end
def bs (s:Bs):ByteArray:=⟨s.toArray⟩
theorem ql0 (s:Bs):sb (bs s) = s:=by simp [sb,bs]
theorem qgK (s:Bs):(bs s).size = s.length:=by simp [bs,ByteArray.size]
def qbo (t:Tree):Bs:=if t.null then [] else t.S
section
variable {P:Program} {n:Nat} {w0:World} {A0:Option Addr} {e8 d:Nat} {tb:Tb} {env e1 env':Env} {c c1 c2:Code} {x x1 x2 y:Bs}
end
section
variable {P:Program} {ops:Array Oper} {Q:Exit → Act → World → Prop} {n:Nat} {tb:Tb} {env:Env} {rs:List Rw} {w0:World} {M:Nat → Nat → Prop} {a:Act} {w:World}
def qkF (tb:Tb) (env:Env) (ops:Array Oper) (n i:Nat):Option (TypeId × TypeId × Value × Nat) :=
 match opAt env ops n i with
 | some (.convert src dst x,d)=>match opd env x with
  | some (.v v)=>some (src,dst,v,d)
  | _=>none
 | _=>none
theorem qe3 {i d:Nat} {src dst e c:Nat} {A:Option Addr} {s:Bs} {F:Nat → Nat → Prop} {N:Act → World → Prop} (hE:EnvOk n tb env a) (h:qkF tb env ops n i = some (src,dst,.slice A s.length c,d)) (hs:P.underlying src = some (.slice e)) (he:P.underlying e = some (.int .u8)) (hd:P.underlying dst = some .string)
  (ho:Octs w F A c s) (K:∀ a',EnvOk n tb ((d,.v (.string (bs s))) :: env) a' → N a' w):wpOp P ops Q i N a w:=by
 unfold qkF at h
 split at h
 ·rename_i src' dst' x d' hop
  split at h
  ·rename_i v hx
   simp only [Option.some.injEq,Prod.mk.injEq] at h
   obtain ⟨rfl,rfl,rfl,rfl⟩:=h
   have hdn:=(qbH hE hop).choose_spec.2.2.2.1
   have hrun:(convert src' dst' (.slice A s.length c)).run P w = .ok (.string (bs s)) w:=by
    have hsrc:=ho.src
    cases A with
    | none =>
     have h0:s = []:=List.eq_nil_of_length_eq_zero (ho.none_ rfl).1
     subst h0
     exact run_convert_bytes_nil w src' e hs he _ _ dst' hd
    | some ad =>
     have hl:(loadCells ad s.length).run P w = .ok ((s.map fun b=>((b.toNat:Nat):Int)).map (Value.int .u8)).toArray w:=by
      have:=run_loadCells_list (P:=P) w ad (bc s) (fun j v hj=>hsrc.cells ad rfl j v hj)
      rw [show (bc s).length = s.length from by simp [bc]] at this
      rw [this]
      simp [bc]
     rw [run_convert_bytes_string w src' dst' e _ s.length c hs he hd,run_bytesToString w _ s.length c _ hl,foldl_push_bytes]
     congr 2
     simp only [bs,ByteArray.empty,ByteArray.emptyWithCapacity]
     have e3:(s.map fun b=>((b.toNat:Nat):Int)).map (fun n=>UInt8.ofNat n.toNat) = s:=by
      rw [List.map_map]
      conv=>rhs; rw [← List.map_id s]
      exact List.map_congr_left fun b _=>by simp
     rw [e3]
     simp
     rfl
   refine qbe hE hop (v:=.string (bs s)) (w':=w) ?_ (K _ (hE.put hdn (.v _) trivial))
   intro o ho'
   unfold execOp
   rw [ho']
   simp only [(qba hE hx).1,SV.val,Sem.run_bind,hrun,Result.andThen_ok,Sem.run_pure]
  cases h
 cases h
end
theorem uv0:uv 0 = [0]:=by rw [uv]; rfl
theorem qhR {v:Int} {d:Nat} {l:List Fld} {t:Tree} {i:Nat} {k x1 x2 x3 x4 x5 x6:Int} {s:List Fld} (h:l[i]? = some (.mk k x1 x2 x3 x4 x5 x6 s)) (hk:k = 8 ∨ k = 9) :
  qbo ((fitT v (d + 1) l t).at_ i) = (if Fld.nul (.mk k x1 x2 x3 x4 x5 x6 s) v (t.at_ i) = true then [] else qaG (t.at_ i).S) ∧ ((fitT v (d + 1) l t).at_ i).null = Fld.nul (.mk k x1 x2 x3 x4 x5 x6 s) v (t.at_ i):=by
 rw [qgp h]
 have e1:k ≠ 11:=by omega
 have e:qcJ (fitT v d) v (.mk k x1 x2 x3 x4 x5 x6 s) (t.at_ i) = .mk 0 (qaG (t.at_ i).S) (Fld.nul (.mk k x1 x2 x3 x4 x5 x6 s) v (t.at_ i)) [] []:=by
  simp [qcJ,qch,Fld.kind,e1,hk]
 rw [e]
 exact ⟨rfl,rfl⟩
section
variable {P:Program} {n:Nat} {w0:World} {A0:Option Addr} {e8 d:Nat} {tb:Tb} {env e1 env':Env} {c c1 c2:Code} {x x1 x2 y:Bs}
end
def lst (t:Tree):List Tree:=if t.null then [] else t.L
def qaL (w:World) (F:Nat → Nat → Prop) (D:DV):Prop:=(True) ∧ (True) ∧ MapR w F D.m D.u ∧ D.u.length ≤ 1000000 ∧ (∀ x ∈ D.u,x.2.length < 4294967296) ∧ True
def qaO (w:World) (F:Nat → Nat → Prop) (D:DV):Prop:=(True) ∧ (True) ∧ ((∀ ad,(D.f 2).A = some ad → ∃ b o,ad = ⟨b,o,none⟩ ∧ AtF w F b o [.string (D.f 2).s]) ∧ (D.f 2).s.size ≤ 1000000) ∧ (qaL w F (D.f 3)) ∧ MapR w F D.m D.u ∧ D.u.length ≤ 1000000 ∧ (∀ x ∈ D.u,x.2.length < 4294967296) ∧ True
def qa2 (w:World) (F:Nat → Nat → Prop) (D:DV):Prop:=((D.f 0).o.length = 16) ∧ (Slots w F 7 (D.f 1).A (D.f 1).c (D.f 1).l (fun i=>[.int .i32 ((((D.f 1).f i).f 0).n),.int .i16 ((((D.f 1).f i).f 1).n),.pointer ((((D.f 1).f i).f 2).A),.int .i32 (((((D.f 1).f i).f 3).f 0).n),.int .i32 (((((D.f 1).f i).f 3).f 1).n),.map ((((D.f 1).f i).f 3).m),.map (((D.f 1).f i).m)]) ∧ (D.f 1).l ≤ 1000000 ∧ ∀ i,i < (D.f 1).l → qaO w F ((D.f 1).f i)) ∧ MapR w F D.m D.u ∧ D.u.length ≤ 1000000 ∧ (∀ x ∈ D.u,x.2.length < 4294967296) ∧ True
def qaT (w:World) (F:Nat → Nat → Prop) (D:DV):Prop:=(True) ∧ ((D.f 1).s.size ≤ 1000000) ∧ (True) ∧ ((∀ ad,(D.f 3).A = some ad → ∃ b o,ad = ⟨b,o,none⟩ ∧ AtF w F b o [.string (D.f 3).s]) ∧ (D.f 3).s.size ≤ 1000000) ∧ MapR w F D.m D.u ∧ D.u.length ≤ 1000000 ∧ (∀ x ∈ D.u,x.2.length < 4294967296) ∧ True
def qbp (w:World) (F:Nat → Nat → Prop) (D:DV):Prop:=(True) ∧ (True) ∧ ((∀ ad,(D.f 2).A = some ad → ∃ b o,ad = ⟨b,o,none⟩ ∧ AtF w F b o [.string (D.f 2).s]) ∧ (D.f 2).s.size ≤ 1000000) ∧ (True) ∧ (Slots w F 18 (D.f 4).A (D.f 4).c (D.f 4).l (fun i=>[qad ((((D.f 4).f i).f 0).o.getD 0 0),qad ((((D.f 4).f i).f 0).o.getD 1 0),qad ((((D.f 4).f i).f 0).o.getD 2 0),qad ((((D.f 4).f i).f 0).o.getD 3 0),qad ((((D.f 4).f i).f 0).o.getD 4 0),qad ((((D.f 4).f i).f 0).o.getD 5 0),qad ((((D.f 4).f i).f 0).o.getD 6 0),qad ((((D.f 4).f i).f 0).o.getD 7 0),qad ((((D.f 4).f i).f 0).o.getD 8 0),qad ((((D.f 4).f i).f 0).o.getD 9 0),qad ((((D.f 4).f i).f 0).o.getD 10 0),qad ((((D.f 4).f i).f 0).o.getD 11 0),qad ((((D.f 4).f i).f 0).o.getD 12 0),qad ((((D.f 4).f i).f 0).o.getD 13 0),qad ((((D.f 4).f i).f 0).o.getD 14 0),qad ((((D.f 4).f i).f 0).o.getD 15 0),.slice ((((D.f 4).f i).f 1).A) ((((D.f 4).f i).f 1).l) ((((D.f 4).f i).f 1).c),.map (((D.f 4).f i).m)]) ∧ (D.f 4).l ≤ 1000000 ∧ ∀ i,i < (D.f 4).l → qa2 w F ((D.f 4).f i)) ∧ (Slots w F 5 (D.f 5).A (D.f 5).c (D.f 5).l (fun i=>[.int .i32 ((((D.f 5).f i).f 0).n),.string ((((D.f 5).f i).f 1).s),.int .i32 ((((D.f 5).f i).f 2).n),.pointer ((((D.f 5).f i).f 3).A),.map (((D.f 5).f i).m)]) ∧ (D.f 5).l ≤ 1000000 ∧ ∀ i,i < (D.f 5).l → qaT w F ((D.f 5).f i)) ∧ MapR w F D.m D.u ∧ D.u.length ≤ 1000000 ∧ (∀ x ∈ D.u,x.2.length < 4294967296) ∧ True
def qam (v:Int) (T:Tree):Bs:=(be 4 ((IntKind.i32.wrap (T.at_ 0).N))) ++ ((be 2 ((IntKind.i16.wrap (T.at_ 1).N))) ++ ((if (decide (v ≥ 0)) = true then (if (T.at_ 2).null = true then uv 0 else uv ((qbo (T.at_ 2)).length + 1) ++ (qbo (T.at_ 2))) else (if (T.at_ 2).null = true then be 2 (-1) else be 2 (qbo (T.at_ 2)).length ++ (qbo (T.at_ 2)))) ++ ((if (decide (v ≥ 2)) = true then be 4 ((IntKind.i32.wrap (T.at_ 3).N)) else []) ++ (((if (decide (v ≥ 0)) = true then (uv ((lst (T.at_ 4)).length + 1)) else (be 4 (lst (T.at_ 4)).length)) ++ ((lst (T.at_ 4)).flatMap fun ac=>((qah (ac.at_ 0).S)) ++ (((if (decide (v ≥ 0)) = true then (uv ((lst (ac.at_ 1)).length + 1)) else (be 4 (lst (ac.at_ 1)).length)) ++ ((lst (ac.at_ 1)).flatMap fun ab=>(be 4 ((IntKind.i32.wrap (ab.at_ 0).N))) ++ ((be 2 ((IntKind.i16.wrap (ab.at_ 1).N))) ++ ((if (decide (v ≥ 0)) = true then (if (ab.at_ 2).null = true then uv 0 else uv ((qbo (ab.at_ 2)).length + 1) ++ (qbo (ab.at_ 2))) else (if (ab.at_ 2).null = true then be 2 (-1) else be 2 (qbo (ab.at_ 2)).length ++ (qbo (ab.at_ 2)))) ++ ((((fun ae=>(be 4 ((IntKind.i32.wrap (ae.at_ 0).N))) ++ ((be 4 ((IntKind.i32.wrap (ae.at_ 1).N))) ++ (if (decide (v ≥ 0)) = true then (uv ae.U.length) ++ (qck ae.U) else []))) (ab.at_ 3))) ++ (if (decide (v ≥ 0)) = true then (uv ab.U.length) ++ (qck ab.U) else [])))))) ++ (if (decide (v ≥ 0)) = true then (uv ac.U.length) ++ (qck ac.U) else [])))) ++ (((if (decide (v ≥ 0)) = true then (uv ((lst (T.at_ 5)).length + 1)) else (be 4 (lst (T.at_ 5)).length)) ++ ((lst (T.at_ 5)).flatMap fun aa=>(be 4 ((IntKind.i32.wrap (aa.at_ 0).N))) ++ ((if (decide (v ≥ 0)) = true then (uv ((aa.at_ 1).S.length + 1) ++ (aa.at_ 1).S) else (be 2 (aa.at_ 1).S.length ++ (aa.at_ 1).S)) ++ ((be 4 ((IntKind.i32.wrap (aa.at_ 2).N))) ++ ((if (decide (v ≥ 0)) = true then (if (aa.at_ 3).null = true then uv 0 else uv ((qbo (aa.at_ 3)).length + 1) ++ (qbo (aa.at_ 3))) else (if (aa.at_ 3).null = true then be 2 (-1) else be 2 (qbo (aa.at_ 3)).length ++ (qbo (aa.at_ 3)))) ++ (if (decide (v ≥ 0)) = true then (uv aa.U.length) ++ (qck aa.U) else [])))))) ++ ((if (decide (v ≥ 0)) = true then (uv T.U.length) ++ (qck T.U) else []) ++ ([])))))))
theorem qft {v:Int} {d:Nat} {l:List Fld} {t:Tree} {i:Nat} {x1 x2 x3 x5 x6:Int} {s:List Fld} (h:l[i]? = some (.mk 11 x1 x2 x3 (-1) x5 x6 s)) :
  ((fitT v (d + 1) l t).at_ i).null = Fld.nul (.mk 11 x1 x2 x3 (-1) x5 x6 s) v (t.at_ i) ∧
  lst ((fitT v (d + 1) l t).at_ i) = (if Fld.nul (.mk 11 x1 x2 x3 (-1) x5 x6 s) v (t.at_ i) = true then [] else qar (t.at_ i).L).map (fun x=>qch (fitT v d) (.mk x6 x1 x2 (-1) (-1) x5 x6 s) (Fld.nul (.mk x6 x1 x2 (-1) (-1) x5 x6 s) v x) x):=by
 rw [qgp h]
 have e:qcJ (fitT v d) v (.mk 11 x1 x2 x3 (-1) x5 x6 s) (t.at_ i) = .mk 0 [] (Fld.nul (.mk 11 x1 x2 x3 (-1) x5 x6 s) v (t.at_ i)) ((qar (t.at_ i).L).map (fun x=>qch (fitT v d) (.mk x6 x1 x2 (-1) (-1) x5 x6 s) (Fld.nul (.mk x6 x1 x2 (-1) (-1) x5 x6 s) v x) x)) []:=by
  simp [qcJ,Fld.kind,Fld.tag,Fld.elem]
 rw [e]
 refine ⟨rfl,?_⟩
 unfold lst
 show (if Fld.nul _ v (t.at_ i) = true then [] else _) = _
 split
 ·rfl
 rfl
theorem fit_10 {v:Int} {d:Nat} {x1 x2 x5 x6:Int} {s:List Fld} {b:Bool} {x:Tree}:(∀ i,(qch (fitT v d) (.mk 10 x1 x2 (-1) (-1) x5 x6 s) b x).at_ i = (fitT v d s x).at_ i) ∧ (qch (fitT v d) (.mk 10 x1 x2 (-1) (-1) x5 x6 s) b x).U = (fitT v d s x).U:=by
 cases hT:fitT v d s x with
 | mk n s' b' l u =>
  have e:qch (fitT v d) (.mk 10 x1 x2 (-1) (-1) x5 x6 s) b x = .mk n s' b l u:=by
   simp [qch,Fld.kind,Fld.sub,hT]
  rw [e]
  exact ⟨fun _=>rfl,rfl⟩
theorem qhS {v:Int} {d:Nat} {l:List Fld} {t:Tree} {i:Nat} {x1 x2 x3 x4 x5 x6:Int} {s:List Fld} (h:l[i]? = some (.mk 10 x1 x2 x3 x4 x5 x6 s)) :
  (∀ j,((fitT v (d + 1) l t).at_ i).at_ j = (fitT v d s (t.at_ i)).at_ j) ∧ ((fitT v (d + 1) l t).at_ i).U = (fitT v d s (t.at_ i)).U ∧ ((fitT v (d + 1) l t).at_ i).null = Fld.nul (.mk 10 x1 x2 x3 x4 x5 x6 s) v (t.at_ i):=by
 rw [qgp h]
 cases hT:fitT v d s (t.at_ i) with
 | mk n s' b' l' u =>
  have e:qcJ (fitT v d) v (.mk 10 x1 x2 x3 x4 x5 x6 s) (t.at_ i) = .mk n s' (Fld.nul (.mk 10 x1 x2 x3 x4 x5 x6 s) v (t.at_ i)) l' u:=by
   simp [qcJ,qch,Fld.kind,Fld.sub,hT]
  rw [e]
  exact ⟨fun _=>rfl,rfl,rfl⟩
theorem qlu {v:Int} {d:Nat} {l:List Fld} {t:Tree} {i:Nat} {k x1 x2 x3 x4 x5 x6:Int} {s:List Fld} (h:l[i]? = some (.mk k x1 x2 x3 x4 x5 x6 s)) (hk:k = 8 ∨ k = 9) :
  ((fitT v (d + 1) l t).at_ i).S = qaG (t.at_ i).S:=by
 rw [qgp h]
 have e1:k ≠ 11:=by omega
 have e:qcJ (fitT v d) v (.mk k x1 x2 x3 x4 x5 x6 s) (t.at_ i) = .mk 0 (qaG (t.at_ i).S) (Fld.nul (.mk k x1 x2 x3 x4 x5 x6 s) v (t.at_ i)) [] []:=by
  simp [qcJ,qch,Fld.kind,e1,hk]
 rw [e]
 rfl
theorem nul_no {k x1 x2 x4 x5 x6:Int} {s:List Fld} {v:Int} {t:Tree}:Fld.nul (.mk k x1 x2 (-1) x4 x5 x6 s) v t = false:=by
 cases t
 simp [Fld.nul]
theorem qgL {x:Int}:be 8 (((IntKind.u64.wrap x).toNat:Nat):Int) = be 8 x:=by
 rw [show (((IntKind.u64.wrap x).toNat:Nat):Int) = IntKind.u64.wrap x by rw [qc6]; omega,qkq]
theorem qjV {k x1 x2 n x4 x5 x6:Int} {s:List Fld} {v:Int} {t:Tree} (h:Fld.nul (.mk k x1 x2 n x4 x5 x6 s) v t = true):v ≥ n:=by
 cases t
 simp only [Fld.nul,Bool.and_eq_true,decide_eq_true_eq] at h
 exact h.2
theorem qkG {x:Int}:by8 (if decide (x % 2 = 1) = true then 1 else 0) = by8 (x % 2):=by
 rcases Int.emod_two_eq x with h | h <;> simp [h]
def canU (u:List (Int × Bs)):Prop:=qdI u ∧ u.length ≤ 1000000 ∧ ∀ y ∈ u,y.2.length < 4294967296
theorem qe4 {v:Int} {d:Nat} {l:List Fld} {t:Tree}:canU (fitT v d l t).U:=by
 rw [qf9]
 refine ⟨qgF (qfT _ _),?_,fun y hy=>?_⟩
 ·rw [qcV]; exact Nat.le_trans (qhp _ _) (by decide)
 obtain ⟨x,_,rfl⟩:=List.mem_map.1 hy
 exact Nat.lt_of_le_of_lt (qbs _) (by decide)
theorem qhT {v:Int} {d:Nat} {l:List Fld} {t:Tree} {i:Nat} {x1 x2 x3 x5 x6:Int} {s:List Fld} {Q:Tree → Prop} (h:l[i]? = some (.mk 11 x1 x2 x3 (-1) x5 x6 s))
  (hq:∀ y,Q (qch (fitT v d) (.mk x6 x1 x2 (-1) (-1) x5 x6 s) (Fld.nul (.mk x6 x1 x2 (-1) (-1) x5 x6 s) v y) y)):∀ x ∈ lst ((fitT v (d + 1) l t).at_ i),Q x:=by
 rw [(qft h).2]
 intro x hx
 obtain ⟨y,_,rfl⟩:=List.mem_map.1 hx
 exact hq y
theorem qgM {v:Int} {d:Nat} {l:List Fld} {t:Tree} {i:Nat} {k x1 x2 x3 x4 x5 x6:Int} {s:List Fld} (h:l[i]? = some (.mk k x1 x2 x3 x4 x5 x6 s)) (hk:k = 8 ∨ k = 9):(qbo ((fitT v (d + 1) l t).at_ i)).length ≤ 32767:=by
 rw [(qhR h hk).1]
 split
 ·exact Nat.zero_le _
 exact Nat.le_trans (qbs _) (by decide)
theorem qhU {v:Int} {d:Nat} {l:List Fld} {t:Tree} {i:Nat} {x1 x2 x3 x5 x6:Int} {s:List Fld} (h:l[i]? = some (.mk 11 x1 x2 x3 (-1) x5 x6 s)):(lst ((fitT v (d + 1) l t).at_ i)).length ≤ 32767:=by
 rw [(qft h).2,List.length_map]
 split
 ·exact Nat.zero_le _
 simp only [qar,List.length_take]; omega
def Tree.ranged:Tree → Prop
 | .mk _ _ _ l u=>(∀ x ∈ u,0 ≤ x.1 ∧ x.1 < 4294967296) ∧ rangeds l
where rangeds:List Tree → Prop
 | []=>True
 | t :: r=>t.ranged ∧ rangeds r
abbrev rangeds:=Tree.ranged.rangeds
theorem qfY:∀ {l:List Tree},rangeds l → ∀ x ∈ l,x.ranged
 | [],_,x,h=>by cases h
 | t :: r,hr,x,h=>by
  rcases List.mem_cons.1 h with rfl | h
  ·exact hr.1
  exact qfY (l:=r) hr.2 x h
theorem qet:∀ {l:List Tree},(∀ x ∈ l,x.ranged) → rangeds l
 | [],_=>trivial
 | t :: r,h=>⟨h t (List.mem_cons_self ..),qet (l:=r) fun x hx=>h x (List.mem_cons_of_mem _ hx)⟩
theorem qfZ:Tree.zero.ranged:=⟨fun x h=>(by cases h),trivial⟩
theorem qeu {t:Tree} (h:t.ranged):∀ x ∈ t.U,0 ≤ x.1 ∧ x.1 < 4294967296:=by cases t; exact h.1
theorem qgN {t:Tree} (h:t.ranged):∀ x ∈ t.L,x.ranged:=by cases t; exact qfY h.2
theorem qd9 {t:Tree} (h:t.ranged) (i:Nat):(t.at_ i).ranged:=by
 unfold Tree.at_
 rw [List.getD_eq_getElem?_getD]
 cases hx:t.L[i]? with
 | none=>exact qfZ
 | some x=>exact qgN h x (List.mem_of_getElem? hx)
theorem qfl {t:Tree} (h:t.ranged):∀ x ∈ lst t,x.ranged:=fun x hx=>by
 unfold lst at hx
 split at hx
 ·cases hx
 exact qgN h x hx
theorem TreeR.ranged {w:World} {F:Nat → Nat → Prop} {cs:List Value} {t:Tree} (h:TreeR w F cs t):t.ranged:=by
 induction h with
 | @mk n s b l u A1 A2 A3 c1 c2 c3 cs h1 h2 h3 h4 ih =>
  refine ⟨fun x hx=>qiN h4 x hx,qet fun x hx=>?_⟩
  obtain ⟨i,hi⟩:=List.mem_iff_getElem?.1 hx
  exact ih i x hi
theorem qiW (v:Int):∀ (d:Nat) (l:List Fld) (t:Tree),t.ranged → (fitT v d l t).ranged:=by
 have core:∀ (W:Fld → Tree → Tree) (l:List Fld) (t:Tree),t.ranged → (∀ f x,x.ranged → (W f x).ranged) → (fitW W l t).ranged:=by
  intro W l t ht hW
  refine ⟨fun x hx=>?_,qet ?_⟩
  ·obtain ⟨y,hy,rfl⟩:=List.mem_map.1 hx
   exact qeu ht y (qhq y hy)
  have:∀ (l:List Fld) (i:Nat),∀ x ∈ qhF W l t i,x.ranged:=by
   intro l
   induction l with
   | nil=>intro i x hx; cases hx
   | cons f r ih =>
    intro i x hx
    rcases List.mem_cons.1 hx with rfl | hx
    ·exact hW f _ (qd9 ht i)
    exact ih (i + 1) x hx
  exact this l 0
 have f0:∀ (p:List Fld → Tree → Tree),(∀ l x,x.ranged → (p l x).ranged) → ∀ (f:Fld) (b:Bool) (x:Tree),x.ranged → (qch p f b x).ranged:=by
  intro p hp f b x hx
  unfold qch
  split
  ·exact ⟨fun x h=>(by cases h),trivial⟩
  split
  ·have:=hp f.sub x hx
   generalize p f.sub x = y at this
   cases y; exact this
  exact ⟨fun x h=>(by cases h),trivial⟩
 intro d
 induction d with
 | zero=>intro l t ht; exact core _ l t ht fun _ _ _=>qfZ
 | succ d ih =>
  intro l t ht
  refine core _ l t ht fun f x hx=>?_
  unfold qcJ
  split
  ·refine ⟨fun x h=>(by cases h),qet fun y hy=>?_⟩
   obtain ⟨z,hz,rfl⟩:=List.mem_map.1 hy
   exact f0 _ ih _ _ _ (qgN hx z (by unfold qar at hz; exact List.mem_of_mem_take hz))
  exact f0 _ ih _ _ _ hx
abbrev z6 (x0) (x1) (x2) (x3) (x4) (x5) (x6) (x7) (x8) (x9):=([.int .i64 x0,.int .i64 x1,.int .i64 x2,.int .i64 x3,.int .i64 x4,.int .i64 x5,.int .i64 x6,.slice x7 x8 x9]:List Value)
theorem sHas (k x1 x2 x3 x4 x5 x6:Int) (fs:List Fld) (AF:Option Addr) (cF:Nat) (v:Int) (w:World) :
  Calls Tryz.prog 31 #[.agg #[.int .i64 k,.int .i64 x1,.int .i64 x2,.int .i64 x3,.int .i64 x4,.int .i64 x5,.int .i64 x6,.slice AF fs.length cF],.int .i64 v] w (qcI w (.bool (Fld.has (Fld.mk k x1 x2 x3 x4 x5 x6 fs) v))):=by
 refine enter (n:=20) Tryz.func31 rfl Tryz.ntmps31 kz fun a hE=>?_
 have hW:=WOk.start w Nil
 refine qaf [0,1] kz ?_
 refine qan (qby hW hE (d:=2) (cs:=(z6 k x1 x2 x3 x4 x5 x6 AF fs.length cF)) kz fun b1 a2 w3 hb4 hz5 hF6 hW7 hE8=>?_)
 refine qak [1] [] [(1,.v (.int .i64 v)),(2,.p 0 0)] hW7 hE8 fun a9 af=>?_
 refine qag (qab ?_)
 refine qaf [0,1,2,3,4,5,6,7,8,9,10,11,12,13,14,15] kz ?_
 refine qak [0,1,2,3,4] [5,6,7,8,9,10,11,12,13,14,15] [(1,.v (.int .i64 v)),(2,.p 0 0),(9,.v (.bool (decide (x1 ≤ v))))] hW7 af fun av ac=>?_
 refine (zO (decide (x1 ≤ v))).elim (fun aa=>?_) (fun aa=>?_)
 ·
  have ao:=zD aa
  have ag:=ac
  rw [aa] at ag
  refine qak [5,6,7,8] [9,10,11,12,13,14,15] [(1,.v (.int .i64 v)),(2,.p 0 0),(9,.v (.bool true)),(13,.v (.bool (decide (x2 < 0))))] hW7 ag fun aw ae=>?_
  refine (zO (decide (x2 < 0))).elim (fun ab=>?_) (fun ab=>?_)
  ·
   have ap:=zD ab
   have ah:=ae
   rw [ab] at ah
   refine qak [9,10,11,12,13,14,15] [] [(4,.v (.bool true))] hW7 ah fun ax ai=>?_
   refine qag (qab ?_)
   refine wp_ret (qaK ai hW7.cells (v:=.bool true) kz ?_)
   exact ⟨by simp only [Fld.has,aa,ab,Bool.true_and,Bool.and_true,Bool.false_and,Bool.and_false,Bool.true_or,Bool.false_or,Bool.or_true,Bool.or_false],hW7.step⟩
  have ar:=zF ab
  have aj:=ae
  rw [ab] at aj
  refine qak [9,10,11,12,13,14,15] [] [(4,.v (.bool (decide (v ≤ x2))))] hW7 aj fun ay ak=>?_
  refine qag (qab ?_)
  refine wp_ret (qaK ak hW7.cells (v:=.bool (decide (v ≤ x2))) kz ?_)
  exact ⟨by simp only [Fld.has,aa,ab,Bool.true_and,Bool.and_true,Bool.false_and,Bool.and_false,Bool.true_or,Bool.false_or,Bool.or_true,Bool.or_false],hW7.step⟩
 have au:=zF aa
 have al:=ac
 rw [aa] at al
 refine qak [5,6,7,8,9,10,11,12,13,14,15] [] [(4,.v (.bool false))] hW7 al fun az am=>?_
 refine qag (qab ?_)
 refine wp_ret (qaK am hW7.cells (v:=.bool false) kz ?_)
 exact ⟨by simp only [Fld.has,aa,Bool.true_and,Bool.and_true,Bool.false_and,Bool.and_false,Bool.true_or,Bool.false_or,Bool.or_true,Bool.or_false],hW7.step⟩
abbrev z4 (x0) (x1) (x2) (x3) (x4) (x5) (x6) (x7) (x8) (x9) (x10) (x11) (x12) (x13):=(Fld.nul (Fld.mk x0 x1 x2 x3 x4 x5 x6 x7) x8 (Tree.mk x9 x10 x11 x12 x13))
abbrev z1 (x0) (x1) (x2) (x3) (x4) (x5) (x6) (x7) (x8) (x9) (x10):=([.int .i64 x0,.slice x1 x2 x3,.bool x4,.slice x5 x6 x7,.slice x8 x9 x10]:List Value)
theorem qlv (k x1 x2 x3 x4 x5 x6:Int) (fs:List Fld) (AF:Option Addr) (cF:Nat) (v:Int) (n:Int) (s:Bs) (b:Bool) (l:List Tree) (u:List (Int × Bs)) (A1:Option Addr) (c1:Nat) (A2:Option Addr) (c2:Nat) (A3:Option Addr) (c3:Nat) (w:World) :
  Calls Tryz.prog 67 #[.agg #[.int .i64 k,.int .i64 x1,.int .i64 x2,.int .i64 x3,.int .i64 x4,.int .i64 x5,.int .i64 x6,.slice AF fs.length cF],.int .i64 v,.agg #[.int .i64 n,.slice A1 s.length c1,.bool b,.slice A2 l.length c2,.slice A3 u.length c3]] w (qcI w (.bool (z4 k x1 x2 x3 x4 x5 x6 fs v n s b l u))):=by
 refine enter (n:=20) Tryz.func67 rfl Tryz.ntmps67 kz fun a hE=>?_
 have hW:=WOk.start w Nil
 refine qaf [0,1,2] kz ?_
 refine qan (qby hW hE (d:=3) (cs:=(z6 k x1 x2 x3 x4 x5 x6 AF fs.length cF)) kz fun b1 a2 w3 hb4 hz5 hF6 hW7 hE8=>?_)
 refine qan (qby hW7 hE8 (d:=5) (cs:=(z1 n A1 s.length c1 b A2 l.length c2 A3 u.length c3)) kz fun b9 ay az ar au av aa ag=>?_)
 refine qak [2] [] [(1,.v (.int .i64 v)),(3,.p 0 0),(5,.p 1 0)] aa ag fun aA ah=>?_
 refine qag (qab ?_)
 refine qaf [0,1,2,3,4,5,6,7,8,9,10,11,12,13] kz ?_
 refine qak [0,1,2] [3,4,5,6,7,8,9,10,11,12,13] [(1,.v (.int .i64 v)),(3,.p 0 0),(9,.v (.bool b))] aa ah fun aB ae=>?_
 refine (zO (b)).elim (fun ac=>?_) (fun ac=>?_)
 ·
  have ai:=ae.cast (env':=[(1,.v (.int .i64 v)),(3,.p 0 0),(9,.v (.bool true))]) (by rw [ac])
  refine qak [3,4,5,6,7] [8,9,10,11,12,13] [(1,.v (.int .i64 v)),(3,.p 0 0),(14,.v (.bool (decide (x3 ≥ 0))))] aa ai fun aC af=>?_
  refine (zO (decide (x3 ≥ 0))).elim (fun ab=>?_) (fun ab=>?_)
  ·
   have aw:=zD ab
   have aj:=af
   rw [ab] at aj
   refine qak [8,9,10,11,12,13] [] [(6,.v (.bool (decide (v ≥ x3))))] aa aj fun aD ak=>?_
   refine qag (qab ?_)
   refine wp_ret (qaK ak aa.cells (v:=.bool (decide (v ≥ x3))) kz ?_)
   exact ⟨by simp only [Fld.nul,ac,ab,Bool.true_and,Bool.and_true,Bool.false_and,Bool.and_false,Bool.true_or,Bool.false_or,Bool.or_true,Bool.or_false],aa.step⟩
  have ax:=zF ab
  have al:=af
  rw [ab] at al
  refine qak [8,9,10,11,12,13] [] [(6,.v (.bool false))] aa al fun aE am=>?_
  refine qag (qab ?_)
  refine wp_ret (qaK am aa.cells (v:=.bool false) kz ?_)
  exact ⟨by simp only [Fld.nul,ac,ab,Bool.true_and,Bool.and_true,Bool.false_and,Bool.and_false,Bool.true_or,Bool.false_or,Bool.or_true,Bool.or_false],aa.step⟩
 have ao:=ae.cast (env':=[(1,.v (.int .i64 v)),(3,.p 0 0),(9,.v (.bool false))]) (by rw [ac])
 refine qak [3,4,5,6,7,8,9,10,11,12,13] [] [(6,.v (.bool false))] aa ao fun aF ap=>?_
 refine qag (qab ?_)
 refine wp_ret (qaK ap aa.cells (v:=.bool false) kz ?_)
 exact ⟨by simp only [Fld.nul,ac,Bool.true_and,Bool.and_true,Bool.false_and,Bool.and_false,Bool.true_or,Bool.false_or,Bool.or_true,Bool.or_false],aa.step⟩
theorem qjW (k:Int) (w:World):Calls Tryz.prog 66 #[.int .i64 k] w (qcI w (.int .i64 ((qbN k:Nat):Int))):=by
 refine enter (n:=11) Tryz.func66 rfl Tryz.ntmps66 kz fun a hE=>?_
 have hW:=WOk.start w Nil
 refine qas [(0,.v (.int .i64 k))] hW hE fun a1 hE2=>?_
 refine wp_seq (qas [(3,.v (.int .i64 k))] hW hE2 fun a3 hE4=>?_)
 refine wp_block (qas [(3,.v (.int .i64 k)),(4,.v (.bool (k == 1)))] hW hE4 fun a5 hE6=>?_)
 refine qax hE6 (b:=k == 1) kz (fun hc7=>?_) (fun hc7=>?_)
 ·
  have hf8:k = 1:=by simpa using hc7
  refine qas [(2,.v (.int .i64 1))] hW hE6 fun a9 ah=>?_
  refine wp_ret (qaz (qat (qaK ah hW.cells (v:=.int .i64 1) kz ?_)))
  exact ⟨by simp_all [qbN],hW.step⟩
 have am:k ≠ 1:=by simpa using hc7
 refine wp_seq (qas [(3,.v (.int .i64 k)),(6,.v (.bool (k == 2)))] hW hE6 fun ax aa=>?_)
 refine qax aa (b:=k == 2) kz (fun ab=>?_) (fun ab=>?_)
 ·
  have ao:k = 2:=by simpa using ab
  refine wp_skip (qab (qa9 aa (b:=k == 2) kz (ab) ?_))
  refine qas [(2,.v (.int .i64 2))] hW aa fun ay ai=>?_
  refine wp_ret (qaz (qat (qaK ai hW.cells (v:=.int .i64 2) kz ?_)))
  exact ⟨by simp_all [qbN],hW.step⟩
 have ap:k ≠ 2:=by simpa using ab
 refine qau [0,1] kz ?_
 refine qak [0,1] [] [(3,.v (.int .i64 k)),(6,.v (.bool (k == 5)))] hW aa fun az ac=>?_
 refine qag (qab ?_)
 refine qax ac (b:=k == 5) kz (fun ae=>?_) (fun ae=>?_)
 ·
  have ar:k = 5:=by simpa using ae
  refine qas [(2,.v (.int .i64 2))] hW ac fun aA aj=>?_
  refine wp_ret (qaz (qat (qaK aj hW.cells (v:=.int .i64 2) kz ?_)))
  exact ⟨by simp_all [qbN],hW.step⟩
 have au:k ≠ 5:=by simpa using ae
 refine qas [(9,.v (.bool (k == 3)))] hW ac fun aB af=>?_
 refine qax af (b:=k == 3) kz (fun ag=>?_) (fun ag=>?_)
 ·
  have av:k = 3:=by simpa using ag
  refine qas [(2,.v (.int .i64 4))] hW af fun aC ak=>?_
  refine wp_ret (qaz (qat (qaK ak hW.cells (v:=.int .i64 4) kz ?_)))
  exact ⟨by simp_all [qbN],hW.step⟩
 have aw:k ≠ 3:=by simpa using ag
 refine wp_skip (qav (qab (qas [(2,.v (.int .i64 8))] hW af fun aD al=>?_)))
 refine wp_ret (qaK al hW.cells (v:=.int .i64 8) kz ?_)
 exact ⟨by simp_all [qbN],hW.step⟩
abbrev z67 (x0) (x1) (x2):=([(0,.v (.slice x0 x1 x2))]:Env)
theorem qea (A:Option Addr) (c:Nat) (s:Bs) (hc:s.length ≤ c) (w:World) :
  Calls Tryz.prog 37 #[.slice A s.length c] w (qcI w (.slice A (qaG s).length c)):=by
 refine enter (n:=8) Tryz.func37 rfl Tryz.ntmps37 kz fun a hE=>?_
 have hW:=WOk.start w Nil
 refine qas (z67 A s.length c) hW hE fun a1 hE2=>?_
 refine qaf [0,1,2,3,4,5] kz ?_
 refine qak [0,1,2,3] [4,5] [(3,.v (.slice A s.length c)),(6,.v (.int .i64 (if 32767 < ((s.length:Nat):Int) then 32767 else ((s.length:Nat):Int))))] hW hE2 fun a3 hE4=>?_
 refine qan (qdO hE4 (t:=22) (A:=A) (m:=s.length) (cp:=c) (q:=(if 32767 < ((s.length:Nat):Int) then 32767 else ((s.length:Nat):Int))) (d:=7) (j:=(qaG s).length) kz (e:=5) (size:=1) (bytes:=1) kz (by simpa [qaG] using qhE s.length) (by simp only [qaG,List.length_take]; omega) fun a5 hE6=>?_)
 refine qak [5] [] [(2,.v (.slice A ((qaG s).length) c))] hW hE6 fun a7 hE8=>?_
 refine qag (qab ?_)
 refine wp_ret (qaK hE8 hW.cells (v:=.slice A ((qaG s).length) c) kz ?_)
 exact ⟨rfl,hW.step⟩
theorem qgO (A:Option Addr) (c:Nat) (s:List Tree) (hc:s.length ≤ c) (w:World) :
  Calls Tryz.prog 68 #[.slice A s.length c] w (qcI w (.slice A (qar s).length c)):=by
 refine enter (n:=8) Tryz.func68 rfl Tryz.ntmps68 kz fun a hE=>?_
 have hW:=WOk.start w Nil
 refine qas (z67 A s.length c) hW hE fun a1 hE2=>?_
 refine qaf [0,1,2,3,4,5] kz ?_
 refine qak [0,1,2,3] [4,5] [(3,.v (.slice A s.length c)),(6,.v (.int .i64 (if 32767 < ((s.length:Nat):Int) then 32767 else ((s.length:Nat):Int))))] hW hE2 fun a3 hE4=>?_
 refine qan (qdO hE4 (t:=23) (A:=A) (m:=s.length) (cp:=c) (q:=(if 32767 < ((s.length:Nat):Int) then 32767 else ((s.length:Nat):Int))) (d:=7) (j:=(qar s).length) kz (e:=26) (size:=5) (bytes:=88) kz (by simpa [qar] using qhE s.length) (by simp only [qar,List.length_take]; omega) fun a5 hE6=>?_)
 refine qak [5] [] [(2,.v (.slice A ((qar s).length) c))] hW hE6 fun a7 hE8=>?_
 refine qag (qab ?_)
 refine wp_ret (qaK hE8 hW.cells (v:=.slice A ((qar s).length) c) kz ?_)
 exact ⟨rfl,hW.step⟩
theorem qeM (A A':Option Addr) (c c':Nat) (s t:Bs) (w:World) (F:Nat → Nat → Prop) (hs:Octs w F A c s) (ht:Octs w F A' c' t) :
  Calls Tryz.prog 36 #[.slice A s.length c,.slice A' t.length c'] w (qcI w (.bool (decide (s = t)))):=by
 refine enter (n:=26) Tryz.func36 rfl Tryz.ntmps36 kz fun a hE=>?_
 have hW:=WOk.start w Nil
 have hl:=Slots.small hs
 refine qas [(0,.v (.slice A s.length c)),(1,.v (.slice A' t.length c'))] hW hE fun a1 hE2=>?_
 refine wp_seq (qas [(0,.v (.slice A s.length c)),(1,.v (.slice A' t.length c')),(10,.v (.bool (((s.length:Nat):Int) != ((t.length:Nat):Int))))] hW hE2 fun a3 hE4=>?_)
 refine qax hE4 (b:=((s.length:Nat):Int) != ((t.length:Nat):Int)) kz (fun hc5=>?_) (fun hc5=>?_)
 ·
  have hf6:((s.length:Nat):Int) ≠ ((t.length:Nat):Int):=by simpa using hc5
  refine qas [(4,.v (.bool false))] hW hE4 fun a7 hE8=>?_
  refine wp_ret (qat (qaK hE8 hW.cells (v:=.bool false) kz ?_))
  exact ⟨by first | rw [← qgA hq (by omega) hlen] | rw [← qhG ‹_›] | rw [← qgz ‹_›],hW.step⟩
 have hf9:((s.length:Nat):Int) = ((t.length:Nat):Int):=by simpa using hc5
 refine wp_skip (qab (wp_seq (qas [(0,.v (.slice A s.length c)),(1,.v (.slice A' t.length c')),(12,.v (.int .i64 ((s.length:Nat):Int))),(13,.v (.int .i64 0))] hW hE4 fun aP ak=>?_)))
 refine wp_block ?_
 have hlen:s.length = t.length:=by omega
 refine wp_loop_ghost (fun n_ a_ w_=>∃ (k:Nat),n_ = s.length - k ∧ k ≤ s.length ∧ (s.take k = t.take k) ∧ LInv hW 26 [] [] [(0,.v (.slice A s.length c)),(1,.v (.slice A' t.length c')),(12,.v (.int .i64 ((s.length:Nat):Int))),(13,.v (.int .i64 ((k:Nat):Int)))] a_ w_) (s.length) ⟨0,by omega,by omega,rfl,ak.pk,hW,Fr.refl _ _ _⟩ ?_
 rintro aQ aR aS ⟨k,aD,aE,hq,al,ab,am⟩
 refine qas [(0,.v (.slice A s.length c)),(1,.v (.slice A' t.length c')),(12,.v (.int .i64 ((s.length:Nat):Int))),(13,.v (.int .i64 ((k:Nat):Int))),(14,.v (.bool (decide (((k:Nat):Int) < ((s.length:Nat):Int)))))] ab al fun aT ac=>?_
 refine wp_seq (qax ac (b:=decide (((k:Nat):Int) < ((s.length:Nat):Int))) kz (fun ae=>?_) (fun ae=>?_))
 ·
  have aF:=zD ae
  refine wp_skip (qab (wp_seq (wp_block (qas [(0,.v (.slice A s.length c)),(1,.v (.slice A' t.length c')),(5,.v (.int .i64 ((k:Nat):Int))),(12,.v (.int .i64 ((s.length:Nat):Int))),(13,.v (.int .i64 ((k:Nat):Int)))] ab ac fun aU ao=>?_))))
  refine qcs kz ab fun aV ap aa=>?_
  refine qaF [0,1,4,5] [(0,.v (.slice A s.length c)),(1,.v (.slice A' t.length c')),(12,.v (.int .i64 ((s.length:Nat):Int))),(13,.v (.int .i64 ((k:Nat):Int))),(16,.v (.slice A s.length c)),(17,.v (.int .i64 ((k:Nat):Int))),(20,.v (.slice A' t.length c')),(21,.v (.int .i64 ((k:Nat):Int)))] 5 (qaa (qac (qaa (qaa (qac (qaa qae)))))) (fun _ h=>h ▸ aa.cells) rfl ao fun aW ar=>?_
  obtain ⟨aG,aH,au,aI,ah⟩:=Slots.get hs (i:=k) (by omega)
  refine qaH ar (i:=2) (t:=22) (A:=A) (m:=s.length) (q:=((k:Nat):Int)) (d:=18) kz (e:=5) (size:=1) (bytes:=1) kz au rfl (by omega) kz kz (qaa (qac (qaa (qaa (qac (qaa qae)))))) rfl fun aX av=>?_
  refine qbl av (i:=3) (t:=5) (b:=aG) (o:=aH + k * 1) (d:=19) kz (cs:=[.int .u8 ((s.getD k 0).toNat:Int)]) (v:=.int .u8 ((s.getD k 0).toNat:Int)) kz (fun w' h'=>h' ▸ (AtF.move ah aa.step nilM qbi).at_) kz kz (qaa (qac (qaa (qaa (qac (qaa qae)))))) rfl fun aY aw=>?_
  obtain ⟨aJ,aK,ax,aL,ai⟩:=Slots.get ht (i:=k) (by omega)
  refine qaH aw (i:=6) (t:=22) (A:=A') (m:=t.length) (q:=((k:Nat):Int)) (d:=22) kz (e:=5) (size:=1) (bytes:=1) kz ax rfl (by omega) kz kz (qaa (qac (qaa (qaa (qac (qaa qae)))))) rfl fun aZ ay=>?_
  refine qbl ay (i:=7) (t:=5) (b:=aJ) (o:=aK + k * 1) (d:=23) kz (cs:=[.int .u8 ((t.getD k 0).toNat:Int)]) (v:=.int .u8 ((t.getD k 0).toNat:Int)) kz (fun w' h'=>h' ▸ (AtF.move ai aa.step nilM qbi).at_) kz kz (qaa (qac (qaa (qaa (qac (qaa qae)))))) rfl fun ba az=>?_
  refine qaF [8] [(0,.v (.slice A s.length c)),(1,.v (.slice A' t.length c')),(12,.v (.int .i64 ((s.length:Nat):Int))),(13,.v (.int .i64 ((k:Nat):Int))),(24,.v (.bool (((s.getD k 0).toNat:Int) != ((t.getD k 0).toNat:Int))))] 0 (qaa (qac (qaa (qaa (qac (qaa qae)))))) (fun _ h=>h ▸ aa.cells) rfl az fun bd af=>?_
  refine qaC kz ?_ _
  refine qab (qax af (b:=((s.getD k 0).toNat:Int) != ((t.getD k 0).toNat:Int)) kz (fun ag=>?_) (fun ag=>?_))
  ·
   have aM:((s.getD k 0).toNat:Int) ≠ ((t.getD k 0).toNat:Int):=by simpa using ag
   refine qas [(4,.v (.bool false))] aa af fun bf aA=>?_
   refine wp_ret (qaz (qat (qat (qaz (qat (qaK aA aa.cells (v:=.bool false) kz ?_))))))
   exact ⟨by first | rw [← qgA hq (by omega) hlen] | rw [← qhG ‹_›] | rw [← qgz ‹_›],aa.step⟩
  have aN:((s.getD k 0).toNat:Int) = ((t.getD k 0).toNat:Int):=by simpa using ag
  refine wp_skip (qav (qab (qau [0,1] kz ?_)))
  refine qak [0,1] [] [(0,.v (.slice A s.length c)),(1,.v (.slice A' t.length c')),(12,.v (.int .i64 ((s.length:Nat):Int))),(13,.v (.int .i64 (IntKind.i64.wrap (((k:Nat):Int) + 1))))] aa af fun bg aj=>?_
  refine qag (qab ?_)
  have aB:IntKind.i64.wrap (((k:Nat):Int) + 1) = ((k + 1:Nat):Int):=qaS (by omega)
  rw [aB] at aj
  exact ⟨s.length - (k + 1),by omega,k + 1,rfl,by omega,qji hq (by omega) hlen ‹_›,aj.pk,aa,(am.trans ap)⟩
 have aO:=zF ae
 refine wp_exit (qay (qay (qaQ (qab (qas [(4,.v (.bool true))] ab ac fun bh aC=>?_)))))
 refine wp_ret (qaK aC ab.cells (v:=.bool true) kz ?_)
 exact ⟨by first | rw [← qgA hq (by omega) hlen] | rw [← qhG ‹_›] | rw [← qgz ‹_›],ab.step⟩
abbrev z0 :=([.int .i64 0,.slice none 0 0,.bool false,.slice none 0 0,.slice none 0 0]:List Value)
theorem sAt (ct:List Value) (t:Tree) (i:Nat) (w:World) (F:Nat → Nat → Prop) (ht:TreeR w F ct t) :
  Calls Tryz.prog 30 #[.agg ct.toArray,.int .i64 (i:Int)] w (qlS w F (t.at_ i)):=by
 obtain ⟨n1,s2,b3,l4,u5,A6,c7,A8,c9,aO,aP,aQ,rfl,rfl,aR,aJ,aS,bp⟩:=ht.open_
 have aK:=aR.small
 have aL:=aJ.small
 refine enter (n:=16) Tryz.func30 rfl Tryz.ntmps30 kz fun a hE=>?_
 have hW:=WOk.start w Nil
 refine qaf [0,1] kz ?_
 refine qan (qby hW hE (d:=2) (cs:=(z1 n1 A6 s2.length c7 b3 A8 l4.length c9 aO u5.length aP)) kz fun bq bt bu aT aU aV az aA=>?_)
 refine qan (qaM az aA (d:=4) (cs:=z0) kz fun bw bx bz aW aX aY aa aB=>?_)
 refine qag (qab ?_)
 refine wp_seq (qas [(1,.v (.int .i64 ((i:Nat):Int))),(2,.p 0 0),(4,.p 1 0),(9,.v (.bool (decide (((i:Nat):Int) < ((l4.length:Nat):Int)))))] aa aB fun bA ae=>?_)
 refine qax ae (b:=decide (((i:Nat):Int) < ((l4.length:Nat):Int))) kz (fun af=>?_) (fun af=>?_)
 ·
  have aZ:=zD af
  refine qaf [0,1,2,3,4,5] kz ?_
  refine qak [0,1,2] [3,4,5] [(4,.p 1 0),(11,.v (.slice A8 l4.length c9)),(12,.v (.int .i64 ((i:Nat):Int)))] aa ae fun bB aC=>?_
  obtain ⟨ba,bd,aD,bf,ab⟩:=Slots.get aJ (i:=i) (by omega)
  obtain ⟨bg,ah⟩:∃ x,l4[i]? = some x:=⟨_,List.getElem?_eq_getElem (by omega)⟩
  have ag:=aS i bg ah
  obtain ⟨ak,al,am,ao,ap,ar,au,av,aw,ax,ay,bh,rfl,ac,bi,bj,bC,bD⟩:=ag.open_
  rw [ac] at ag
  have aM:=bi.small
  have aN:=bj.small
  rw [ac] at ab
  refine qan (qaB aC (t:=23) (A:=A8) (m:=l4.length) (q:=((i:Nat):Int)) (d:=13) kz (e:=26) (size:=5) (bytes:=88) kz aD rfl (by omega) fun bE aE=>?_)
  refine qan (qaW aE (t:=26) (b:=ba) (o:=bd + i * 5) (d:=14) kz (cs:=(z1 ak ar al.length au am av ao.length aw ax ap.length ay)) (v:=.agg #[.int .i64 ak,.slice ar al.length au,.bool am,.slice av ao.length aw,.slice ax ap.length ay]) kz (AtF.move ab aa.step nilM qbi).at_ fun bF aF=>?_)
  refine qan (qao aa aF (oi:=1) (cs:=(z1 ak ar al.length au am av ao.length aw ax ap.length ay)) kz fun bG bk ai aG=>?_)
  refine qag (qab ?_)
  refine wp_ret (qat (qaK aG ai.cells (v:=.agg #[.int .i64 ak,.slice ar al.length au,.bool am,.slice av ao.length aw,.slice ax ap.length ay]) kz ?_))
  exact ⟨_,rfl,by rw [qlm ah]; exact ag,ai.step⟩
 have bn:=zF af
 refine wp_skip (qab (qaf [0,1] kz ?_))
 refine qak [0] [1] [(4,.p 1 0),(15,.v (.agg #[.int .i64 0,.slice none 0 0,.bool false,.slice none 0 0,.slice none 0 0]))] aa ae fun bH aH=>?_
 refine qan (qao aa aH (oi:=1) (cs:=z0) kz fun bI bo aj aI=>?_)
 refine qag (qab ?_)
 refine wp_ret (qaK aI aj.cells (v:=.agg #[.int .i64 0,.slice none 0 0,.bool false,.slice none 0 0,.slice none 0 0]) kz ?_)
 exact ⟨_,rfl,by rw [qln (by omega)]; exact TreeR.zero _ _,aj.step⟩
theorem qf0 (x:Int) (size:Nat) (hsz:size ≤ 8) (w:World) :
  Calls Tryz.prog 65 #[.int .i64 x,.int .i64 ((size:Nat):Int)] w (qez w 5 (be size x)):=by
 refine enter (n:=22) Tryz.func65 rfl Tryz.ntmps65 kz fun a hE=>?_
 have hW:=WOk.start w Nil
 refine qas [(0,.v (.int .i64 x)),(1,.v (.int .i64 ((size:Nat):Int)))] hW hE fun a1 hE2=>?_
 refine qas [(0,.v (.int .i64 x)),(1,.v (.int .i64 ((size:Nat):Int))),(5,.v (.slice none 0 0))] hW hE2 fun a3 hE4=>?_
 refine wp_seq (qas [(0,.v (.int .i64 x)),(5,.v (.slice none 0 0)),(6,.v (.int .i64 (IntKind.i64.wrap (((size:Nat):Int) - 1))))] hW hE4 fun a5 hE6=>?_)
 refine wp_block ?_
 have hW7:=hW.addNil 5 1
 have hF8:=hW.frNil 5 1
 have aj:IntKind.i64.wrap (((size:Nat):Int) - 1) = ((size:Nat):Int) - 1 - ((0:Nat):Int):=by rw [wrap_i64 (by omega) (by omega)]; omega
 rw [aj] at hE6
 refine wp_loop_ghost (fun n_ a_ w_=>∃ (k:Nat) (A:Option Addr) (c:Nat),n_ = size - k ∧ k ≤ size ∧ LInv hW7 22 [] [brow A c 5 ((be size x).take k)] [(0,.v (.int .i64 x)),(5,.v (.slice A (((be size x).take k).length) c)),(6,.v (.int .i64 (((size:Nat):Int) - 1 - ((k:Nat):Int))))] a_ w_) (size) ⟨0,none,0,by omega,by omega,hE6.pk,hW7,Fr.refl _ _ _⟩ ?_
 rintro n9 aK aL ⟨k,A,c,aG,aH,ak,aa,al⟩
 refine wp_seq (qas [(0,.v (.int .i64 x)),(5,.v (.slice A (((be size x).take k).length) c)),(6,.v (.int .i64 (((size:Nat):Int) - 1 - ((k:Nat):Int)))),(10,.v (.bool (decide ((((size:Nat):Int) - 1 - ((k:Nat):Int)) ≥ 0))))] aa ak fun aM ae=>?_)
 refine qax ae (b:=decide ((((size:Nat):Int) - 1 - ((k:Nat):Int)) ≥ 0)) kz (fun af=>?_) (fun af=>?_)
 ·
  have aI:=of_decide_eq_true af
  refine wp_skip (qab (wp_seq (wp_block (qau [0,1,2,3,4,5,6,7,8] kz ?_))))
  refine qak [0,1,2,3] [4,5,6,7,8] [(0,.v (.int .i64 x)),(6,.v (.int .i64 (((size:Nat):Int) - 1 - ((k:Nat):Int)))),(13,.v (.slice A (((be size x).take k).length) c)),(14,.v (.int .i64 x)),(16,.v (.int .i64 (IntKind.i64.wrap (8 * (((size:Nat):Int) - 1 - ((k:Nat):Int))))))] aa ae fun aN am=>?_
  refine qan (qko am (k:=.i64) (p:=x) (q:=(IntKind.i64.wrap (8 * (((size:Nat):Int) - 1 - ((k:Nat):Int))))) (d:=17) (j:=8 * (size - 1 - k)) kz (by rw [wrap_i64 (by omega) (by omega)]; omega) (by simp only [IntKind.bits]; omega) fun aO ao=>?_)
  refine qak [5] [6,7,8] [(0,.v (.int .i64 x)),(6,.v (.int .i64 (((size:Nat):Int) - 1 - ((k:Nat):Int)))),(13,.v (.slice A (((be size x).take k).length) c)),(18,.v (.int .u8 (IntKind.u8.wrap (x / 2 ^ (8 * (size - 1 - k))))))] aa ao fun aP ap=>?_
  refine qcT aa ap (k:=0) (e:=5) (size:=1) (len:=1) (cs:=[.int .u8 (IntKind.u8.wrap (x / 2 ^ (8 * (size - 1 - k))))]) (d1:=19) (d:=20) kz (t:=22) (bytes:=1) kz (fun _=>by kernel_rfl) rfl kz (by first | (have:=hroom; omega) | (simp; done) | (simp; omega)) fun ab ac aQ aR ar au ⟨_,av⟩=>?_
  have aw:(⟨ab,ac,5,1,((be size x).take k).length + 1,bc ((be size x).take k) ++ [.int .u8 (IntKind.u8.wrap (x / 2 ^ (8 * (size - 1 - k))))]⟩:Rw) = brow ab ac 5 ((be size x).take k ++ [by8 (x / 2 ^ (8 * (size - 1 - k)))]):=qcn (by simp only [bc,List.map,qeV]; try rfl) rfl
  obtain ⟨ag,ax⟩:=au.rowEq 0 [brow ab ac 5 ((be size x).take k ++ [by8 (x / 2 ^ (8 * (size - 1 - k)))])] aw
  have ay:=EnvOk.pick av (ks:=[0,6,13,18,20]) (env':=[(0,.v (.int .i64 x)),(6,.v (.int .i64 (((size:Nat):Int) - 1 - ((k:Nat):Int)))),(13,.v (.slice A (((be size x).take k).length) c)),(18,.v (.int .u8 (IntKind.u8.wrap (x / 2 ^ (8 * (size - 1 - k)))))),(20,.v (.slice ab (((be size x).take k).length + 1) ac))]) kz
  have az:=ay.cast (env':=[(0,.v (.int .i64 x)),(6,.v (.int .i64 (((size:Nat):Int) - 1 - ((k:Nat):Int)))),(13,.v (.slice A (((be size x).take k).length) c)),(18,.v (.int .u8 (IntKind.u8.wrap (x / 2 ^ (8 * (size - 1 - k)))))),(20,.v (.slice ab (((be size x).take k ++ [by8 (x / 2 ^ (8 * (size - 1 - k)))]).length) ac))]) (by simp only [List.length_append,List.length_cons,List.length_nil,Nat.zero_add])
  refine qak [8] [] [(0,.v (.int .i64 x)),(5,.v (.slice ab (((be size x).take k ++ [by8 (x / 2 ^ (8 * (size - 1 - k)))]).length) ac)),(6,.v (.int .i64 (((size:Nat):Int) - 1 - ((k:Nat):Int))))] ag az fun aS aA=>?_
  refine qag (qav (qab (qau [0,1,2] kz ?_)))
  refine qak [0,1,2] [] [(0,.v (.int .i64 x)),(5,.v (.slice ab (((be size x).take k ++ [by8 (x / 2 ^ (8 * (size - 1 - k)))]).length) ac)),(6,.v (.int .i64 (IntKind.i64.wrap ((((size:Nat):Int) - 1 - ((k:Nat):Int)) - 1))))] ag aA fun aT ah=>?_
  refine qag (qab ?_)
  have ai:((be size x).take k ++ [by8 (x / 2 ^ (8 * (size - 1 - k)))]) = ((be size x).take (k + 1)):=(qg8 (by omega)).symm
  have aB:=congrArg (brow ab ac 5) ai
  obtain ⟨aC,aD⟩:=ag.rowEq 0 [brow ab ac 5 ((be size x).take (k + 1))] aB
  rw [ai] at ah
  have aE:IntKind.i64.wrap ((((size:Nat):Int) - 1 - ((k:Nat):Int)) - 1) = ((size:Nat):Int) - 1 - (((k + 1):Nat):Int):=by rw [wrap_i64 (by omega) (by omega)]; omega
  rw [aE] at ah
  exact ⟨size - (k + 1),by omega,k + 1,ab,ac,rfl,by omega,ah.pk,aC,(((al.trans ar).trans ax).trans aD)⟩
 have aJ:=of_decide_eq_false af
 refine wp_exit (qay (qay (qaQ (qab (qas [(4,.v (.slice A (((be size x).take k).length) c))] aa ae fun aU aF=>?_)))))
 refine wp_ret (qaK aF aa.cells (v:=.slice A (((be size x).take k).length) c) kz ?_)
 exact qbu aa (k:=0) rfl (List.take_of_length_le (by simp; omega))
theorem qev (x:Nat) (hx:x < 18446744073709551616) (w:World) :
  Calls Tryz.prog 64 #[.int .u64 ((x:Nat):Int)] w (qez w 5 (uv x)):=by
 refine enter (n:=20) Tryz.func64 rfl Tryz.ntmps64 kz fun a hE=>?_
 have hW:=WOk.start w Nil
 refine qas [(0,.v (.int .u64 ((x:Nat):Int)))] hW hE fun a1 hE2=>?_
 refine qas [(0,.v (.int .u64 ((x:Nat):Int))),(3,.v (.slice none 0 0))] hW hE2 fun a3 hE4=>?_
 refine wp_seq (wp_block ?_)
 have hW5:=hW.addNil 5 1
 have hF6:=hW.frNil 5 1
 refine wp_loop_ghost (fun n_ a_ w_=>∃ (A:Option Addr) (c:Nat) (pre:Bs) (m:Nat),n_ = m ∧ (pre ++ uv m = uv x) ∧ (m < 18446744073709551616) ∧ LInv hW5 20 [] [brow A c 5 pre] [(0,.v (.int .u64 ((m:Nat):Int))),(3,.v (.slice A pre.length c))] a_ w_) (x) ⟨none,0,[],x,rfl,rfl,hx,hE4.pk,hW5,Fr.refl _ _ _⟩ ?_
 rintro n7 a8 w9 ⟨A,c,pre,m,aM,hp,hm,am,aa,ao⟩
 refine wp_seq (qas [(0,.v (.int .u64 ((m:Nat):Int))),(3,.v (.slice A pre.length c)),(5,.v (.bool (decide (((m:Nat):Int) > 127))))] aa am fun aR ae=>?_)
 refine qax ae (b:=decide (((m:Nat):Int) > 127)) kz (fun af=>?_) (fun af=>?_)
 ·
  have aN:=zD af
  refine wp_skip (qab (wp_block (qaf [0,1,2,3,4,5,6,7] kz ?_)))
  refine qak [0,1,2,3,4] [5,6,7] [(0,.v (.int .u64 ((m:Nat):Int))),(6,.v (.slice A pre.length c)),(10,.v (.int .u8 (IntKind.u8.wrap (zB 8 (IntKind.u8.wrap (IntKind.u64.wrap (zB 64 ((m:Nat):Int) &&& zB 64 127).toNat)) ||| zB 8 128).toNat)))] aa ae fun aS ap=>?_
  refine qcT aa ap (k:=0) (e:=5) (size:=1) (len:=1) (cs:=[.int .u8 (IntKind.u8.wrap (BitVec.ofInt 8 (IntKind.u8.wrap (IntKind.u64.wrap (BitVec.ofInt 64 ((m:Nat):Int) &&& BitVec.ofInt 64 127).toNat)) ||| BitVec.ofInt 8 128).toNat)]) (d1:=11) (d:=12) kz (t:=22) (bytes:=1) kz (fun _=>by kernel_rfl) rfl kz (by have h1_:=qeX x hx; rw [← hp,List.length_append] at h1_; omega) fun ab ac aT aU ar au ⟨_,av⟩=>?_
  have aw:(⟨ab,ac,5,1,pre.length + 1,bc pre ++ [.int .u8 (IntKind.u8.wrap (BitVec.ofInt 8 (IntKind.u8.wrap (IntKind.u64.wrap (BitVec.ofInt 64 ((m:Nat):Int) &&& BitVec.ofInt 64 127).toNat)) ||| BitVec.ofInt 8 128).toNat)]⟩:Rw) = brow ab ac 5 (pre ++ [by8 (BitVec.ofInt 8 (IntKind.u8.wrap (IntKind.u64.wrap (BitVec.ofInt 64 ((m:Nat):Int) &&& BitVec.ofInt 64 127).toNat)) ||| BitVec.ofInt 8 128).toNat]):=qcn (by simp only [bc,List.map,qeV]; try rfl) rfl
  obtain ⟨ag,ax⟩:=au.rowEq 0 [brow ab ac 5 (pre ++ [by8 (zB 8 (IntKind.u8.wrap (IntKind.u64.wrap (zB 64 ((m:Nat):Int) &&& zB 64 127).toNat)) ||| zB 8 128).toNat])] aw
  have ay:=EnvOk.pick av (ks:=[0,6,10,12]) (env':=[(0,.v (.int .u64 ((m:Nat):Int))),(6,.v (.slice A pre.length c)),(10,.v (.int .u8 (IntKind.u8.wrap (zB 8 (IntKind.u8.wrap (IntKind.u64.wrap (zB 64 ((m:Nat):Int) &&& zB 64 127).toNat)) ||| zB 8 128).toNat))),(12,.v (.slice ab (pre.length + 1) ac))]) kz
  have az:=ay.cast (env':=[(0,.v (.int .u64 ((m:Nat):Int))),(6,.v (.slice A pre.length c)),(10,.v (.int .u8 (IntKind.u8.wrap (BitVec.ofInt 8 (IntKind.u8.wrap (IntKind.u64.wrap (BitVec.ofInt 64 ((m:Nat):Int) &&& BitVec.ofInt 64 127).toNat)) ||| BitVec.ofInt 8 128).toNat))),(12,.v (.slice ab ((pre ++ [by8 (BitVec.ofInt 8 (IntKind.u8.wrap (IntKind.u64.wrap (BitVec.ofInt 64 ((m:Nat):Int) &&& BitVec.ofInt 64 127).toNat)) ||| BitVec.ofInt 8 128).toNat]).length) ac))]) (by simp only [List.length_append,List.length_cons,List.length_nil,Nat.zero_add])
  refine qak [7] [] [(0,.v (.int .u64 ((m:Nat):Int))),(3,.v (.slice ab ((pre ++ [by8 (zB 8 (IntKind.u8.wrap (IntKind.u64.wrap (zB 64 ((m:Nat):Int) &&& zB 64 127).toNat)) ||| zB 8 128).toNat]).length) ac))] ag az fun aV aA=>?_
  refine qag (qab ?_)
  refine qau [0,1,2] kz ?_
  refine qak [0,1,2] [] [(0,.v (.int .u64 (Int.fdiv ((m:Nat):Int) 128))),(3,.v (.slice ab ((pre ++ [by8 (zB 8 (IntKind.u8.wrap (IntKind.u64.wrap (zB 64 ((m:Nat):Int) &&& zB 64 127).toNat)) ||| zB 8 128).toNat]).length) ac))] ag aA fun aW ah=>?_
  refine qag (qav (qab ?_))
  have al:(pre ++ [by8 (BitVec.ofInt 8 (IntKind.u8.wrap (IntKind.u64.wrap (BitVec.ofInt 64 ((m:Nat):Int) &&& BitVec.ofInt 64 127).toNat)) ||| BitVec.ofInt 8 128).toNat]) = (pre ++ [UInt8.ofNat (m % 128 + 128)]):=by rw [qku m (by omega)]
  have aB:=congrArg (brow ab ac 5) al
  obtain ⟨aC,aD⟩:=ag.rowEq 0 [brow ab ac 5 (pre ++ [UInt8.ofNat (m % 128 + 128)])] aB
  rw [al] at ah
  have aE:Int.fdiv ((m:Nat):Int) 128 = ((m / 128:Nat):Int):=qlo m
  rw [aE] at ah
  exact ⟨m / 128,by omega,ab,ac,pre ++ [UInt8.ofNat (m % 128 + 128)],m / 128,rfl,by rw [← hp,qeA (show 128 ≤ m by omega)]; simp,by omega,ah.pk,aC,(((ao.trans ar).trans ax).trans aD)⟩
 have aO:=zF af
 refine wp_exit (qay (qay (qaQ (qab (qaf [0,1,2,3,4,5] kz ?_)))))
 refine qak [0,1,2] [3,4,5] [(15,.v (.slice A pre.length c)),(17,.v (.int .u8 (IntKind.u8.wrap ((m:Nat):Int))))] aa ae fun aX aF=>?_
 refine qcT aa aF (k:=0) (e:=5) (size:=1) (len:=1) (cs:=[.int .u8 (IntKind.u8.wrap ((m:Nat):Int))]) (d1:=18) (d:=19) kz (t:=22) (bytes:=1) kz (fun _=>by kernel_rfl) rfl kz (by have h1_:=qeX x hx; rw [← hp,List.length_append] at h1_; omega) fun ai aj aY aZ aP aG ⟨_,aH⟩=>?_
 have aI:(⟨ai,aj,5,1,pre.length + 1,bc pre ++ [.int .u8 (IntKind.u8.wrap ((m:Nat):Int))]⟩:Rw) = brow ai aj 5 (pre ++ [by8 ((m:Nat):Int)]):=qcn (by simp only [bc,List.map,qeV]; try rfl) rfl
 obtain ⟨ak,aQ⟩:=aG.rowEq 0 [brow ai aj 5 (pre ++ [by8 ((m:Nat):Int)])] aI
 have aJ:=EnvOk.pick aH (ks:=[15,17,19]) (env':=[(15,.v (.slice A pre.length c)),(17,.v (.int .u8 (IntKind.u8.wrap ((m:Nat):Int)))),(19,.v (.slice ai (pre.length + 1) aj))]) kz
 have aK:=aJ.cast (env':=[(15,.v (.slice A pre.length c)),(17,.v (.int .u8 (IntKind.u8.wrap ((m:Nat):Int)))),(19,.v (.slice ai ((pre ++ [by8 ((m:Nat):Int)]).length) aj))]) (by simp only [List.length_append,List.length_cons,List.length_nil,Nat.zero_add])
 refine qak [5] [] [(2,.v (.slice ai ((pre ++ [by8 ((m:Nat):Int)]).length) aj))] ak aK fun ba aL=>?_
 refine qag (qab ?_)
 refine wp_ret (qaK aL ak.cells (v:=.slice ai ((pre ++ [by8 ((m:Nat):Int)]).length) aj) kz ?_)
 exact qbu ak (k:=0) rfl (by rw [← hp,qcZ (show m < 128 by omega),qjp])
theorem qew (flex null:Bool) (m sz:Nat) (hm:m ≤ 1099511627776) (hsz:sz ≤ 8) (w:World) :
  Calls Tryz.prog 106 #[.bool flex,.bool null,.int .i64 ((m:Nat):Int),.int .i64 ((sz:Nat):Int)] w (qez w 5 (qaw flex null m sz)):=by
 refine enter (n:=28) Tryz.func106 rfl Tryz.ntmps106 kz fun a hE=>?_
 have hW:=WOk.start w Nil
 refine qas [(0,.v (.bool flex)),(1,.v (.bool null)),(2,.v (.int .i64 ((m:Nat):Int))),(3,.v (.int .i64 ((sz:Nat):Int)))] hW hE fun a1 hE2=>?_
 refine wp_seq (wp_block (qaf [0,1,2,3,4] kz ?_))
 refine qak [0,1] [2,3,4] [(0,.v (.bool flex)),(1,.v (.bool null)),(2,.v (.int .i64 ((m:Nat):Int))),(3,.v (.int .i64 ((sz:Nat):Int))),(11,.v (.bool flex))] hW hE2 fun a3 hE4=>?_
 refine (Bool.eq_false_or_eq_true (flex)).elim (fun hc5=>?_) (fun hc5=>?_)
 ·
  have hE7:=hE4.cast (env':=[(0,.v (.bool true)),(1,.v (.bool null)),(2,.v (.int .i64 ((m:Nat):Int))),(3,.v (.int .i64 ((sz:Nat):Int))),(11,.v (.bool true))]) (by rw [hc5])
  refine qak [2,3,4] [] [(0,.v (.bool true)),(1,.v (.bool null)),(2,.v (.int .i64 ((m:Nat):Int))),(3,.v (.int .i64 ((sz:Nat):Int))),(9,.v (.bool null))] hW hE7 fun a8 hE9=>?_
  refine qag (qab ?_)
  refine qax hE9 (b:=null) kz (fun aa=>?_) (fun aa=>?_)
  ·
   refine qaf [0,1] kz ?_
   refine qan (qbB hW hE9 (e:=5) (size:=1) (len:=1) (cs:=[.int .u8 0]) (d:=14) kz kz fun ab bf bg aV aW aX am ao=>?_)
   have ap:(⟨some ⟨ab,0,none⟩,1,5,1,1,[.int .u8 0]⟩:Rw) = brow (some ⟨ab,0,none⟩) 1 5 [by8 0]:=by first | rfl | (simp only [brow,bc,List.map,qeV]; try rfl)
   obtain ⟨ac,aY⟩:=am.rowEq 0 [brow (some ⟨ab,0,none⟩) 1 5 [by8 0]] ap
   have ar:=EnvOk.pick ao (ks:=[0,1,2,3,9,14]) (env':=[(0,.v (.bool true)),(1,.v (.bool null)),(2,.v (.int .i64 ((m:Nat):Int))),(3,.v (.int .i64 ((sz:Nat):Int))),(9,.v (.bool null)),(14,.v (.slice (some ⟨ab,0,none⟩) 1 1))]) kz
   have au:=ar.cast (env':=[(0,.v (.bool true)),(1,.v (.bool null)),(2,.v (.int .i64 ((m:Nat):Int))),(3,.v (.int .i64 ((sz:Nat):Int))),(9,.v (.bool null)),(14,.v (.slice (some ⟨ab,0,none⟩) ([by8 0].length) 1))]) rfl
   refine qak [1] [] [(8,.v (.slice (some ⟨ab,0,none⟩) ([by8 0].length) 1))] ac au fun bh av=>?_
   refine qag (qab ?_)
   refine wp_ret (qaz (qat (qaK av ac.cells (v:=.slice (some ⟨ab,0,none⟩) ([by8 0].length) 1) kz ?_)))
   exact qbu ac (k:=0) rfl (by simp [qaw,hc5,aa]; try rfl)
  refine qas [(1,.v (.bool null)),(2,.v (.int .i64 ((m:Nat):Int))),(3,.v (.int .i64 ((sz:Nat):Int))),(15,.v (.bool true))] hW hE9 fun bi aj=>?_
  refine qa9 aj (b:=true) kz rfl ?_
  refine qaf [0,1,2,3,4] kz ?_
  refine qak [0,1,2] [3,4] [(19,.v (.int .u64 (IntKind.u64.wrap ((IntKind.u64.wrap ((m:Nat):Int)) + 1))))] hW aj fun bj aw=>?_
  have ax:IntKind.u64.wrap ((IntKind.u64.wrap ((m:Nat):Int)) + 1) = ((m + 1:Nat):Int):=by simp only [qc6,qaA,qbZ,IntKind.wrap_i64,IntKind.wrap_i32]; omega
  have ay:=EnvOk.pick aw (ks:=[19]) (env':=[(19,.v (.int .u64 (IntKind.u64.wrap ((IntKind.u64.wrap ((m:Nat):Int)) + 1))))]) kz
  have az:=ay
  rw [ax] at az
  refine qan (qal az (f:=64) (vs:=[.int .u64 ((m + 1:Nat):Int)]) (d:=20) kz Tryz.call64 (qev (m + 1) (by omega) _) ?_)
  rintro e_ bk ⟨aA,aB,rfl,aC,aD⟩
  refine ⟨_,rfl,fun bn aE=>?_⟩
  obtain ⟨ae,aZ⟩:=hW.frFresh aD (brow aA aB 5 (uv (m + 1))) (Nat.le_refl _) aC
  refine qak [4] [] [(8,.v (.slice aA ((uv (m + 1)).length) aB))] ae aE fun bo aF=>?_
  refine qag (qab ?_)
  refine wp_ret (qaz (qat (qaK aF ae.cells (v:=.slice aA ((uv (m + 1)).length) aB) kz ?_)))
  exact qbu ae (k:=0) rfl (by simp [qaw,hc5,aa]; try rfl)
 have aG:=hE4.cast (env':=[(0,.v (.bool false)),(1,.v (.bool null)),(2,.v (.int .i64 ((m:Nat):Int))),(3,.v (.int .i64 ((sz:Nat):Int))),(11,.v (.bool false))]) (by rw [hc5])
 refine qak [2,3,4] [] [(0,.v (.bool false)),(1,.v (.bool null)),(2,.v (.int .i64 ((m:Nat):Int))),(3,.v (.int .i64 ((sz:Nat):Int))),(9,.v (.bool false))] hW aG fun bp ak=>?_
 refine qag (qab ?_)
 refine qaq ak (b:=false) kz rfl ?_
 refine qas [(1,.v (.bool null)),(2,.v (.int .i64 ((m:Nat):Int))),(3,.v (.int .i64 ((sz:Nat):Int))),(15,.v (.bool false))] hW ak fun bq al=>?_
 refine qaq al (b:=false) kz rfl ?_
 refine qas [(2,.v (.int .i64 ((m:Nat):Int))),(3,.v (.int .i64 ((sz:Nat):Int))),(21,.v (.bool null))] hW al fun bt af=>?_
 refine qax af (b:=null) kz (fun ag=>?_) (fun ag=>?_)
 ·
  refine qaf [0,1,2] kz ?_
  refine qak [0] [1,2] [(23,.v (.int .i64 ((sz:Nat):Int)))] hW af fun bu aH=>?_
  refine qan (qal aH (f:=65) (vs:=[.int .i64 (-1),.int .i64 ((sz:Nat):Int)]) (d:=24) kz Tryz.call65 (qf0 (-1) sz (by first | decide | exact qbW _ | omega) _) ?_)
  rintro e_ bw ⟨aI,aJ,rfl,aK,aL⟩
  refine ⟨_,rfl,fun bx aM=>?_⟩
  obtain ⟨ah,ba⟩:=hW.frFresh aL (brow aI aJ 5 (be sz (-1))) (Nat.le_refl _) aK
  refine qak [2] [] [(8,.v (.slice aI ((be sz (-1)).length) aJ))] ah aM fun bz aN=>?_
  refine qag (qab ?_)
  refine wp_ret (qaz (qat (qaK aN ah.cells (v:=.slice aI ((be sz (-1)).length) aJ) kz ?_)))
  exact qbu ah (k:=0) rfl (by simp [qaw,hc5,ag]; try rfl)
 refine wp_skip (qav (qab (qaf [0,1,2,3] kz ?_)))
 refine qak [0,1] [2,3] [(25,.v (.int .i64 ((m:Nat):Int))),(26,.v (.int .i64 ((sz:Nat):Int)))] hW af fun bA aO=>?_
 refine qan (qal aO (f:=65) (vs:=[.int .i64 ((m:Nat):Int),.int .i64 ((sz:Nat):Int)]) (d:=27) kz Tryz.call65 (qf0 ((m:Nat):Int) sz (by first | decide | exact qbW _ | omega) _) ?_)
 rintro e_ bB ⟨aP,aQ,rfl,aR,aS⟩
 refine ⟨_,rfl,fun bC aT=>?_⟩
 obtain ⟨ai,bd⟩:=hW.frFresh aS (brow aP aQ 5 (be sz ((m:Nat):Int))) (Nat.le_refl _) aR
 refine qak [3] [] [(8,.v (.slice aP ((be sz ((m:Nat):Int)).length) aQ))] ai aT fun bD aU=>?_
 refine qag (qab ?_)
 refine wp_ret (qaK aU ai.cells (v:=.slice aP ((be sz ((m:Nat):Int)).length) aQ) kz ?_)
 exact qbu ai (k:=0) rfl (by simp [qaw,hc5,ag]; try rfl)
abbrev z10 :=([.int .i64 0,.int .i64 0,.int .i64 0,.int .i64 0,.int .i64 0,.int .i64 0,.int .i64 0,.slice none 0 0]:List Value)
theorem qk4 (A:Option Addr) (c:Nat) (l:List Fld) (w:World) (F:Nat → Nat → Prop) (hl:FldsR w F A c l) :
  Calls Tryz.prog 63 #[.slice A l.length c] w (qcI w (.int .u32 (qaD l))):=by
 obtain ⟨xfs,h1,h2⟩:=hl.ex
 have hsm:=h1.small
 refine enter (n:=23) Tryz.func63 rfl Tryz.ntmps63 kz fun a hE=>?_
 have hW:=WOk.start w Nil
 refine qas (z67 A l.length c) hW hE fun a1 hE2=>?_
 refine qas [(0,.v (.slice A l.length c)),(3,.v (.int .u32 0))] hW hE2 fun a3 hE4=>?_
 refine wp_seq (qas [(3,.v (.int .u32 0)),(6,.v (.slice A l.length c)),(7,.v (.int .i64 ((l.length:Nat):Int))),(8,.v (.int .i64 0))] hW hE4 fun a5 hE6=>?_)
 refine wp_block (wp_loop_ghost (fun n_ a_ w_=>∃ (k:Nat),n_ = l.length - k ∧ k ≤ l.length ∧ LInv hW 23 [] [] [(3,.v (.int .u32 (qaD (l.take k)))),(6,.v (.slice A l.length c)),(7,.v (.int .i64 ((l.length:Nat):Int))),(8,.v (.int .i64 ((k:Nat):Int)))] a_ w_) (l.length) ⟨0,by omega,by omega,hE6.pk,hW,Fr.refl _ _ _⟩ ?_)
 rintro n7 a8 w9 ⟨k,ba,bd,av,aa,ao⟩
 refine qas [(3,.v (.int .u32 (qaD (l.take k)))),(6,.v (.slice A l.length c)),(7,.v (.int .i64 ((l.length:Nat):Int))),(8,.v (.int .i64 ((k:Nat):Int))),(9,.v (.bool (decide (((k:Nat):Int) < ((l.length:Nat):Int)))))] aa av fun bt ag=>?_
 refine wp_seq (qax ag (b:=decide (((k:Nat):Int) < ((l.length:Nat):Int))) kz (fun ah=>?_) (fun ah=>?_))
 ·
  have bf:=zD ah
  refine wp_skip (qab (wp_seq (wp_block (qaf [0,1,2,3] kz ?_))))
  obtain ⟨bg,bh,aw,bi,ae⟩:=Slots.get h1 (i:=k) (by omega)
  obtain ⟨bj,ai⟩:∃ x,l[k]? = some x:=⟨_,List.getElem?_eq_getElem (by omega)⟩
  have ap:=h2 k bj ai
  obtain ⟨ax,ay,az,aA,ab,aB,aC,aD,aE,aF,bk,rfl,af,bn,bu⟩:=ap.open_
  rw [af] at ap
  have aZ:=bn.small
  rw [af] at ae
  refine qan (qaB ag (t:=29) (A:=A) (m:=l.length) (q:=((k:Nat):Int)) (d:=10) kz (e:=51) (size:=8) (bytes:=80) kz aw rfl (by omega) fun bw aG=>?_)
  refine qan (qaW aG (t:=51) (b:=bg) (o:=bh + k * 8) (d:=11) kz (cs:=(z6 ax ay az aA ab aB aC aE aD.length aF)) (v:=.agg #[.int .i64 ax,.int .i64 ay,.int .i64 az,.int .i64 aA,.int .i64 ab,.int .i64 aB,.int .i64 aC,.slice aE aD.length aF]) kz (AtF.move ae aa.step nilM qbi).at_ fun bx aH=>?_)
  refine qan (qaM aa aH (d:=5) (cs:=z10) kz fun bz bA bB bo bp ar aI aJ=>?_)
  refine qan (qao aI aJ (oi:=0) (cs:=(z6 ax ay az aA ab aB aC aE aD.length aF)) kz fun bC au ac aK=>?_)
  refine qag (qab ?_)
  refine qas [(3,.v (.int .u32 (qaD (l.take k)))),(5,.p 0 0),(6,.v (.slice A l.length c)),(7,.v (.int .i64 ((l.length:Nat):Int))),(8,.v (.int .i64 ((k:Nat):Int))),(14,.v (.bool (decide (ab ≥ 0))))] ac aK fun bD aj=>?_
  refine qax aj (b:=decide (ab ≥ 0)) kz (fun ak=>?_) (fun ak=>?_)
  ·
   have aL:=zD ak
   refine qau [0,1,2,3,4,5,6] kz ?_
   refine qak [0,1,2,3,4,5,6] [] [(3,.v (.int .u32 (if zU ((zU ab) + 1) > qaD (l.take k) then zU ((zU ab) + 1) else qaD (l.take k)))),(6,.v (.slice A l.length c)),(7,.v (.int .i64 ((l.length:Nat):Int))),(8,.v (.int .i64 ((k:Nat):Int)))] ac aj fun bE aM=>?_
   refine qag (qav (qab (qau [0,1] kz ?_)))
   refine qak [0,1] [] [(3,.v (.int .u32 (if zU ((zU ab) + 1) > qaD (l.take k) then zU ((zU ab) + 1) else qaD (l.take k)))),(6,.v (.slice A l.length c)),(7,.v (.int .i64 ((l.length:Nat):Int))),(8,.v (.int .i64 (IntKind.i64.wrap (((k:Nat):Int) + 1))))] ac aM fun bF aN=>?_
   refine qag (qab ?_)
   obtain ⟨al,aO,aP⟩:=ac.cutB aN 0 [] [(3,.v (.int .u32 (if zU ((zU ab) + 1) > qaD (l.take k) then zU ((zU ab) + 1) else qaD (l.take k)))),(6,.v (.slice A l.length c)),(7,.v (.int .i64 ((l.length:Nat):Int))),(8,.v (.int .i64 (IntKind.i64.wrap (((k:Nat):Int) + 1))))]
   have aQ:IntKind.i64.wrap (((k:Nat):Int) + 1) = ((k + 1:Nat):Int):=qaS (by omega)
   rw [aQ] at al
   have aR:(if zU ((zU ab) + 1) > qaD (l.take k) then zU ((zU ab) + 1) else qaD (l.take k)) = qaD (l.take (k + 1)):=qjr ai aL
   rw [aR] at al
   exact ⟨l.length - (k + 1),by omega,k + 1,rfl,by omega,al.pk,aO,(((ao.trans ar).trans au).trans aP)⟩
  have aS:=zF ak
  refine wp_skip (qav (qab (qau [0,1] kz ?_)))
  refine qak [0,1] [] [(3,.v (.int .u32 (qaD (l.take k)))),(6,.v (.slice A l.length c)),(7,.v (.int .i64 ((l.length:Nat):Int))),(8,.v (.int .i64 (IntKind.i64.wrap (((k:Nat):Int) + 1))))] ac aj fun bG aT=>?_
  refine qag (qab ?_)
  obtain ⟨am,aU,aV⟩:=ac.cutB aT 0 [] [(3,.v (.int .u32 (qaD (l.take k)))),(6,.v (.slice A l.length c)),(7,.v (.int .i64 ((l.length:Nat):Int))),(8,.v (.int .i64 (IntKind.i64.wrap (((k:Nat):Int) + 1))))]
  have aW:IntKind.i64.wrap (((k:Nat):Int) + 1) = ((k + 1:Nat):Int):=qaS (by omega)
  rw [aW] at am
  have aX:qaD (l.take k) = qaD (l.take (k + 1)):=qjs ai aS
  rw [aX] at am
  exact ⟨l.length - (k + 1),by omega,k + 1,rfl,by omega,am.pk,aU,(((ao.trans ar).trans au).trans aV)⟩
 have bq:=zF ah
 refine wp_exit (qay (qay (qaQ (qab (qas [(2,.v (.int .u32 (qaD (l.take k))))] aa ag fun bH aY=>?_)))))
 refine wp_ret (qaK aY aa.cells (v:=.int .u32 (qaD (l.take k))) kz ?_)
 exact ⟨by rw [List.take_of_length_le (by omega)],aa.step⟩
def qjX (d:Nat):Prop:=∀ (A:Option Addr) (c:Nat) (l:List Fld) (v:Int) (flex:Bool) (ct:List Value) (t:Tree) (w:World) (F:Nat → Nat → Prop),FldsR w F A c l → depths l ≤ d → TreeR w F ct t → (qa8 d l v flex t).length ≤ 1099511627776 →
  Calls Tryz.prog 29 #[.slice A l.length c,.int .i64 v,.bool flex,.agg ct.toArray] w (qez w 5 (qa8 d l v flex t))
theorem qjY {d:Nat} (hp:qjX d) (kind:Int) (A:Option Addr) (c:Nat) (l:List Fld) (null:Bool) (v:Int) (flex:Bool) (ct:List Value) (t:Tree) (w:World) (F:Nat → Nat → Prop) (hl:FldsR w F A c l) (hd:depths l ≤ d) (ht:TreeR w F ct t) (hroom:(qa0 (qa8 d l v flex) kind null flex t).length ≤ 1099511627776) :
  Calls Tryz.prog 107 #[.int .i64 kind,.slice A l.length c,.bool null,.int .i64 v,.bool flex,.agg ct.toArray] w (qez w 5 (qa0 (qa8 d l v flex) kind null flex t)):=by
 obtain ⟨n1,s2,b3,l4,u5,A6,c7,A8,c9,di,dj,ea,rfl,rfl,aX,eb,fD,fE⟩:=ht.open_
 have dN:=aX.small
 have dO:=eb.small
 have hl0:=hl
 obtain ⟨xfs,h1,h2⟩:=hl.ex
 have hsm:=h1.small
 refine enter (n:=70) Tryz.func107 rfl Tryz.ntmps107 kz fun a hE=>?_
 have hW:=WOk.start w Nil
 refine qaf [0,1] kz ?_
 refine qan (qby hW hE (d:=11) (cs:=(z1 n1 A6 s2.length c7 b3 A8 l4.length c9 di u5.length dj)) kz fun fF fG fH ec ee ef aa dl=>?_)
 refine qak [1] [] [(0,.v (.int .i64 kind)),(1,.v (.slice A l.length c)),(2,.v (.bool null)),(3,.v (.int .i64 v)),(4,.v (.bool flex)),(11,.p 0 0)] aa dl fun fI dp=>?_
 refine qag (qab ?_)
 refine wp_seq (qas [(0,.v (.int .i64 kind)),(1,.v (.slice A l.length c)),(2,.v (.bool null)),(3,.v (.int .i64 v)),(4,.v (.bool flex)),(11,.p 0 0),(16,.v (.int .i64 kind))] aa dp fun fJ dq=>?_)
 refine wp_block (qas [(0,.v (.int .i64 kind)),(1,.v (.slice A l.length c)),(2,.v (.bool null)),(3,.v (.int .i64 v)),(4,.v (.bool flex)),(11,.p 0 0),(16,.v (.int .i64 kind)),(17,.v (.bool (kind == 0)))] aa dq fun fK bk=>?_)
 refine qax bk (b:=kind == 0) kz (fun ac=>?_) (fun ac=>?_)
 ·
  have dr:kind = 0:=by simpa using ac
  refine qaf [0,1,2,3,4,5] kz ?_
  refine qak [0,1,2,3] [4,5] [(22,.v (.int .u8 (IntKind.u8.wrap (IntKind.i64.wrap (zB 64 n1 &&& zB 64 1).toNat))))] aa bk fun fL dt=>?_
  refine qan (qbB aa dt (e:=5) (size:=1) (len:=1) (cs:=[.int .u8 (IntKind.u8.wrap (IntKind.i64.wrap (zB 64 n1 &&& zB 64 1).toNat))]) (d:=23) kz kz fun bn fM fN eg eh ei du dv=>?_)
  have dw:(⟨some ⟨bn,0,none⟩,1,5,1,1,[.int .u8 (IntKind.u8.wrap (IntKind.i64.wrap (BitVec.ofInt 64 n1 &&& BitVec.ofInt 64 1).toNat))]⟩:Rw) = brow (some ⟨bn,0,none⟩) 1 5 [by8 (IntKind.i64.wrap (BitVec.ofInt 64 n1 &&& BitVec.ofInt 64 1).toNat)]:=by first | rfl | (simp only [brow,bc,List.map,qeV]; try rfl)
  obtain ⟨bo,ej⟩:=du.rowEq 0 [brow (some ⟨bn,0,none⟩) 1 5 [by8 (IntKind.i64.wrap (zB 64 n1 &&& zB 64 1).toNat)]] dw
  have dx:=EnvOk.pick dv (ks:=[22,23]) (env':=[(22,.v (.int .u8 (IntKind.u8.wrap (IntKind.i64.wrap (zB 64 n1 &&& zB 64 1).toNat)))),(23,.v (.slice (some ⟨bn,0,none⟩) 1 1))]) kz
  have dy:=dx.cast (env':=[(22,.v (.int .u8 (IntKind.u8.wrap (IntKind.i64.wrap (BitVec.ofInt 64 n1 &&& BitVec.ofInt 64 1).toNat)))),(23,.v (.slice (some ⟨bn,0,none⟩) ([by8 (IntKind.i64.wrap (BitVec.ofInt 64 n1 &&& BitVec.ofInt 64 1).toNat)].length) 1))]) rfl
  refine qak [5] [] [(12,.v (.slice (some ⟨bn,0,none⟩) ([by8 (IntKind.i64.wrap (zB 64 n1 &&& zB 64 1).toNat)].length) 1))] bo dy fun fO dz=>?_
  refine qag (qab ?_)
  refine wp_ret (qaz (qat (qaK dz bo.cells (v:=.slice (some ⟨bn,0,none⟩) ([by8 (IntKind.i64.wrap (zB 64 n1 &&& zB 64 1).toNat)].length) 1) kz ?_)))
  exact qbu bo (k:=0) rfl (by (try simp only [and1]); simp [qa0,Tree.S,Tree.N,dr,ac])
 have ak:kind ≠ 0:=by simpa using ac
 refine qas [(0,.v (.int .i64 kind)),(1,.v (.slice A l.length c)),(2,.v (.bool null)),(3,.v (.int .i64 v)),(4,.v (.bool flex)),(11,.p 0 0),(16,.v (.int .i64 kind)),(24,.v (.bool (kind == 7)))] aa bk fun fP bp=>?_
 refine qax bp (b:=kind == 7) kz (fun ae=>?_) (fun ae=>?_)
 ·
  have dA:kind = 7:=by simpa using ae
  refine qaf [0,1] kz ?_
  refine qan (qcU aa bp (d:=26) (j:=16) (t:=22) (e:=5) (bytes:=1) (z:=.int .u8 0) kz kz kz kz (rfl) (rfl) (by omega) fun aB fQ fR ek em eo aC dB=>?_)
  refine qak [1] [] [(11,.p 0 0),(13,.v (.slice (some ⟨aB,0,none⟩) 16 16))] aC dB fun fS dC=>?_
  refine qag (qab ?_)
  refine qaf [0,1,2,3] kz ?_
  refine qak [0,1,2] [3] [(13,.v (.slice (some ⟨aB,0,none⟩) 16 16)),(27,.v (.slice (some ⟨aB,0,none⟩) 16 16)),(29,.v (.slice A6 s2.length c7))] aC dC fun fT dD=>?_
  refine qan (qdb aC dD (k:=0) (d:=30) (t:=22) (u:=22) (e:=5) (bytes:=1) (A:=(some ⟨aB,0,none⟩)) (As:=A6) (m:=s2.length) (cs:=c7) (m0:=16) (c:=16) (xs:=(List.replicate 16 (.int .u8 0))) (news:=bc s2) kz kz rfl (aX.move aC.step nilM aC.imm).src fun fU fV ep dE dF=>?_)
  have dG:(⟨(some ⟨aB,0,none⟩),16,5,1,16,qbA (List.replicate 16 (.int .u8 0)) 0 ((bc s2).take (min s2.length 16))⟩:Rw) = brow (some ⟨aB,0,none⟩) 16 5 (qbF s2):=qeh _ _ _
  obtain ⟨bq,eu⟩:=dE.rowEq 0 [brow (some ⟨aB,0,none⟩) 16 5 (qbF s2)] dG
  have dH:=EnvOk.pick dF (ks:=[13,27,29,30]) (env':=[(13,.v (.slice (some ⟨aB,0,none⟩) 16 16)),(27,.v (.slice (some ⟨aB,0,none⟩) 16 16)),(29,.v (.slice A6 s2.length c7)),(30,.v (.int .i64 ((min s2.length 16:Nat):Int)))]) kz
  have dI:=dH.cast (env':=[(13,.v (.slice (some ⟨aB,0,none⟩) ((qbF s2).length) 16)),(27,.v (.slice (some ⟨aB,0,none⟩) ((qbF s2).length) 16)),(29,.v (.slice A6 s2.length c7)),(30,.v (.int .i64 ((min s2.length 16:Nat):Int)))]) (by rw [qbt _])
  refine qag (qab ?_)
  refine qas [(12,.v (.slice (some ⟨aB,0,none⟩) ((qbF s2).length) 16))] bq dI fun fW dJ=>?_
  refine wp_ret (qaz (qat (qaK dJ bq.cells (v:=.slice (some ⟨aB,0,none⟩) ((qbF s2).length) 16) kz ?_)))
  exact qbu bq (k:=0) rfl (by (try simp only [and1]); simp [qa0,Tree.S,Tree.N,ak,dA,ac,ae])
 have am:kind ≠ 7:=by simpa using ae
 refine qas [(0,.v (.int .i64 kind)),(1,.v (.slice A l.length c)),(2,.v (.bool null)),(3,.v (.int .i64 v)),(4,.v (.bool flex)),(11,.p 0 0),(16,.v (.int .i64 kind)),(32,.v (.bool (kind == 8)))] aa bp fun fX bt=>?_
 refine qax bt (b:=kind == 8) kz (fun ag=>?_) (fun ag=>?_)
 ·
  have bA:kind = 8:=by simpa using ag
  refine qaf [0,1,2,3] kz ?_
  refine qak [0,1] [2,3] [(2,.v (.bool null)),(4,.v (.bool flex)),(35,.v (.slice A6 s2.length c7))] aa bt fun fY dK=>?_
  have dP:=qbs s2
  refine qan (qal dK (f:=37) (vs:=[.slice A6 s2.length c7]) (d:=36) kz Tryz.call37 (qea _ _ s2 (aX.move aa.step nilM aa.imm).le _) ?_)
  rintro e_ fZ ⟨rfl,bB⟩
  refine ⟨_,rfl,fun f5 dL=>?_⟩
  have ao:=aa.next_nil bB
  have ev:=aa.frN bB
  refine qak [3] [] [(2,.v (.bool null)),(4,.v (.bool flex)),(14,.v (.slice A6 ((qaG s2).length) c7))] ao dL fun f7 bC=>?_
  refine qag (qab ?_)
  refine wp_seq (qas [(2,.v (.bool null)),(4,.v (.bool flex)),(14,.v (.slice A6 ((qaG s2).length) c7)),(37,.v (.bool null))] ao bC fun ew aD=>?_)
  refine qax aD (b:=null) kz (fun aE=>?_) (fun aE=>?_)
  ·
   refine qau [0] kz ?_
   refine qak [0] [] [(2,.v (.bool null)),(4,.v (.bool flex)),(14,.v (.slice none 0 0))] ao aD fun ey bD=>?_
   refine qag (qab ?_)
   refine qaf [0,1,2,3,4,5,6,7] kz ?_
   refine qak [0,1,2,3] [4,5,6,7] [(14,.v (.slice none 0 0)),(38,.v (.bool flex)),(39,.v (.bool null)),(41,.v (.int .i64 0))] ao bD fun ez bE=>?_
   refine qan (qal bE (f:=106) (vs:=[.bool flex,.bool null,.int .i64 0,.int .i64 2]) (d:=42) kz Tryz.call106 (qew flex null 0 2 (by first | omega | exact Nat.le_trans (qbs _) (by decide) | exact Nat.le_trans (qdg _) (by decide) | (simp; done) | (have:=hroom; omega)) (by first | decide | omega) _) ?_)
   rintro e_ eB ⟨aF,aG,rfl,bF,bG⟩
   refine ⟨_,rfl,fun eC bH=>?_⟩
   obtain ⟨aY,dQ⟩:=ao.frFresh bG (brow aF aG 5 (qaw flex null 0 2)) (Nat.le_refl _) bF
   refine qak [5] [6,7] [(42,.v (.slice aF ((qaw flex null 0 2).length) aG)),(43,.v (.slice none 0 0))] aY bH fun eD bI=>?_
   refine qan (qaR aY bI (k:=0) (d:=44) (t:=22) (e:=5) (size:=1) (bytes:=1) (A:=aF) (As:=none) (m0:=((qaw flex null 0 2).length)) (c:=aG) (m:=0) (cs:=0) (xs:=(bc (qaw flex null 0 2))) (news:=bc ([]:Bs)) kz kz rfl (Octs.nil _ (fun _ _=>True)).src (fun _=>rfl) (by first | exact qd6 (by omega) (by decide) (by omega) | exact qd6 (Nat.le_trans (qbs _) (by decide)) (by decide) (Nat.le_trans (qbs _) (by decide)) | (simp; done)) fun ap ar eE eF dR bJ bK=>?_)
   have bL:(⟨ap,ar,5,1,(qaw flex null 0 2).length + 0,bc (qaw flex null 0 2) ++ bc ([]:Bs)⟩:Rw) = brow ap ar 5 (qaw flex null 0 2 ++ ([]:Bs)):=qcn (rfl) rfl
   obtain ⟨aH,dS⟩:=bJ.rowEq 0 [brow ap ar 5 (qaw flex null 0 2 ++ ([]:Bs))] bL
   have bM:=EnvOk.pick bK (ks:=[42,43,44]) (env':=[(42,.v (.slice aF ((qaw flex null 0 2).length) aG)),(43,.v (.slice none 0 0)),(44,.v (.slice ap ((qaw flex null 0 2).length + 0) ar))]) kz
   have bN:=bM.cast (env':=[(42,.v (.slice aF ((qaw flex null 0 2).length) aG)),(43,.v (.slice none 0 0)),(44,.v (.slice ap ((qaw flex null 0 2 ++ ([]:Bs)).length) ar))]) (by simp only [List.length_append,List.length_cons,List.length_nil,Nat.zero_add])
   refine qak [7] [] [(12,.v (.slice ap ((qaw flex null 0 2 ++ ([]:Bs)).length) ar))] aH bN fun eG bO=>?_
   refine qag (qab ?_)
   refine wp_ret (qaz (qat (qaK bO aH.cells (v:=.slice ap ((qaw flex null 0 2 ++ ([]:Bs)).length) ar) kz ?_)))
   exact qbu aH (k:=0) rfl (by (try simp only [and1]); simp [qa0,Tree.S,Tree.N,ak,am,bA,ac,ae,ag,aE])
  refine wp_skip (qab (qaf [0,1,2,3,4,5,6,7] kz ?_))
  refine qak [0,1,2,3] [4,5,6,7] [(14,.v (.slice A6 ((qaG s2).length) c7)),(38,.v (.bool flex)),(39,.v (.bool null)),(41,.v (.int .i64 (((qaG s2).length:Nat):Int)))] ao aD fun eH bP=>?_
  refine qan (qal bP (f:=106) (vs:=[.bool flex,.bool null,.int .i64 (((qaG s2).length:Nat):Int),.int .i64 2]) (d:=42) kz Tryz.call106 (qew flex null ((qaG s2).length) 2 (by first | omega | exact Nat.le_trans (qbs _) (by decide) | exact Nat.le_trans (qdg _) (by decide) | (simp; done) | (have:=hroom; omega)) (by first | decide | omega) _) ?_)
  rintro e_ eI ⟨aI,aJ,rfl,bQ,bR⟩
  refine ⟨_,rfl,fun eJ bS=>?_⟩
  obtain ⟨ah,dT⟩:=ao.frFresh bR (brow aI aJ 5 (qaw flex null ((qaG s2).length) 2)) (Nat.le_refl _) bQ
  refine qak [5] [6,7] [(42,.v (.slice aI ((qaw flex null ((qaG s2).length) 2).length) aJ)),(43,.v (.slice A6 ((qaG s2).length) c7))] ah bS fun eK bT=>?_
  refine qan (qaR ah bT (k:=0) (d:=44) (t:=22) (e:=5) (size:=1) (bytes:=1) (A:=aI) (As:=A6) (m0:=((qaw flex null ((qaG s2).length) 2).length)) (c:=aJ) (m:=((qaG s2).length)) (cs:=c7) (xs:=(bc (qaw flex null ((qaG s2).length) 2))) (news:=bc (qaG s2)) kz kz rfl ((aX.take 32767).move ah.step nilM ah.imm).src ((aX.take 32767).move ah.step nilM ah.imm).cap (by first | exact qd6 (by omega) (by decide) (by omega) | exact qd6 (Nat.le_trans (qbs _) (by decide)) (by decide) (Nat.le_trans (qbs _) (by decide)) | (simp; done)) fun au av eL eM dU bU bV=>?_)
  have bW:(⟨au,av,5,1,(qaw flex null ((qaG s2).length) 2).length + (qaG s2).length,bc (qaw flex null ((qaG s2).length) 2) ++ bc (qaG s2)⟩:Rw) = brow au av 5 (qaw flex null ((qaG s2).length) 2 ++ (qaG s2)):=qcn (rfl) rfl
  obtain ⟨aK,dV⟩:=bU.rowEq 0 [brow au av 5 (qaw flex null ((qaG s2).length) 2 ++ (qaG s2))] bW
  have bX:=EnvOk.pick bV (ks:=[42,43,44]) (env':=[(42,.v (.slice aI ((qaw flex null ((qaG s2).length) 2).length) aJ)),(43,.v (.slice A6 ((qaG s2).length) c7)),(44,.v (.slice au ((qaw flex null ((qaG s2).length) 2).length + (qaG s2).length) av))]) kz
  have bY:=bX.cast (env':=[(42,.v (.slice aI ((qaw flex null ((qaG s2).length) 2).length) aJ)),(43,.v (.slice A6 ((qaG s2).length) c7)),(44,.v (.slice au ((qaw flex null ((qaG s2).length) 2 ++ (qaG s2)).length) av))]) (by simp only [List.length_append,List.length_cons,List.length_nil,Nat.zero_add])
  refine qak [7] [] [(12,.v (.slice au ((qaw flex null ((qaG s2).length) 2 ++ (qaG s2)).length) av))] aK bY fun eN bZ=>?_
  refine qag (qab ?_)
  refine wp_ret (qaz (qat (qaK bZ aK.cells (v:=.slice au ((qaw flex null ((qaG s2).length) 2 ++ (qaG s2)).length) av) kz ?_)))
  exact qbu aK (k:=0) rfl (by (try simp only [and1]); simp [qa0,Tree.S,Tree.N,ak,am,bA,ac,ae,ag,aE])
 have al:kind ≠ 8:=by simpa using ag
 refine qas [(0,.v (.int .i64 kind)),(1,.v (.slice A l.length c)),(2,.v (.bool null)),(3,.v (.int .i64 v)),(4,.v (.bool flex)),(11,.p 0 0),(16,.v (.int .i64 kind)),(45,.v (.bool (kind == 9)))] aa bt fun eO aL=>?_
 refine qax aL (b:=kind == 9) kz (fun ab=>?_) (fun ab=>?_)
 ·
  have aZ:kind = 9:=by simpa using ab
  refine qaf [0,1,2,3] kz ?_
  refine qak [0,1] [2,3] [(2,.v (.bool null)),(4,.v (.bool flex)),(48,.v (.slice A6 s2.length c7))] aa aL fun eP cd=>?_
  have dM:=qbs s2
  refine qan (qal cd (f:=37) (vs:=[.slice A6 s2.length c7]) (d:=49) kz Tryz.call37 (qea _ _ s2 (aX.move aa.step nilM aa.imm).le _) ?_)
  rintro e_ eQ ⟨rfl,ba⟩
  refine ⟨_,rfl,fun eR ce=>?_⟩
  have af:=aa.next_nil ba
  have dW:=aa.frN ba
  refine qak [3] [] [(2,.v (.bool null)),(4,.v (.bool flex)),(15,.v (.slice A6 ((qaG s2).length) c7))] af ce fun eS cm=>?_
  refine qag (qab ?_)
  refine wp_seq (qas [(2,.v (.bool null)),(4,.v (.bool flex)),(15,.v (.slice A6 ((qaG s2).length) c7)),(50,.v (.bool null))] af cm fun eU aM=>?_)
  refine qax aM (b:=null) kz (fun aN=>?_) (fun aN=>?_)
  ·
   refine qau [0] kz ?_
   refine qak [0] [] [(2,.v (.bool null)),(4,.v (.bool flex)),(15,.v (.slice none 0 0))] af aM fun eV cq=>?_
   refine qag (qab ?_)
   refine qaf [0,1,2,3,4,5,6,7] kz ?_
   refine qak [0,1,2,3] [4,5,6,7] [(15,.v (.slice none 0 0)),(51,.v (.bool flex)),(52,.v (.bool null)),(54,.v (.int .i64 0))] af cq fun eW cr=>?_
   refine qan (qal cr (f:=106) (vs:=[.bool flex,.bool null,.int .i64 0,.int .i64 4]) (d:=55) kz Tryz.call106 (qew flex null 0 4 (by first | omega | exact Nat.le_trans (qbs _) (by decide) | exact Nat.le_trans (qdg _) (by decide) | (simp; done) | (have:=hroom; omega)) (by first | decide | omega) _) ?_)
   rintro e_ eX ⟨aO,aP,rfl,cu,cw⟩
   refine ⟨_,rfl,fun eY cz=>?_⟩
   obtain ⟨bd,dX⟩:=af.frFresh cw (brow aO aP 5 (qaw flex null 0 4)) (Nat.le_refl _) cu
   refine qak [5] [6,7] [(55,.v (.slice aO ((qaw flex null 0 4).length) aP)),(56,.v (.slice none 0 0))] bd cz fun eZ cA=>?_
   refine qan (qaR bd cA (k:=0) (d:=57) (t:=22) (e:=5) (size:=1) (bytes:=1) (A:=aO) (As:=none) (m0:=((qaw flex null 0 4).length)) (c:=aP) (m:=0) (cs:=0) (xs:=(bc (qaw flex null 0 4))) (news:=bc ([]:Bs)) kz kz rfl (Octs.nil _ (fun _ _=>True)).src (fun _=>rfl) (by first | exact qd6 (by omega) (by decide) (by omega) | exact qd6 (Nat.le_trans (qbs _) (by decide)) (by decide) (Nat.le_trans (qbs _) (by decide)) | (simp; done)) fun aw ax e9 fb dY cB cC=>?_)
   have cD:(⟨aw,ax,5,1,(qaw flex null 0 4).length + 0,bc (qaw flex null 0 4) ++ bc ([]:Bs)⟩:Rw) = brow aw ax 5 (qaw flex null 0 4 ++ ([]:Bs)):=qcn (rfl) rfl
   obtain ⟨aQ,dZ⟩:=cB.rowEq 0 [brow aw ax 5 (qaw flex null 0 4 ++ ([]:Bs))] cD
   have cE:=EnvOk.pick cC (ks:=[55,56,57]) (env':=[(55,.v (.slice aO ((qaw flex null 0 4).length) aP)),(56,.v (.slice none 0 0)),(57,.v (.slice aw ((qaw flex null 0 4).length + 0) ax))]) kz
   have cG:=cE.cast (env':=[(55,.v (.slice aO ((qaw flex null 0 4).length) aP)),(56,.v (.slice none 0 0)),(57,.v (.slice aw ((qaw flex null 0 4 ++ ([]:Bs)).length) ax))]) (by simp only [List.length_append,List.length_cons,List.length_nil,Nat.zero_add])
   refine qak [7] [] [(12,.v (.slice aw ((qaw flex null 0 4 ++ ([]:Bs)).length) ax))] aQ cG fun fe cH=>?_
   refine qag (qab ?_)
   refine wp_ret (qaz (qat (qaK cH aQ.cells (v:=.slice aw ((qaw flex null 0 4 ++ ([]:Bs)).length) ax) kz ?_)))
   exact qbu aQ (k:=0) rfl (by (try simp only [and1]); simp [qa0,Tree.S,Tree.N,ak,am,al,aZ,ac,ae,ag,ab,aN])
  refine wp_skip (qab (qaf [0,1,2,3,4,5,6,7] kz ?_))
  refine qak [0,1,2,3] [4,5,6,7] [(15,.v (.slice A6 ((qaG s2).length) c7)),(51,.v (.bool flex)),(52,.v (.bool null)),(54,.v (.int .i64 (((qaG s2).length:Nat):Int)))] af aM fun ff cI=>?_
  refine qan (qal cI (f:=106) (vs:=[.bool flex,.bool null,.int .i64 (((qaG s2).length:Nat):Int),.int .i64 4]) (d:=55) kz Tryz.call106 (qew flex null ((qaG s2).length) 4 (by first | omega | exact Nat.le_trans (qbs _) (by decide) | exact Nat.le_trans (qdg _) (by decide) | (simp; done) | (have:=hroom; omega)) (by first | decide | omega) _) ?_)
  rintro e_ fg ⟨aR,aS,rfl,cJ,cK⟩
  refine ⟨_,rfl,fun fh cL=>?_⟩
  obtain ⟨ai,d5⟩:=af.frFresh cK (brow aR aS 5 (qaw flex null ((qaG s2).length) 4)) (Nat.le_refl _) cJ
  refine qak [5] [6,7] [(55,.v (.slice aR ((qaw flex null ((qaG s2).length) 4).length) aS)),(56,.v (.slice A6 ((qaG s2).length) c7))] ai cL fun fi cM=>?_
  refine qan (qaR ai cM (k:=0) (d:=57) (t:=22) (e:=5) (size:=1) (bytes:=1) (A:=aR) (As:=A6) (m0:=((qaw flex null ((qaG s2).length) 4).length)) (c:=aS) (m:=((qaG s2).length)) (cs:=c7) (xs:=(bc (qaw flex null ((qaG s2).length) 4))) (news:=bc (qaG s2)) kz kz rfl ((aX.take 32767).move ai.step nilM ai.imm).src ((aX.take 32767).move ai.step nilM ai.imm).cap (by first | exact qd6 (by omega) (by decide) (by omega) | exact qd6 (Nat.le_trans (qbs _) (by decide)) (by decide) (Nat.le_trans (qbs _) (by decide)) | (simp; done)) fun ay az fj fk d6 cN cO=>?_)
  have cP:(⟨ay,az,5,1,(qaw flex null ((qaG s2).length) 4).length + (qaG s2).length,bc (qaw flex null ((qaG s2).length) 4) ++ bc (qaG s2)⟩:Rw) = brow ay az 5 (qaw flex null ((qaG s2).length) 4 ++ (qaG s2)):=qcn (rfl) rfl
  obtain ⟨aT,d7⟩:=cN.rowEq 0 [brow ay az 5 (qaw flex null ((qaG s2).length) 4 ++ (qaG s2))] cP
  have cQ:=EnvOk.pick cO (ks:=[55,56,57]) (env':=[(55,.v (.slice aR ((qaw flex null ((qaG s2).length) 4).length) aS)),(56,.v (.slice A6 ((qaG s2).length) c7)),(57,.v (.slice ay ((qaw flex null ((qaG s2).length) 4).length + (qaG s2).length) az))]) kz
  have cR:=cQ.cast (env':=[(55,.v (.slice aR ((qaw flex null ((qaG s2).length) 4).length) aS)),(56,.v (.slice A6 ((qaG s2).length) c7)),(57,.v (.slice ay ((qaw flex null ((qaG s2).length) 4 ++ (qaG s2)).length) az))]) (by simp only [List.length_append,List.length_cons,List.length_nil,Nat.zero_add])
  refine qak [7] [] [(12,.v (.slice ay ((qaw flex null ((qaG s2).length) 4 ++ (qaG s2)).length) az))] aT cR fun fm cS=>?_
  refine qag (qab ?_)
  refine wp_ret (qaz (qat (qaK cS aT.cells (v:=.slice ay ((qaw flex null ((qaG s2).length) 4 ++ (qaG s2)).length) az) kz ?_)))
  exact qbu aT (k:=0) rfl (by (try simp only [and1]); simp [qa0,Tree.S,Tree.N,ak,am,al,aZ,ac,ae,ag,ab,aN])
 have aU:kind ≠ 9:=by simpa using ab
 refine qas [(0,.v (.int .i64 kind)),(1,.v (.slice A l.length c)),(3,.v (.int .i64 v)),(4,.v (.bool flex)),(11,.p 0 0),(58,.v (.bool (kind == 10)))] aa aL fun fo aV=>?_
 refine qax aV (b:=kind == 10) kz (fun aj=>?_) (fun aj=>?_)
 ·
  have bf:kind = 10:=by simpa using aj
  refine qaf [0,1,2,3,4,5] kz ?_
  refine qak [0,1,2,3] [4,5] [(60,.v (.slice A l.length c)),(61,.v (.int .i64 v)),(62,.v (.bool flex)),(63,.v (.agg #[.int .i64 n1,.slice A6 s2.length c7,.bool b3,.slice A8 l4.length c9,.slice di u5.length dj]))] aa aV fun fq cT=>?_
  refine qan (qal cT (f:=29) (vs:=[.slice A l.length c,.int .i64 v,.bool flex,.agg #[.int .i64 n1,.slice A6 s2.length c7,.bool b3,.slice A8 l4.length c9,.slice di u5.length dj]]) (d:=64) kz Tryz.call29 (hp _ _ l v flex _ (Tree.mk n1 s2 b3 l4 u5) _ _ ⟨xfs,(h1.move aa.step nilM aa.imm),(fun i_ x_ h_=>((h2 i_ x_ h_).move aa.step nilM aa.imm))⟩ hd (ht.move aa.step nilM aa.imm) (by simpa [qa0,ak,am,al,aU,bf,ac,ae,ag,ab,aj] using hroom)) ?_)
  rintro e_ fr ⟨bu,bw,rfl,cU,cV⟩
  refine ⟨_,rfl,fun ft cW=>?_⟩
  obtain ⟨aW,d8⟩:=aa.frFresh cV (brow bu bw 5 (qa8 d l v flex (Tree.mk n1 s2 b3 l4 u5))) (Nat.le_refl _) cU
  refine qak [5] [] [(12,.v (.slice bu ((qa8 d l v flex (Tree.mk n1 s2 b3 l4 u5)).length) bw))] aW cW fun fv cX=>?_
  refine qag (qab ?_)
  refine wp_ret (qaz (qat (qaK cX aW.cells (v:=.slice bu ((qa8 d l v flex (Tree.mk n1 s2 b3 l4 u5)).length) bw) kz ?_)))
  exact qbu aW (k:=0) rfl (by (try simp only [and1]); simp [qa0,Tree.S,Tree.N,ak,am,al,aU,bf,ac,ae,ag,ab,aj])
 have cY:kind ≠ 10:=by simpa using aj
 refine wp_skip (qav (qab (qaE 5 kz aa fun fw d9 bg cZ=>?_)))
 refine qaF [0,1,2] [(66,.v (.int .i64 n1)),(67,.v (.int .i64 kind))] 3 (qaa qae) (fun _ h=>h.cells) cZ aV fun fx c5=>?_
 refine qap (i:=3) kz (qal c5 (f:=66) (vs:=[.int .i64 kind]) (d:=68) kz Tryz.call66 (qjW kind _) ?_)
 rintro e_ fy ⟨rfl,bh⟩
 refine ⟨_,rfl,fun fz c6=>?_⟩
 have bi:=bg.next_nil bh
 have bj:=bg.frN bh
 have da:=TT.ofW bj bi
 refine ⟨fun _=>da,?_⟩
 refine qap (i:=4) kz (qal c6 (f:=65) (vs:=[.int .i64 n1,.int .i64 ((qbN kind:Nat):Int)]) (d:=69) kz Tryz.call65 (qf0 n1 (qbN kind) (by first | decide | exact qbW _ | omega) _) ?_)
 rintro e_ fA ⟨bx,bz,rfl,db,dc⟩
 refine ⟨_,rfl,fun fB de=>?_⟩
 obtain ⟨aA,df⟩:=bi.frFresh dc (brow bx bz 5 (be (qbN kind) n1)) (Nat.le_refl _) db
 have dg:=TT.ofW (bj.trans df) aA
 refine ⟨fun _=>dg,?_⟩
 refine qap (i:=5) kz (qbq [12] aA.cells de (env':=[(12,.v (.slice bx ((be (qbN kind) n1).length) bz))]) kz fun fC dh=>?_)
 refine ⟨fun h=>absurd rfl h,?_⟩
 refine qaC kz ?_ _
 refine qab (wp_ret (qaK dh aA.cells (v:=.slice bx ((be (qbN kind) n1).length) bz) kz ?_))
 exact qbu aA (k:=0) rfl (by (try simp only [and1]); simp [qa0,Tree.S,Tree.N,ak,am,al,aU,cY,ac,ae,ag,ab,aj])
theorem ql1 {d:Nat} (hp:qjX d) (cf:List Value) (f:Fld) (v:Int) (flex:Bool) (ct:List Value) (t:Tree) (w:World) (F:Nat → Nat → Prop) (hf:FldR w F cf f) (hd:depths f.sub ≤ d) (ht:TreeR w F ct t) (hroom:(qde d f v flex t).length ≤ 1099511627776) :
  Calls Tryz.prog 62 #[.agg cf.toArray,.int .i64 v,.bool flex,.agg ct.toArray] w (qez w 5 (qde d f v flex t)):=by
 obtain ⟨n1,s2,b3,l4,u5,A6,c7,A8,c9,aK,aL,eZ,rfl,rfl,e9,dX,fb,gt⟩:=ht.open_
 have ew:=e9.small
 have ey:=dX.small
 obtain ⟨ac,af,ag,ae,ah,ai,ab,aa,ay,az,bw,rfl,rfl,cd,dW⟩:=hf.open_
 have ez:=cd.small
 refine enter (n:=76) Tryz.func62 rfl Tryz.ntmps62 kz fun a hE=>?_
 have hW:=WOk.start w Nil
 refine qaf [0,1,2] kz ?_
 refine qan (qby hW hE (d:=4) (cs:=(z6 ac af ag ae ah ai ab ay aa.length az)) kz fun eB gv gw fe ff fg dY dZ=>?_)
 refine qan (qby dY dZ (d:=7) (cs:=(z1 n1 A6 s2.length c7 b3 A8 l4.length c9 aK u5.length aL)) kz fun eC gx gy fh fi fj bx d5=>?_)
 refine qak [2] [] [(1,.v (.int .i64 v)),(2,.v (.bool flex)),(4,.p 0 0),(7,.p 1 0)] bx d5 fun gz d6=>?_
 refine qag (qab ?_)
 refine qaf [0,1,2,3,4] kz ?_
 refine qak [0,1,2] [3,4] [(1,.v (.int .i64 v)),(2,.v (.bool flex)),(4,.p 0 0),(7,.p 1 0),(13,.v (.agg #[.int .i64 ac,.int .i64 af,.int .i64 ag,.int .i64 ae,.int .i64 ah,.int .i64 ai,.int .i64 ab,.slice ay aa.length az])),(14,.v (.int .i64 v)),(15,.v (.agg #[.int .i64 n1,.slice A6 s2.length c7,.bool b3,.slice A8 l4.length c9,.slice aK u5.length aL]))] bx d6 fun gA d7=>?_
 refine qan (qal d7 (f:=67) (vs:=[.agg #[.int .i64 ac,.int .i64 af,.int .i64 ag,.int .i64 ae,.int .i64 ah,.int .i64 ai,.int .i64 ab,.slice ay aa.length az],.int .i64 v,.agg #[.int .i64 n1,.slice A6 s2.length c7,.bool b3,.slice A8 l4.length c9,.slice aK u5.length aL]]) (d:=16) kz Tryz.call67 (qlv ac af ag ae ah ai ab aa _ _ v n1 s2 b3 l4 u5 _ _ _ _ _ _ _) ?_)
 rintro e_ gB ⟨rfl,ce⟩
 refine ⟨_,rfl,fun gC d8=>?_⟩
 have aj:=bx.next_nil ce
 have fk:=bx.frN ce
 refine qak [4] [] [(1,.v (.int .i64 v)),(2,.v (.bool flex)),(4,.p 0 0),(7,.p 1 0),(9,.v (.bool (z4 ac af ag ae ah ai ab aa v n1 s2 b3 l4 u5)))] aj d8 fun gD d9=>?_
 refine qag (qab ?_)
 refine wp_seq (qas [(1,.v (.int .i64 v)),(2,.v (.bool flex)),(4,.p 0 0),(7,.p 1 0),(9,.v (.bool (z4 ac af ag ae ah ai ab aa v n1 s2 b3 l4 u5))),(19,.v (.bool (ac == 11)))] aj d9 fun gE bM=>?_)
 refine qax bM (b:=ac == 11) kz (fun bN=>?_) (fun bN=>?_)
 ·
  have fm:ac = 11:=by simpa using bN
  refine qaf [0,1,2,3] kz ?_
  refine qak [0,1] [2,3] [(1,.v (.int .i64 v)),(2,.v (.bool flex)),(4,.p 0 0),(9,.v (.bool (z4 ac af ag ae ah ai ab aa v n1 s2 b3 l4 u5))),(21,.v (.slice A8 l4.length c9))] aj bM fun gF ea=>?_
  refine qan (qal ea (f:=68) (vs:=[.slice A8 l4.length c9]) (d:=22) kz Tryz.call68 (qgO _ _ l4 (dX.move aj.step nilM aj.imm).le _) ?_)
  rintro e_ gG ⟨rfl,cm⟩
  refine ⟨_,rfl,fun gH eb=>?_⟩
  have aB:=aj.next_nil cm
  have fo:=aj.frN cm
  refine qak [3] [] [(1,.v (.int .i64 v)),(2,.v (.bool flex)),(4,.p 0 0),(9,.v (.bool (z4 ac af ag ae ah ai ab aa v n1 s2 b3 l4 u5))),(10,.v (.slice A8 ((qar l4).length) c9))] aB eb fun gI ec=>?_
  refine qag (qab ?_)
  refine wp_seq (qas [(1,.v (.int .i64 v)),(2,.v (.bool flex)),(4,.p 0 0),(9,.v (.bool (z4 ac af ag ae ah ai ab aa v n1 s2 b3 l4 u5))),(10,.v (.slice A8 ((qar l4).length) c9)),(23,.v (.bool (z4 ac af ag ae ah ai ab aa v n1 s2 b3 l4 u5)))] aB ec fun gJ bO=>?_)
  refine qax bO (b:=Fld.nul (Fld.mk ac af ag ae ah ai ab aa) v (Tree.mk n1 s2 b3 l4 u5)) kz (fun ee=>?_) (fun ee=>?_)
  ·
   refine qau [0] kz ?_
   refine qak [0] [] [(1,.v (.int .i64 v)),(2,.v (.bool flex)),(4,.p 0 0),(9,.v (.bool (z4 ac af ag ae ah ai ab aa v n1 s2 b3 l4 u5))),(10,.v (.slice none 0 0))] aB bO fun gK ef=>?_
   refine qag (qab ?_)
   refine qaf [0,1,2,3,4,5] kz ?_
   refine qak [0,1,2,3] [4,5] [(1,.v (.int .i64 v)),(2,.v (.bool flex)),(4,.p 0 0),(10,.v (.slice none 0 0)),(24,.v (.bool flex)),(25,.v (.bool (z4 ac af ag ae ah ai ab aa v n1 s2 b3 l4 u5))),(27,.v (.int .i64 0))] aB ef fun gL eg=>?_
   refine qan (qal eg (f:=106) (vs:=[.bool flex,.bool (Fld.nul (Fld.mk ac af ag ae ah ai ab aa) v (Tree.mk n1 s2 b3 l4 u5)),.int .i64 0,.int .i64 4]) (d:=28) kz Tryz.call106 (qew flex (Fld.nul (Fld.mk ac af ag ae ah ai ab aa) v (Tree.mk n1 s2 b3 l4 u5)) 0 4 (by first | omega | exact Nat.le_trans (qbs _) (by decide) | exact Nat.le_trans (qdg _) (by decide) | (simp; done) | (have:=hroom; omega)) (by first | decide | omega) _) ?_)
   rintro e_ gM ⟨bY,bZ,rfl,eh,ei⟩
   refine ⟨_,rfl,fun gN ej=>?_⟩
   obtain ⟨bP,fq⟩:=aB.frFresh ei (brow bY bZ 5 (qaw flex (z4 ac af ag ae ah ai ab aa v n1 s2 b3 l4 u5) 0 4)) (Nat.le_refl _) eh
   refine qak [5] [] [(1,.v (.int .i64 v)),(2,.v (.bool flex)),(4,.p 0 0),(10,.v (.slice none 0 0)),(11,.v (.slice bY ((qaw flex (z4 ac af ag ae ah ai ab aa v n1 s2 b3 l4 u5) 0 4).length) bZ))] bP ej fun gO ek=>?_
   refine qag (qab ?_)
   refine wp_seq (qas [(1,.v (.int .i64 v)),(2,.v (.bool flex)),(4,.p 0 0),(10,.v (.slice none 0 0)),(11,.v (.slice bY ((qaw flex (z4 ac af ag ae ah ai ab aa v n1 s2 b3 l4 u5) 0 4).length) bZ)),(30,.v (.int .i64 0)),(31,.v (.int .i64 0))] bP ek fun gP cq=>?_)
   refine wp_block ?_
   have hr2:(qaw flex (Fld.nul (Fld.mk ac af ag ae ah ai ab aa) v (Tree.mk n1 s2 b3 l4 u5)) 0 4 ++ ([]:List Tree).flatMap (qa0 (qa8 d aa v flex) ab false flex)).length ≤ 1099511627776:=by have h_:=hroom; rw [qgk ‹_› ‹_›] at h_; exact h_
   rw [List.length_append] at hr2
   have hr3:=qdh ([]:List Tree) (qa0 (qa8 d aa v flex) ab false flex)
   have cr:(qaw flex (Fld.nul (Fld.mk ac af ag ae ah ai ab aa) v (Tree.mk n1 s2 b3 l4 u5)) 0 4) = (qaw flex (Fld.nul (Fld.mk ac af ag ae ah ai ab aa) v (Tree.mk n1 s2 b3 l4 u5)) 0 4 ++ (([]:List Tree).take 0).flatMap (qa0 (qa8 d aa v flex) ab false flex)):=by simp
   have cu:=congrArg (brow bY bZ 5) cr
   obtain ⟨bB,eD⟩:=bP.rowEq 0 [brow bY bZ 5 (qaw flex (z4 ac af ag ae ah ai ab aa v n1 s2 b3 l4 u5) 0 4 ++ (([]:List Tree).take 0).flatMap (qa0 (qa8 d aa v flex) ab false flex))] cu
   rw [cr] at cq
   refine wp_loop_ghost (fun n_ a_ w_=>∃ (k:Nat) (A_:Option Addr) (c_:Nat),n_ = 0 - k ∧ k ≤ 0 ∧ LInv bB 76 [⟨eB,0,[.int .i64 ac,.int .i64 af,.int .i64 ag,.int .i64 ae,.int .i64 ah,.int .i64 ai,.int .i64 ab,.slice ay aa.length az],true⟩,⟨eC,0,[.int .i64 n1,.slice A6 s2.length c7,.bool b3,.slice A8 l4.length c9,.slice aK u5.length aL],true⟩] [brow A_ c_ 5 (qaw flex (Fld.nul (Fld.mk ac af ag ae ah ai ab aa) v (Tree.mk n1 s2 b3 l4 u5)) 0 4 ++ (([]:List Tree).take k).flatMap (qa0 (qa8 d aa v flex) ab false flex))] [(1,.v (.int .i64 v)),(2,.v (.bool flex)),(4,.p 0 0),(10,.v (.slice none 0 0)),(11,.v (.slice A_ ((qaw flex (Fld.nul (Fld.mk ac af ag ae ah ai ab aa) v (Tree.mk n1 s2 b3 l4 u5)) 0 4 ++ (([]:List Tree).take k).flatMap (qa0 (qa8 d aa v flex) ab false flex)).length) c_)),(30,.v (.int .i64 0)),(31,.v (.int .i64 ((k:Nat):Int)))] a_ w_) (0) ⟨0,bY,bZ,by omega,by omega,cq.pk,bB,Fr.refl _ _ _⟩ ?_
   rintro fr ft fv ⟨k,A_,c_,eE,eF,cw,aE,eG⟩
   refine qas [(1,.v (.int .i64 v)),(2,.v (.bool flex)),(4,.p 0 0),(10,.v (.slice none 0 0)),(11,.v (.slice A_ ((qaw flex (z4 ac af ag ae ah ai ab aa v n1 s2 b3 l4 u5) 0 4 ++ (([]:List Tree).take k).flatMap (qa0 (qa8 d aa v flex) ab false flex)).length) c_)),(30,.v (.int .i64 0)),(31,.v (.int .i64 ((k:Nat):Int))),(32,.v (.bool (decide (((k:Nat):Int) < 0))))] aE cw fun fw bC=>?_
   refine wp_seq (qaq bC (b:=decide (((k:Nat):Int) < 0)) kz (decide_eq_false (by omega)) ?_)
   refine wp_exit (qay (qay (qaQ (qab (qas [(8,.v (.slice A_ ((qaw flex (z4 ac af ag ae ah ai ab aa v n1 s2 b3 l4 u5) 0 4 ++ (([]:List Tree).take k).flatMap (qa0 (qa8 d aa v flex) ab false flex)).length) c_))] aE bC fun fx cz=>?_)))))
   refine wp_ret (qat (qaK cz aE.cells (v:=.slice A_ ((qaw flex (z4 ac af ag ae ah ai ab aa v n1 s2 b3 l4 u5) 0 4 ++ (([]:List Tree).take k).flatMap (qa0 (qa8 d aa v flex) ab false flex)).length) c_) kz ?_))
   exact qbu aE (k:=0) rfl (by rw [qgk ‹_› ‹_›]; simp)
  refine wp_skip (qab (qaf [0,1,2,3,4,5] kz ?_))
  refine qak [0,1,2,3] [4,5] [(1,.v (.int .i64 v)),(2,.v (.bool flex)),(4,.p 0 0),(10,.v (.slice A8 ((qar l4).length) c9)),(24,.v (.bool flex)),(25,.v (.bool (z4 ac af ag ae ah ai ab aa v n1 s2 b3 l4 u5))),(27,.v (.int .i64 (((qar l4).length:Nat):Int)))] aB bO fun fy cA=>?_
  refine qan (qal cA (f:=106) (vs:=[.bool flex,.bool (Fld.nul (Fld.mk ac af ag ae ah ai ab aa) v (Tree.mk n1 s2 b3 l4 u5)),.int .i64 (((qar l4).length:Nat):Int),.int .i64 4]) (d:=28) kz Tryz.call106 (qew flex (Fld.nul (Fld.mk ac af ag ae ah ai ab aa) v (Tree.mk n1 s2 b3 l4 u5)) ((qar l4).length) 4 (by first | omega | exact Nat.le_trans (qbs _) (by decide) | exact Nat.le_trans (qdg _) (by decide) | (simp; done) | (have:=hroom; omega)) (by first | decide | omega) _) ?_)
  rintro e_ fz ⟨aM,aN,rfl,cB,cC⟩
  refine ⟨_,rfl,fun fA cD=>?_⟩
  obtain ⟨aO,eH⟩:=aB.frFresh cC (brow aM aN 5 (qaw flex (z4 ac af ag ae ah ai ab aa v n1 s2 b3 l4 u5) ((qar l4).length) 4)) (Nat.le_refl _) cB
  refine qak [5] [] [(1,.v (.int .i64 v)),(2,.v (.bool flex)),(4,.p 0 0),(10,.v (.slice A8 ((qar l4).length) c9)),(11,.v (.slice aM ((qaw flex (z4 ac af ag ae ah ai ab aa v n1 s2 b3 l4 u5) ((qar l4).length) 4).length) aN))] aO cD fun fB cE=>?_
  refine qag (qab ?_)
  refine wp_seq (qas [(1,.v (.int .i64 v)),(2,.v (.bool flex)),(4,.p 0 0),(10,.v (.slice A8 ((qar l4).length) c9)),(11,.v (.slice aM ((qaw flex (z4 ac af ag ae ah ai ab aa v n1 s2 b3 l4 u5) ((qar l4).length) 4).length) aN)),(30,.v (.int .i64 (((qar l4).length:Nat):Int))),(31,.v (.int .i64 0))] aO cE fun fC bD=>?_)
  refine wp_block ?_
  have hr2:(qaw flex (Fld.nul (Fld.mk ac af ag ae ah ai ab aa) v (Tree.mk n1 s2 b3 l4 u5)) ((qar l4).length) 4 ++ (qar l4).flatMap (qa0 (qa8 d aa v flex) ab false flex)).length ≤ 1099511627776:=by have h_:=hroom; rw [qhc ‹_› ‹_›] at h_; exact h_
  rw [List.length_append] at hr2
  have hr3:=qdh (qar l4) (qa0 (qa8 d aa v flex) ab false flex)
  have hsm3:(qar l4).length ≤ 32767:=by simp only [qar,List.length_take]; omega
  have bE:(qaw flex (Fld.nul (Fld.mk ac af ag ae ah ai ab aa) v (Tree.mk n1 s2 b3 l4 u5)) ((qar l4).length) 4) = (qaw flex (Fld.nul (Fld.mk ac af ag ae ah ai ab aa) v (Tree.mk n1 s2 b3 l4 u5)) ((qar l4).length) 4 ++ ((qar l4).take 0).flatMap (qa0 (qa8 d aa v flex) ab false flex)):=by simp
  have cG:=congrArg (brow aM aN 5) bE
  obtain ⟨bF,eI⟩:=aO.rowEq 0 [brow aM aN 5 (qaw flex (z4 ac af ag ae ah ai ab aa v n1 s2 b3 l4 u5) ((qar l4).length) 4 ++ ((qar l4).take 0).flatMap (qa0 (qa8 d aa v flex) ab false flex))] cG
  rw [bE] at bD
  refine wp_loop_ghost (fun n_ a_ w_=>∃ (k:Nat) (A_:Option Addr) (c_:Nat),n_ = (qar l4).length - k ∧ k ≤ (qar l4).length ∧ LInv bF 76 [⟨eB,0,[.int .i64 ac,.int .i64 af,.int .i64 ag,.int .i64 ae,.int .i64 ah,.int .i64 ai,.int .i64 ab,.slice ay aa.length az],true⟩,⟨eC,0,[.int .i64 n1,.slice A6 s2.length c7,.bool b3,.slice A8 l4.length c9,.slice aK u5.length aL],true⟩] [brow A_ c_ 5 (qaw flex (Fld.nul (Fld.mk ac af ag ae ah ai ab aa) v (Tree.mk n1 s2 b3 l4 u5)) ((qar l4).length) 4 ++ ((qar l4).take k).flatMap (qa0 (qa8 d aa v flex) ab false flex))] [(1,.v (.int .i64 v)),(2,.v (.bool flex)),(4,.p 0 0),(10,.v (.slice A8 ((qar l4).length) c9)),(11,.v (.slice A_ ((qaw flex (Fld.nul (Fld.mk ac af ag ae ah ai ab aa) v (Tree.mk n1 s2 b3 l4 u5)) ((qar l4).length) 4 ++ ((qar l4).take k).flatMap (qa0 (qa8 d aa v flex) ab false flex)).length) c_)),(30,.v (.int .i64 (((qar l4).length:Nat):Int))),(31,.v (.int .i64 ((k:Nat):Int)))] a_ w_) ((qar l4).length) ⟨0,aM,aN,by omega,by omega,bD.pk,bF,Fr.refl _ _ _⟩ ?_
  rintro fD fE fF ⟨k,A_,c_,eJ,eK,cH,ax,cI⟩
  refine qas [(1,.v (.int .i64 v)),(2,.v (.bool flex)),(4,.p 0 0),(10,.v (.slice A8 ((qar l4).length) c9)),(11,.v (.slice A_ ((qaw flex (z4 ac af ag ae ah ai ab aa v n1 s2 b3 l4 u5) ((qar l4).length) 4 ++ ((qar l4).take k).flatMap (qa0 (qa8 d aa v flex) ab false flex)).length) c_)),(30,.v (.int .i64 (((qar l4).length:Nat):Int))),(31,.v (.int .i64 ((k:Nat):Int))),(32,.v (.bool (decide (((k:Nat):Int) < (((qar l4).length:Nat):Int)))))] ax cH fun fG aP=>?_
  refine wp_seq (qax aP (b:=decide (((k:Nat):Int) < (((qar l4).length:Nat):Int))) kz (fun aQ=>?_) (fun aQ=>?_))
  ·
   have eL:=zD aQ
   refine wp_skip (qab (wp_seq (wp_block (qas [(1,.v (.int .i64 v)),(2,.v (.bool flex)),(4,.p 0 0),(10,.v (.slice A8 ((qar l4).length) c9)),(11,.v (.slice A_ ((qaw flex (z4 ac af ag ae ah ai ab aa v n1 s2 b3 l4 u5) ((qar l4).length) 4 ++ ((qar l4).take k).flatMap (qa0 (qa8 d aa v flex) ab false flex)).length) c_)),(12,.v (.int .i64 ((k:Nat):Int))),(30,.v (.int .i64 (((qar l4).length:Nat):Int))),(31,.v (.int .i64 ((k:Nat):Int)))] ax aP fun fH cJ=>?_))))
   refine qcE 13 kz ax fun fI cK ar aR=>?_
   refine qaF [0,1,2,3,4,5,6,7,8] [(1,.v (.int .i64 v)),(2,.v (.bool flex)),(4,.p 0 0),(10,.v (.slice A8 ((qar l4).length) c9)),(11,.v (.slice A_ ((qaw flex (z4 ac af ag ae ah ai ab aa v n1 s2 b3 l4 u5) ((qar l4).length) 4 ++ ((qar l4).take k).flatMap (qa0 (qa8 d aa v flex) ab false flex)).length) c_)),(30,.v (.int .i64 (((qar l4).length:Nat):Int))),(31,.v (.int .i64 ((k:Nat):Int))),(34,.v (.slice A_ ((qaw flex (z4 ac af ag ae ah ai ab aa v n1 s2 b3 l4 u5) ((qar l4).length) 4 ++ ((qar l4).take k).flatMap (qa0 (qa8 d aa v flex) ab false flex)).length) c_)),(36,.v (.int .i64 ab)),(38,.v (.slice ay aa.length az)),(39,.v (.int .i64 v)),(40,.v (.bool flex)),(41,.v (.slice A8 ((qar l4).length) c9)),(42,.v (.int .i64 ((k:Nat):Int)))] 5 (qac (qaa (qaa (qac (qaa (qaa qae)))))) (fun _ h=>h.cells) aR cJ fun fJ cL=>?_
   obtain ⟨bQ,bR,cM,eM,aS⟩:=Slots.get (qdt dX) (i:=k) (by omega)
   obtain ⟨em,aF⟩:∃ x,(qar l4)[k]? = some x:=⟨_,List.getElem?_eq_getElem (by omega)⟩
   have aT:=(qdP fb) k em aF
   obtain ⟨ak,al,am,ao,ap,aU,aV,aW,aX,aY,aZ,eN,rfl,ba,eo,ep,fK,fL⟩:=aT.open_
   rw [ba] at aT
   have eu:=eo.small
   have ev:=ep.small
   rw [ba] at aS
   refine qaH cL (i:=9) (t:=23) (A:=A8) (m:=((qar l4).length)) (q:=((k:Nat):Int)) (d:=43) kz (e:=26) (size:=5) (bytes:=88) kz cM rfl (by omega) kz kz (qac (qaa (qaa (qac (qaa (qaa qae)))))) aR fun fM cN=>?_
   refine qbl cN (i:=10) (t:=26) (b:=bQ) (o:=bR + k * 5) (d:=44) kz (cs:=(z1 ak aU al.length aV am aW ao.length aX aY ap.length aZ)) (v:=.agg #[.int .i64 ak,.slice aU al.length aV,.bool am,.slice aW ao.length aX,.slice aY ap.length aZ]) kz (fun w' h'=>(AtF.move aS (TT.step0 ar h') nilM qbi).at_) kz kz (qac (qaa (qaa (qac (qaa (qaa qae)))))) aR fun fN cO=>?_
   refine qap (i:=11) kz (qal cO (f:=107) (vs:=[.int .i64 ab,.slice ay aa.length az,.bool false,.int .i64 v,.bool flex,.agg #[.int .i64 ak,.slice aU al.length aV,.bool am,.slice aW ao.length aX,.slice aY ap.length aZ]]) (d:=45) kz Tryz.call107 (qjY hp ab _ _ aa false v flex _ (Tree.mk ak al am ao ap) _ _ ⟨bw,(cd.move ar.step nilM ar.imm),(fun i_ x_ h_=>((dW i_ x_ h_).move ar.step nilM ar.imm))⟩ hd (aT.move ar.step nilM ar.imm) (by have:=qgj (g:=qa0 (qa8 d aa v flex) ab false flex) aF; omega)) ?_)
   rintro e_ fO ⟨bd,bf,rfl,cP,cQ⟩
   refine ⟨_,rfl,fun fP cR=>?_⟩
   obtain ⟨aG,bg⟩:=ar.frFresh cQ (brow bd bf 5 (qa0 (qa8 d aa v flex) ab false flex (Tree.mk ak al am ao ap))) (Nat.le_refl _) cP
   have cS:=TT.ofW bg aG
   refine ⟨fun _=>cS,?_⟩
   refine qap (i:=12) kz (qaR aG cR (k:=0) (d:=46) (t:=22) (e:=5) (size:=1) (bytes:=1) (A:=A_) (As:=bd) (m0:=((qaw flex (Fld.nul (Fld.mk ac af ag ae ah ai ab aa) v (Tree.mk n1 s2 b3 l4 u5)) ((qar l4).length) 4 ++ ((qar l4).take k).flatMap (qa0 (qa8 d aa v flex) ab false flex)).length)) (c:=c_) (m:=((qa0 (qa8 d aa v flex) ab false flex (Tree.mk ak al am ao ap)).length)) (cs:=bf) (xs:=(bc (qaw flex (Fld.nul (Fld.mk ac af ag ae ah ai ab aa) v (Tree.mk n1 s2 b3 l4 u5)) ((qar l4).length) 4 ++ ((qar l4).take k).flatMap (qa0 (qa8 d aa v flex) ab false flex)))) (news:=bc (qa0 (qa8 d aa v flex) ab false flex (Tree.mk ak al am ao ap))) kz kz rfl (qbI (aG.own 1 _ rfl) (qdF _)) (qbQ (aG.own 1 _ rfl)) (by rw [List.length_append]; have h8_:=hr3 k; have h9_:=qgj (g:=qa0 (qa8 d aa v flex) ab false flex) aF; omega) fun av aw fQ fR bG cT cU=>?_)
   have cV:(⟨av,aw,5,1,(qaw flex (z4 ac af ag ae ah ai ab aa v n1 s2 b3 l4 u5) ((qar l4).length) 4 ++ ((qar l4).take k).flatMap (qa0 (qa8 d aa v flex) ab false flex)).length + (qa0 (qa8 d aa v flex) ab false flex (Tree.mk ak al am ao ap)).length,bc (qaw flex (z4 ac af ag ae ah ai ab aa v n1 s2 b3 l4 u5) ((qar l4).length) 4 ++ ((qar l4).take k).flatMap (qa0 (qa8 d aa v flex) ab false flex)) ++ bc (qa0 (qa8 d aa v flex) ab false flex (Tree.mk ak al am ao ap))⟩:Rw) = brow av aw 5 (qaw flex (z4 ac af ag ae ah ai ab aa v n1 s2 b3 l4 u5) ((qar l4).length) 4 ++ ((qar l4).take k).flatMap (qa0 (qa8 d aa v flex) ab false flex) ++ (qa0 (qa8 d aa v flex) ab false flex (Tree.mk ak al am ao ap))):=qcn (rfl) rfl
   obtain ⟨aH,bH⟩:=cT.rowEq 0 [brow av aw 5 (qaw flex (z4 ac af ag ae ah ai ab aa v n1 s2 b3 l4 u5) ((qar l4).length) 4 ++ ((qar l4).take k).flatMap (qa0 (qa8 d aa v flex) ab false flex) ++ (qa0 (qa8 d aa v flex) ab false flex (Tree.mk ak al am ao ap))),brow bd bf 5 (qa0 (qa8 d aa v flex) ab false flex (Tree.mk ak al am ao ap))] cV
   have cW:=EnvOk.pick cU (ks:=[1,2,4,10,11,30,31,34,36,38,39,40,41,42,43,44,45,46]) (env':=[(1,.v (.int .i64 v)),(2,.v (.bool flex)),(4,.p 0 0),(10,.v (.slice A8 ((qar l4).length) c9)),(11,.v (.slice A_ ((qaw flex (z4 ac af ag ae ah ai ab aa v n1 s2 b3 l4 u5) ((qar l4).length) 4 ++ ((qar l4).take k).flatMap (qa0 (qa8 d aa v flex) ab false flex)).length) c_)),(30,.v (.int .i64 (((qar l4).length:Nat):Int))),(31,.v (.int .i64 ((k:Nat):Int))),(34,.v (.slice A_ ((qaw flex (z4 ac af ag ae ah ai ab aa v n1 s2 b3 l4 u5) ((qar l4).length) 4 ++ ((qar l4).take k).flatMap (qa0 (qa8 d aa v flex) ab false flex)).length) c_)),(36,.v (.int .i64 ab)),(38,.v (.slice ay aa.length az)),(39,.v (.int .i64 v)),(40,.v (.bool flex)),(41,.v (.slice A8 ((qar l4).length) c9)),(42,.v (.int .i64 ((k:Nat):Int))),(43,.v (.pointer (some ⟨bQ,bR + k * 5,none⟩))),(44,.v (.agg #[.int .i64 ak,.slice aU al.length aV,.bool am,.slice aW ao.length aX,.slice aY ap.length aZ])),(45,.v (.slice bd ((qa0 (qa8 d aa v flex) ab false flex (Tree.mk ak al am ao ap)).length) bf)),(46,.v (.slice av ((qaw flex (z4 ac af ag ae ah ai ab aa v n1 s2 b3 l4 u5) ((qar l4).length) 4 ++ ((qar l4).take k).flatMap (qa0 (qa8 d aa v flex) ab false flex)).length + (qa0 (qa8 d aa v flex) ab false flex (Tree.mk ak al am ao ap)).length) aw))]) kz
   have cX:=cW.cast (env':=[(1,.v (.int .i64 v)),(2,.v (.bool flex)),(4,.p 0 0),(10,.v (.slice A8 ((qar l4).length) c9)),(11,.v (.slice A_ ((qaw flex (Fld.nul (Fld.mk ac af ag ae ah ai ab aa) v (Tree.mk n1 s2 b3 l4 u5)) ((qar l4).length) 4 ++ ((qar l4).take k).flatMap (qa0 (qa8 d aa v flex) ab false flex)).length) c_)),(30,.v (.int .i64 (((qar l4).length:Nat):Int))),(31,.v (.int .i64 ((k:Nat):Int))),(34,.v (.slice A_ ((qaw flex (Fld.nul (Fld.mk ac af ag ae ah ai ab aa) v (Tree.mk n1 s2 b3 l4 u5)) ((qar l4).length) 4 ++ ((qar l4).take k).flatMap (qa0 (qa8 d aa v flex) ab false flex)).length) c_)),(36,.v (.int .i64 ab)),(38,.v (.slice ay aa.length az)),(39,.v (.int .i64 v)),(40,.v (.bool flex)),(41,.v (.slice A8 ((qar l4).length) c9)),(42,.v (.int .i64 ((k:Nat):Int))),(43,.v (.pointer (some ⟨bQ,bR + k * 5,none⟩))),(44,.v (.agg #[.int .i64 ak,.slice aU al.length aV,.bool am,.slice aW ao.length aX,.slice aY ap.length aZ])),(45,.v (.slice bd ((qa0 (qa8 d aa v flex) ab false flex (Tree.mk ak al am ao ap)).length) bf)),(46,.v (.slice av ((qaw flex (Fld.nul (Fld.mk ac af ag ae ah ai ab aa) v (Tree.mk n1 s2 b3 l4 u5)) ((qar l4).length) 4 ++ ((qar l4).take k).flatMap (qa0 (qa8 d aa v flex) ab false flex) ++ (qa0 (qa8 d aa v flex) ab false flex (Tree.mk ak al am ao ap))).length) aw))]) (by simp only [List.length_append,List.length_cons,List.length_nil,Nat.zero_add])
   have cY:=TT.ofW ((bg.trans bG).trans bH) aH
   refine ⟨fun _=>cY,?_⟩
   refine qap (i:=13) kz (qbq [1,2,4,10,11,30,31] aH.cells cX (env':=[(1,.v (.int .i64 v)),(2,.v (.bool flex)),(4,.p 0 0),(10,.v (.slice A8 ((qar l4).length) c9)),(11,.v (.slice av ((qaw flex (z4 ac af ag ae ah ai ab aa v n1 s2 b3 l4 u5) ((qar l4).length) 4 ++ ((qar l4).take k).flatMap (qa0 (qa8 d aa v flex) ab false flex) ++ (qa0 (qa8 d aa v flex) ab false flex (Tree.mk ak al am ao ap))).length) aw)),(30,.v (.int .i64 (((qar l4).length:Nat):Int))),(31,.v (.int .i64 ((k:Nat):Int)))]) kz fun fS cZ=>?_)
   refine ⟨fun h=>absurd rfl h,?_⟩
   refine qaC kz ?_ _
   refine qav (qab (qau [0,1] kz ?_))
   refine qak [0,1] [] [(1,.v (.int .i64 v)),(2,.v (.bool flex)),(4,.p 0 0),(10,.v (.slice A8 ((qar l4).length) c9)),(11,.v (.slice av ((qaw flex (z4 ac af ag ae ah ai ab aa v n1 s2 b3 l4 u5) ((qar l4).length) 4 ++ ((qar l4).take k).flatMap (qa0 (qa8 d aa v flex) ab false flex) ++ (qa0 (qa8 d aa v flex) ab false flex (Tree.mk ak al am ao ap))).length) aw)),(30,.v (.int .i64 (((qar l4).length:Nat):Int))),(31,.v (.int .i64 (IntKind.i64.wrap (((k:Nat):Int) + 1))))] aH cZ fun fT bh=>?_
   refine qag (qab ?_)
   obtain ⟨c5,c6⟩:=aH.cutR 1 [brow av aw 5 (qaw flex (z4 ac af ag ae ah ai ab aa v n1 s2 b3 l4 u5) ((qar l4).length) 4 ++ ((qar l4).take k).flatMap (qa0 (qa8 d aa v flex) ab false flex) ++ (qa0 (qa8 d aa v flex) ab false flex (Tree.mk ak al am ao ap)))]
   have bI:(qaw flex (Fld.nul (Fld.mk ac af ag ae ah ai ab aa) v (Tree.mk n1 s2 b3 l4 u5)) ((qar l4).length) 4 ++ ((qar l4).take k).flatMap (qa0 (qa8 d aa v flex) ab false flex) ++ (qa0 (qa8 d aa v flex) ab false flex (Tree.mk ak al am ao ap))) = (qaw flex (Fld.nul (Fld.mk ac af ag ae ah ai ab aa) v (Tree.mk n1 s2 b3 l4 u5)) ((qar l4).length) 4 ++ ((qar l4).take (k + 1)).flatMap (qa0 (qa8 d aa v flex) ab false flex)):=by rw [qdG aF,List.append_assoc]
   have da:=congrArg (brow av aw 5) bI
   obtain ⟨db,dc⟩:=c5.rowEq 0 [brow av aw 5 (qaw flex (z4 ac af ag ae ah ai ab aa v n1 s2 b3 l4 u5) ((qar l4).length) 4 ++ ((qar l4).take (k + 1)).flatMap (qa0 (qa8 d aa v flex) ab false flex))] da
   rw [bI] at bh
   have de:IntKind.i64.wrap (((k:Nat):Int) + 1) = ((k + 1:Nat):Int):=qaS (by omega)
   rw [de] at bh
   exact ⟨(qar l4).length - (k + 1),by omega,k + 1,av,aw,rfl,by omega,bh.pk,db,((((((cI.trans cK).trans bg).trans bG).trans bH).trans c6).trans dc)⟩
  have eO:=zF aQ
  refine wp_exit (qay (qay (qaQ (qab (qas [(8,.v (.slice A_ ((qaw flex (z4 ac af ag ae ah ai ab aa v n1 s2 b3 l4 u5) ((qar l4).length) 4 ++ ((qar l4).take k).flatMap (qa0 (qa8 d aa v flex) ab false flex)).length) c_))] ax aP fun fU df=>?_)))))
  refine wp_ret (qat (qaK df ax.cells (v:=.slice A_ ((qaw flex (z4 ac af ag ae ah ai ab aa v n1 s2 b3 l4 u5) ((qar l4).length) 4 ++ ((qar l4).take k).flatMap (qa0 (qa8 d aa v flex) ab false flex)).length) c_) kz ?_))
  have hkk:(qar l4).take k = qar l4:=List.take_of_length_le (by omega)
  exact qbu ax (k:=0) rfl (by rw [hkk,qhc ‹_› ‹_›]; rfl)
 have eP:ac ≠ 11:=by simpa using bN
 refine wp_skip (qab (wp_seq (qaf [0,1,2,3,4,5,6,7] kz ?_)))
 refine qak [0,1,2,3] [4,5,6,7] [(1,.v (.int .i64 v)),(2,.v (.bool flex)),(4,.p 0 0),(7,.p 1 0),(9,.v (.bool (z4 ac af ag ae ah ai ab aa v n1 s2 b3 l4 u5))),(52,.v (.bool (ac == 10)))] aj bM fun fV bJ=>?_
 refine (zO (ac == 10)).elim (fun aA=>?_) (fun aA=>?_)
 ·
  have eQ:ac = 10:=by simpa using aA
  have dg:=bJ
  rw [aA] at dg
  refine qak [4,5,6,7] [] [(1,.v (.int .i64 v)),(2,.v (.bool flex)),(4,.p 0 0),(7,.p 1 0),(9,.v (.bool (z4 ac af ag ae ah ai ab aa v n1 s2 b3 l4 u5))),(56,.v (.bool (decide (ae ≥ 0))))] aj dg fun fW bi=>?_
  refine qag (qab ?_)
  refine qax bi (b:=decide (ae ≥ 0)) kz (fun bj=>?_) (fun bj=>?_)
  ·
   have eR:=zD bj
   refine wp_seq (qas [(1,.v (.int .i64 v)),(2,.v (.bool flex)),(4,.p 0 0),(7,.p 1 0),(57,.v (.bool (z4 ac af ag ae ah ai ab aa v n1 s2 b3 l4 u5)))] aj bi fun fX bk=>?_)
   refine qax bk (b:=Fld.nul (Fld.mk ac af ag ae ah ai ab aa) v (Tree.mk n1 s2 b3 l4 u5)) kz (fun dh=>?_) (fun dh=>?_)
   ·
    refine qaf [0,1] kz ?_
    refine qan (qal bk (f:=65) (vs:=[.int .i64 (-1),.int .i64 1]) (d:=58) kz Tryz.call65 (qf0 (-1) 1 (by first | decide | exact qbW _ | omega) _) ?_)
    rintro e_ fY ⟨bS,bT,rfl,di,dj⟩
    refine ⟨_,rfl,fun fZ dl=>?_⟩
    obtain ⟨bn,eS⟩:=aj.frFresh dj (brow bS bT 5 (be 1 (-1))) (Nat.le_refl _) di
    refine qak [1] [] [(8,.v (.slice bS ((be 1 (-1)).length) bT))] bn dl fun f5 dp=>?_
    refine qag (qab ?_)
    refine wp_ret (qat (qat (qaK dp bn.cells (v:=.slice bS ((be 1 (-1)).length) bT) kz ?_)))
    exact qbu bn (k:=0) rfl (by first | rw [qek ‹_› ‹_›] | rw [qej ‹_› ‹_› ‹_›] | rw [qdH ‹_› ‹_› ‹_› ‹_›] | rw [qei ‹_› ‹_› ‹_› ‹_›])
   refine wp_skip (qab (qaE 8 kz aj fun f7 eU dq dr=>?_))
   refine qaF [1,2,3,4,5] [(61,.v (.slice ay aa.length az)),(62,.v (.int .i64 v)),(63,.v (.bool flex)),(64,.v (.agg #[.int .i64 n1,.slice A6 s2.length c7,.bool b3,.slice A8 l4.length c9,.slice aK u5.length aL]))] 4 (qaa (qaa qae)) (fun _ h=>h.cells) dr bk fun f8 dt=>?_
   refine qap (i:=0) kz (qal dt (f:=65) (vs:=[.int .i64 1,.int .i64 1]) (d:=59) kz Tryz.call65 (qf0 1 1 (by first | decide | exact qbW _ | omega) _) ?_)
   rintro e_ f9 ⟨bz,bA,rfl,du,dv⟩
   refine ⟨_,rfl,fun ga dw=>?_⟩
   obtain ⟨au,bo⟩:=dq.frFresh dv (brow bz bA 5 (be 1 1)) (Nat.le_refl _) du
   have dx:=TT.ofW bo au
   refine ⟨fun _=>dx,?_⟩
   refine qap (i:=6) kz (qal dw (f:=29) (vs:=[.slice ay aa.length az,.int .i64 v,.bool flex,.agg #[.int .i64 n1,.slice A6 s2.length c7,.bool b3,.slice A8 l4.length c9,.slice aK u5.length aL]]) (d:=65) kz Tryz.call29 (hp _ _ aa v flex _ (Tree.mk n1 s2 b3 l4 u5) _ _ ⟨bw,(cd.move au.step nilM au.imm),(fun i_ x_ h_=>((dW i_ x_ h_).move au.step nilM au.imm))⟩ hd (ht.move au.step nilM au.imm) (by have h9_:=hroom; rw [qdH ‹_› ‹_› ‹_› ‹_›,List.length_append] at h9_; omega)) ?_)
   rintro e_ gb ⟨bp,bq,rfl,dy,dz⟩
   refine ⟨_,rfl,fun gc dA=>?_⟩
   obtain ⟨aI,bK⟩:=au.frFresh dz (brow bp bq 5 (qa8 d aa v flex (Tree.mk n1 s2 b3 l4 u5))) (Nat.le_refl _) dy
   have dB:=TT.ofW (bo.trans bK) aI
   refine ⟨fun _=>dB,?_⟩
   refine qap (i:=7) kz (qaR aI dA (k:=0) (d:=66) (t:=22) (e:=5) (size:=1) (bytes:=1) (A:=bz) (As:=bp) (m0:=((be 1 1).length)) (c:=bA) (m:=((qa8 d aa v flex (Tree.mk n1 s2 b3 l4 u5)).length)) (cs:=bq) (xs:=(bc (be 1 1))) (news:=bc (qa8 d aa v flex (Tree.mk n1 s2 b3 l4 u5))) kz kz rfl (qbI (aI.own 1 _ rfl) (qdF _)) (qbQ (aI.own 1 _ rfl)) (by have h9_:=hroom; rw [qdH ‹_› ‹_› ‹_› ‹_›,List.length_append] at h9_; omega) fun aC aD gd ge dC dD dE=>?_)
   have dF:(⟨aC,aD,5,1,(be 1 1).length + (qa8 d aa v flex (Tree.mk n1 s2 b3 l4 u5)).length,bc (be 1 1) ++ bc (qa8 d aa v flex (Tree.mk n1 s2 b3 l4 u5))⟩:Rw) = brow aC aD 5 (be 1 1 ++ (qa8 d aa v flex (Tree.mk n1 s2 b3 l4 u5))):=qcn (rfl) rfl
   obtain ⟨aJ,dG⟩:=dD.rowEq 0 [brow aC aD 5 (be 1 1 ++ (qa8 d aa v flex (Tree.mk n1 s2 b3 l4 u5))),brow bp bq 5 (qa8 d aa v flex (Tree.mk n1 s2 b3 l4 u5))] dF
   have dH:=EnvOk.pick dE (ks:=[61,62,63,64,59,65,66]) (env':=[(61,.v (.slice ay aa.length az)),(62,.v (.int .i64 v)),(63,.v (.bool flex)),(64,.v (.agg #[.int .i64 n1,.slice A6 s2.length c7,.bool b3,.slice A8 l4.length c9,.slice aK u5.length aL])),(59,.v (.slice bz ((be 1 1).length) bA)),(65,.v (.slice bp ((qa8 d aa v flex (Tree.mk n1 s2 b3 l4 u5)).length) bq)),(66,.v (.slice aC ((be 1 1).length + (qa8 d aa v flex (Tree.mk n1 s2 b3 l4 u5)).length) aD))]) kz
   have dI:=dH.cast (env':=[(61,.v (.slice ay aa.length az)),(62,.v (.int .i64 v)),(63,.v (.bool flex)),(64,.v (.agg #[.int .i64 n1,.slice A6 s2.length c7,.bool b3,.slice A8 l4.length c9,.slice aK u5.length aL])),(59,.v (.slice bz ((be 1 1).length) bA)),(65,.v (.slice bp ((qa8 d aa v flex (Tree.mk n1 s2 b3 l4 u5)).length) bq)),(66,.v (.slice aC ((be 1 1 ++ (qa8 d aa v flex (Tree.mk n1 s2 b3 l4 u5))).length) aD))]) (by simp only [List.length_append,List.length_cons,List.length_nil,Nat.zero_add])
   have dJ:=TT.ofW (((bo.trans bK).trans dC).trans dG) aJ
   refine ⟨fun _=>dJ,?_⟩
   refine qap (i:=8) kz (qbq [8] aJ.cells dI (env':=[(8,.v (.slice aC ((be 1 1 ++ (qa8 d aa v flex (Tree.mk n1 s2 b3 l4 u5))).length) aD))]) kz fun gg dK=>?_)
   refine ⟨fun h=>absurd rfl h,?_⟩
   refine qaC kz ?_ _
   refine qab (wp_ret (qat (qaK dK aJ.cells (v:=.slice aC ((be 1 1 ++ (qa8 d aa v flex (Tree.mk n1 s2 b3 l4 u5))).length) aD) kz ?_)))
   exact qbu aJ (k:=0) rfl (by first | rw [qek ‹_› ‹_›] | rw [qej ‹_› ‹_› ‹_›] | rw [qdH ‹_› ‹_› ‹_› ‹_›] | rw [qei ‹_› ‹_› ‹_› ‹_›])
  have eV:=zF bj
  refine wp_skip (qab (qaf [0,1,2,3,4,5,6,7,8,9] kz ?_))
  refine qak [0,1,2,3,4,5,6,7] [8,9] [(68,.v (.int .i64 ac)),(70,.v (.slice ay aa.length az)),(71,.v (.bool (z4 ac af ag ae ah ai ab aa v n1 s2 b3 l4 u5))),(72,.v (.int .i64 v)),(73,.v (.bool flex)),(74,.v (.agg #[.int .i64 n1,.slice A6 s2.length c7,.bool b3,.slice A8 l4.length c9,.slice aK u5.length aL]))] aj bi fun gh dL=>?_
  refine qan (qal dL (f:=107) (vs:=[.int .i64 ac,.slice ay aa.length az,.bool (Fld.nul (Fld.mk ac af ag ae ah ai ab aa) v (Tree.mk n1 s2 b3 l4 u5)),.int .i64 v,.bool flex,.agg #[.int .i64 n1,.slice A6 s2.length c7,.bool b3,.slice A8 l4.length c9,.slice aK u5.length aL]]) (d:=75) kz Tryz.call107 (qjY hp ac _ _ aa (Fld.nul (Fld.mk ac af ag ae ah ai ab aa) v (Tree.mk n1 s2 b3 l4 u5)) v flex _ (Tree.mk n1 s2 b3 l4 u5) _ _ ⟨bw,(cd.move aj.step nilM aj.imm),(fun i_ x_ h_=>((dW i_ x_ h_).move aj.step nilM aj.imm))⟩ hd (ht.move aj.step nilM aj.imm) (by have h_:=hroom; (first | rw [qek ‹_› ‹_›] at h_ | rw [qej ‹_› ‹_› ‹_›] at h_); exact h_)) ?_)
  rintro e_ gi ⟨bU,bV,rfl,dM,dN⟩
  refine ⟨_,rfl,fun gj dO=>?_⟩
  obtain ⟨bt,eW⟩:=aj.frFresh dN (brow bU bV 5 (qa0 (qa8 d aa v flex) ac (z4 ac af ag ae ah ai ab aa v n1 s2 b3 l4 u5) flex (Tree.mk n1 s2 b3 l4 u5))) (Nat.le_refl _) dM
  refine qak [9] [] [(8,.v (.slice bU ((qa0 (qa8 d aa v flex) ac (z4 ac af ag ae ah ai ab aa v n1 s2 b3 l4 u5) flex (Tree.mk n1 s2 b3 l4 u5)).length) bV))] bt dO fun gk dP=>?_
  refine qag (qab ?_)
  refine wp_ret (qaK dP bt.cells (v:=.slice bU ((qa0 (qa8 d aa v flex) ac (z4 ac af ag ae ah ai ab aa v n1 s2 b3 l4 u5) flex (Tree.mk n1 s2 b3 l4 u5)).length) bV) kz ?_)
  exact qbu bt (k:=0) rfl (by first | rw [qek ‹_› ‹_›] | rw [qej ‹_› ‹_› ‹_›] | rw [qdH ‹_› ‹_› ‹_› ‹_›] | rw [qei ‹_› ‹_› ‹_› ‹_›])
 have eX:ac ≠ 10:=by simpa using aA
 have dQ:=bJ.cast (env':=[(1,.v (.int .i64 v)),(2,.v (.bool flex)),(4,.p 0 0),(7,.p 1 0),(9,.v (.bool (Fld.nul (Fld.mk ac af ag ae ah ai ab aa) v (Tree.mk n1 s2 b3 l4 u5)))),(52,.v (.bool false))]) (by rw [aA])
 refine qak [4,5,6,7] [] [(1,.v (.int .i64 v)),(2,.v (.bool flex)),(4,.p 0 0),(7,.p 1 0),(9,.v (.bool (z4 ac af ag ae ah ai ab aa v n1 s2 b3 l4 u5))),(56,.v (.bool false))] aj dQ fun gl bL=>?_
 refine qag (qab ?_)
 refine qaq bL (b:=false) kz rfl ?_
 refine wp_skip (qab (qaf [0,1,2,3,4,5,6,7,8,9] kz ?_))
 refine qak [0,1,2,3,4,5,6,7] [8,9] [(68,.v (.int .i64 ac)),(70,.v (.slice ay aa.length az)),(71,.v (.bool (z4 ac af ag ae ah ai ab aa v n1 s2 b3 l4 u5))),(72,.v (.int .i64 v)),(73,.v (.bool flex)),(74,.v (.agg #[.int .i64 n1,.slice A6 s2.length c7,.bool b3,.slice A8 l4.length c9,.slice aK u5.length aL]))] aj bL fun gm dR=>?_
 refine qan (qal dR (f:=107) (vs:=[.int .i64 ac,.slice ay aa.length az,.bool (Fld.nul (Fld.mk ac af ag ae ah ai ab aa) v (Tree.mk n1 s2 b3 l4 u5)),.int .i64 v,.bool flex,.agg #[.int .i64 n1,.slice A6 s2.length c7,.bool b3,.slice A8 l4.length c9,.slice aK u5.length aL]]) (d:=75) kz Tryz.call107 (qjY hp ac _ _ aa (Fld.nul (Fld.mk ac af ag ae ah ai ab aa) v (Tree.mk n1 s2 b3 l4 u5)) v flex _ (Tree.mk n1 s2 b3 l4 u5) _ _ ⟨bw,(cd.move aj.step nilM aj.imm),(fun i_ x_ h_=>((dW i_ x_ h_).move aj.step nilM aj.imm))⟩ hd (ht.move aj.step nilM aj.imm) (by have h_:=hroom; (first | rw [qek ‹_› ‹_›] at h_ | rw [qej ‹_› ‹_› ‹_›] at h_); exact h_)) ?_)
 rintro e_ gn ⟨bW,bX,rfl,dS,dT⟩
 refine ⟨_,rfl,fun gp dU=>?_⟩
 obtain ⟨bu,eY⟩:=aj.frFresh dT (brow bW bX 5 (qa0 (qa8 d aa v flex) ac (z4 ac af ag ae ah ai ab aa v n1 s2 b3 l4 u5) flex (Tree.mk n1 s2 b3 l4 u5))) (Nat.le_refl _) dS
 refine qak [9] [] [(8,.v (.slice bW ((qa0 (qa8 d aa v flex) ac (z4 ac af ag ae ah ai ab aa v n1 s2 b3 l4 u5) flex (Tree.mk n1 s2 b3 l4 u5)).length) bX))] bu dU fun gq dV=>?_
 refine qag (qab ?_)
 refine wp_ret (qaK dV bu.cells (v:=.slice bW ((qa0 (qa8 d aa v flex) ac (z4 ac af ag ae ah ai ab aa v n1 s2 b3 l4 u5) flex (Tree.mk n1 s2 b3 l4 u5)).length) bX) kz ?_)
 exact qbu bu (k:=0) rfl (by first | rw [qek ‹_› ‹_›] | rw [qej ‹_› ‹_› ‹_›] | rw [qdH ‹_› ‹_› ‹_› ‹_›] | rw [qei ‹_› ‹_› ‹_› ‹_›])
abbrev z40 (x0) (x1) (x2) (x3):=([.int .u32 x0,.slice x1 x2 x3]:List Value)
abbrev z42 :=([.int .u32 0,.slice none 0 0]:List Value)
theorem qgP (Af:Option Addr) (cf:Nat) (l:List Fld) (A:Option Addr) (c:Nat) (u:List (Int × Bs)) (w:World) (F:Nat → Nat → Prop) (hl:FldsR w F Af cf l) (hu:TagsR w F A c u) :
  Calls Tryz.prog 35 #[.slice Af l.length cf,.slice A u.length c] w (qkX w F (qaj l u)):=by
 obtain ⟨xf,hf1,hf2⟩:=hl.ex
 obtain ⟨xu,hu1,hu2⟩:=hu.ex
 have hsmu:=hu1.small
 have hule:(u.take 32767).length ≤ 32767:=by rw [List.length_take]; omega
 refine enter (n:=85) Tryz.func35 rfl Tryz.ntmps35 kz fun a hE=>?_
 have hW:=WOk.start w Nil
 refine qas [(0,.v (.slice Af l.length cf)),(1,.v (.slice A u.length c))] hW hE fun a1 hE2=>?_
 refine qaf [0,1,2] kz ?_
 refine qak [0] [1,2] [(1,.v (.slice A u.length c)),(11,.v (.slice Af l.length cf))] hW hE2 fun a3 hE4=>?_
 refine qan (qal hE4 (f:=63) (vs:=[.slice Af l.length cf]) (d:=12) kz Tryz.call63 (qk4 _ _ l _ _ ⟨xf,(hf1.move hW.step nilM hW.imm),(fun i_ x_ h_=>((hf2 i_ x_ h_).move hW.step nilM hW.imm))⟩) ?_)
 rintro e_ w6 ⟨rfl,hs5⟩
 refine ⟨_,rfl,fun a7 hE8=>?_⟩
 have hW9:=hW.next_nil hs5
 have fF:=hW.frN hs5
 refine qak [2] [] [(1,.v (.slice A u.length c)),(5,.v (.int .u32 (qaD l)))] hW9 hE8 fun ij eG=>?_
 refine qag (qab ?_)
 refine qas [(1,.v (.slice A u.length c)),(5,.v (.int .u32 (qaD l))),(6,.v (.slice none 0 0))] hW9 eG fun ik eH=>?_
 refine wp_seq (qaf [0,1,2,3,4,5,6] kz ?_)
 refine qak [0,1,2,3] [4,5,6] [(5,.v (.int .u32 (qaD l))),(6,.v (.slice none 0 0)),(13,.v (.slice A u.length c)),(16,.v (.int .i64 (if 32767 < ((u.length:Nat):Int) then 32767 else ((u.length:Nat):Int))))] hW9 eH fun il eI=>?_
 refine qan (qdO eI (t:=24) (A:=A) (m:=u.length) (cp:=c) (q:=(if 32767 < ((u.length:Nat):Int) then 32767 else ((u.length:Nat):Int))) (d:=17) (j:=(u.take 32767).length) kz (e:=66) (size:=2) (bytes:=32) kz (by simpa using qhE u.length) (by rw [List.length_take]; have:=hu1.le; omega) fun im eJ=>?_)
 refine qak [5,6] [] [(5,.v (.int .u32 (qaD l))),(6,.v (.slice none 0 0)),(17,.v (.slice A ((u.take 32767).length) c)),(18,.v (.int .i64 (((u.take 32767).length:Nat):Int))),(19,.v (.int .i64 0))] hW9 eJ fun io eK=>?_
 refine qag (qab ?_)
 refine wp_block ?_
 have cL:=hW9.addNil 66 2
 have fG:=hW9.frNil 66 2
 refine wp_loop_ghost (fun n_ a_ w_=>∃ (k:Nat) (A_:Option Addr) (c_:Nat) (out:List (Int × Bs)) (css:List (List Value)),n_ = (u.take 32767).length - k ∧ k ≤ (u.take 32767).length ∧ (TagsE w_ (Imm F w w_ [] [⟨A_,c_,66,2,out.length,css.flatten⟩]) out css) ∧ (out = ((u.take 32767).take k).foldl (qce (qaD l)) []) ∧ (out.length ≤ k) ∧ LInv cL 85 [] [⟨A_,c_,66,2,out.length,css.flatten⟩] [(5,.v (.int .u32 (qaD l))),(6,.v (.slice A_ out.length c_)),(17,.v (.slice A ((u.take 32767).length) c)),(18,.v (.int .i64 (((u.take 32767).length:Nat):Int))),(19,.v (.int .i64 ((k:Nat):Int)))] a_ w_) ((u.take 32767).length) ⟨0,none,0,[],[],by omega,by omega,TagsE.nil _ _,rfl,Nat.zero_le _,eK.pk,cL,Fr.refl _ _ _⟩ ?_
 rintro ip iq ir ⟨k,A_,c_,out,css,fH,fI,hT,hout,hlen,eL,aO,aR⟩
 refine qas [(5,.v (.int .u32 (qaD l))),(6,.v (.slice A_ out.length c_)),(17,.v (.slice A ((u.take 32767).length) c)),(18,.v (.int .i64 (((u.take 32767).length:Nat):Int))),(19,.v (.int .i64 ((k:Nat):Int))),(20,.v (.bool (decide (((k:Nat):Int) < (((u.take 32767).length:Nat):Int)))))] aO eL fun iu cD=>?_
 refine wp_seq (qax cD (b:=decide (((k:Nat):Int) < (((u.take 32767).length:Nat):Int))) kz (fun cE=>?_) (fun cE=>?_))
 ·
  have fJ:=zD cE
  refine wp_skip (qab (wp_seq (wp_block (qaf [0,1,2,3] kz ?_))))
  obtain ⟨fK,fL,eM,fM,bF⟩:=Slots.get (qfR hu1 32767) (i:=k) (by omega)
  obtain ⟨⟨al,ax⟩,aP⟩:∃ x,(u.take 32767)[k]? = some x:=⟨_,List.getElem?_eq_getElem (by omega)⟩
  obtain ⟨⟨aI,aJ,cM,cN⟩,ff,fg⟩:=(qf8 hu2 32767) k al ax aP
  rw [cM] at bF
  refine qan (qaB cD (t:=24) (A:=A) (m:=((u.take 32767).length)) (q:=((k:Nat):Int)) (d:=21) kz (e:=66) (size:=2) (bytes:=32) kz eM rfl (by omega) fun iv eN=>?_)
  refine qan (qaW eN (t:=66) (b:=fK) (o:=fL + k * 2) (d:=22) kz (cs:=(z40 al aI ax.length aJ)) (v:=.agg #[.int .u32 al,.slice aI ax.length aJ]) kz (AtF.move bF aO.step nilM qbi).at_ fun iw eO=>?_)
  refine qan (qaM aO eO (d:=8) (cs:=z42) kz fun eP ix iy fN fO ac eQ eR=>?_)
  refine qan (qao eQ eR (oi:=0) (cs:=(z40 al aI ax.length aJ)) kz fun iz ae cG eS=>?_)
  refine qag (qab ?_)
  refine qas [(5,.v (.int .u32 (qaD l))),(6,.v (.slice A_ out.length c_)),(8,.p 0 0),(9,.v (.int .i64 0)),(17,.v (.slice A ((u.take 32767).length) c)),(18,.v (.int .i64 (((u.take 32767).length:Nat):Int))),(19,.v (.int .i64 ((k:Nat):Int)))] cG eS fun iA eU=>?_
  refine wp_seq (wp_block (wp_loop_ghost (fun n_ a_ w_=>∃ (i:Nat),n_ = out.length - i ∧ (i ≤ out.length) ∧ (∀ q,q < i → (out.getD q (0,[])).1 < al) ∧ LInv cG 85 [⟨eP,0,[.int .u32 al,.slice aI ax.length aJ],true⟩] [⟨A_,c_,66,2,out.length,css.flatten⟩] [(5,.v (.int .u32 (qaD l))),(6,.v (.slice A_ out.length c_)),(8,.p 0 0),(9,.v (.int .i64 ((i:Nat):Int))),(17,.v (.slice A ((u.take 32767).length) c)),(18,.v (.int .i64 (((u.take 32767).length:Nat):Int))),(19,.v (.int .i64 ((k:Nat):Int)))] a_ w_) (out.length - 0) ⟨0,rfl,Nat.zero_le _,fun q h_=>absurd h_ (Nat.not_lt_zero q),eU.pk,cG,Fr.refl _ _ _⟩ ?_))
  rintro iB iC iD ⟨i,fP,hi,hlt,eV,eW,aa⟩
  refine wp_seq (qcs kz eW fun iE ab aB=>?_)
  refine qaF [0,1,2,3,4] [(5,.v (.int .u32 (qaD l))),(6,.v (.slice A_ out.length c_)),(8,.p 0 0),(9,.v (.int .i64 ((i:Nat):Int))),(17,.v (.slice A ((u.take 32767).length) c)),(18,.v (.int .i64 (((u.take 32767).length:Nat):Int))),(19,.v (.int .i64 ((k:Nat):Int))),(27,.v (.bool (decide (((i:Nat):Int) < ((out.length:Nat):Int)))))] 9 (qaa (qaa (qaa (qac (qaa (qac (qaa (qaa (qac (qaa qae)))))))))) (fun _ h=>h ▸ aB.cells) rfl eV fun iF cO=>?_
  refine (zO (decide (((i:Nat):Int) < ((out.length:Nat):Int)))).elim (fun aN=>?_) (fun aN=>?_)
  ·
   have fQ:=zD aN
   have eX:=cO
   rw [aN] at eX
   refine qaF [5,6,10,11] [(5,.v (.int .u32 (qaD l))),(6,.v (.slice A_ out.length c_)),(8,.p 0 0),(9,.v (.int .i64 ((i:Nat):Int))),(17,.v (.slice A ((u.take 32767).length) c)),(18,.v (.int .i64 (((u.take 32767).length:Nat):Int))),(19,.v (.int .i64 ((k:Nat):Int))),(27,.v (.bool true)),(28,.v (.slice A_ out.length c_)),(29,.v (.int .i64 ((i:Nat):Int))),(34,.v (.int .u32 al))] 5 (qaa (qaa (qaa (qac (qaa (qac (qaa (qaa (qac (qaa qae)))))))))) (fun _ h=>h ▸ aB.cells) rfl eX fun iG eY=>?_
   obtain ⟨eZ,cP⟩:=qcj (aB.own 0 _ rfl) (show 0 < out.length by omega)
   obtain ⟨⟨eF,iH⟩,bu⟩:∃ x,out[i]? = some x:=⟨_,List.getElem?_eq_getElem (by omega)⟩
   obtain ⟨iI,iJ,e9,fR,iK,iL⟩:=TagsE.get2 (hT.move (((ac.trans ae).trans aa).trans ab).step immM (((ac.trans ae).trans aa).trans ab).to') bu
   have cQ:=qh9 (aB.own 0 _ rfl) cP (qeo (hT.move (((ac.trans ae).trans aa).trans ab).step immM (((ac.trans ae).trans aa).trans ab).to').two e9)
   refine qaH eY (i:=7) (t:=24) (A:=A_) (m:=out.length) (q:=((i:Nat):Int)) (d:=30) kz (e:=66) (size:=2) (bytes:=32) kz (b:=eZ) (o:=0) (j:=i) cP (rfl) (by omega) kz kz (qaa (qaa (qaa (qac (qaa (qac (qaa (qaa (qac (qaa qae)))))))))) rfl fun iM fb=>?_
   refine qaF [8] [(5,.v (.int .u32 (qaD l))),(6,.v (.slice A_ out.length c_)),(8,.p 0 0),(9,.v (.int .i64 ((i:Nat):Int))),(17,.v (.slice A ((u.take 32767).length) c)),(18,.v (.int .i64 (((u.take 32767).length:Nat):Int))),(19,.v (.int .i64 ((k:Nat):Int))),(27,.v (.bool true)),(31,.v (.pointer (some ⟨eZ,0 + i * 2,none⟩))),(34,.v (.int .u32 al))] 3 (qaa (qaa (qaa (qac (qaa (qac (qaa (qaa (qac (qaa qae)))))))))) (fun _ h=>h ▸ aB.cells) rfl fb fun iN fe=>?_
   refine qbl fe (i:=9) (t:=64) (b:=eZ) (o:=0 + i * 2) (d:=32) kz (cs:=[.int .u32 eF]) (v:=.int .u32 eF) kz (fun w' h'=>h' ▸ (At.drop cQ 0 1)) kz kz (qaa (qaa (qaa (qac (qaa (qac (qaa (qaa (qac (qaa qae)))))))))) rfl fun fS cR=>?_
   refine qaF [12,13] [(5,.v (.int .u32 (qaD l))),(6,.v (.slice A_ out.length c_)),(8,.p 0 0),(9,.v (.int .i64 ((i:Nat):Int))),(17,.v (.slice A ((u.take 32767).length) c)),(18,.v (.int .i64 (((u.take 32767).length:Nat):Int))),(19,.v (.int .i64 ((k:Nat):Int))),(36,.v (.bool (decide (eF < al))))] 0 (qaa (qaa (qaa (qac (qaa (qac (qaa (qaa (qac (qaa qae)))))))))) (fun _ h=>h ▸ aB.cells) rfl cR fun fT aS=>?_
   refine qaC kz ?_ _
   refine qab (qax aS (b:=decide (eF < al)) kz (fun aT=>?_) (fun aT=>?_))
   ·
    have fh:=zD aT
    refine wp_skip (qab (wp_block (qau [0,1,2] kz ?_)))
    refine qak [0,1,2] [] [(5,.v (.int .u32 (qaD l))),(6,.v (.slice A_ out.length c_)),(8,.p 0 0),(9,.v (.int .i64 (IntKind.i64.wrap (((i:Nat):Int) + 1)))),(17,.v (.slice A ((u.take 32767).length) c)),(18,.v (.int .i64 (((u.take 32767).length:Nat):Int))),(19,.v (.int .i64 ((k:Nat):Int)))] aB aS fun fU bG=>?_
    refine qag (qav (qab ?_))
    have cS:IntKind.i64.wrap (((i:Nat):Int) + 1) = ((i + 1:Nat):Int):=qaS (by omega)
    rw [cS] at bG
    exact ⟨out.length - (i + 1),by omega,(i + 1),rfl,by omega,fun q hq=>by rcases Nat.lt_succ_iff_lt_or_eq.1 hq with h_ | h_; exact hlt q h_; rw [h_,qjA bu]; assumption,bG.pk,aB,(aa.trans ab)⟩
   have fi:=zF aT
   refine wp_exit (qay (qay (qaQ (qab (wp_seq (qcs kz aB fun fV af ap=>?_))))))
   refine qaF [0,1,2,3,4] [(5,.v (.int .u32 (qaD l))),(6,.v (.slice A_ out.length c_)),(8,.p 0 0),(9,.v (.int .i64 ((i:Nat):Int))),(17,.v (.slice A ((u.take 32767).length) c)),(18,.v (.int .i64 (((u.take 32767).length:Nat):Int))),(19,.v (.int .i64 ((k:Nat):Int))),(43,.v (.bool (decide (al < (qaD l)))))] 15 (qaa (qaa (qac (qaa (qaa (qac (qaa qae))))))) (fun _ h=>h ▸ ap.cells) rfl aS fun fW bH=>?_
   refine (zO (decide (al < (qaD l)))).elim (fun aK=>?_) (fun aK=>?_)
   ·
    have fj:=zD aK
    have cT:=bH
    rw [aK] at cT
    refine qaF [5,6,7,8,9,10,11,12,13,14,15,16,17,18,19] [(5,.v (.int .u32 (qaD l))),(6,.v (.slice A_ out.length c_)),(8,.p 0 0),(9,.v (.int .i64 ((i:Nat):Int))),(17,.v (.slice A ((u.take 32767).length) c)),(18,.v (.int .i64 (((u.take 32767).length:Nat):Int))),(19,.v (.int .i64 ((k:Nat):Int))),(58,.v (.bool true))] 0 (qaa (qaa (qac (qaa (qaa (qac (qaa qae))))))) (fun _ h=>h ▸ ap.cells) rfl cT fun fX bI=>?_
    refine qaC kz ?_ _
    refine qab (qa9 bI (b:=true) kz rfl ?_)
    refine wp_exit (qay (qaQ (qab (qau [0,1] kz ?_))))
    refine qak [0,1] [] [(5,.v (.int .u32 (qaD l))),(6,.v (.slice A_ out.length c_)),(17,.v (.slice A ((u.take 32767).length) c)),(18,.v (.int .i64 (((u.take 32767).length:Nat):Int))),(19,.v (.int .i64 (IntKind.i64.wrap (((k:Nat):Int) + 1))))] ap bI fun fY cU=>?_
    refine qag (qab ?_)
    obtain ⟨bJ,cV,aU⟩:=ap.cutB cU 0 [] [(5,.v (.int .u32 (qaD l))),(6,.v (.slice A_ out.length c_)),(17,.v (.slice A ((u.take 32767).length) c)),(18,.v (.int .i64 (((u.take 32767).length:Nat):Int))),(19,.v (.int .i64 (IntKind.i64.wrap (((k:Nat):Int) + 1))))]
    have cW:IntKind.i64.wrap (((k:Nat):Int) + 1) = ((k + 1:Nat):Int):=qaS (by omega)
    rw [cW] at bJ
    exact ⟨(u.take 32767).length - (k + 1),by omega,k + 1,A_,c_,out,css,rfl,by omega,(hT.move (((((ac.trans ae).trans aa).trans ab).trans af).trans aU).step immM (((((ac.trans ae).trans aa).trans ab).trans af).trans aU).to'),by rw [qct aP,← hout]; exact (qjB ‹_›).symm,by omega,bJ.pk,cV,((((((aR.trans ac).trans ae).trans aa).trans ab).trans af).trans aU)⟩
   have fk:=zF aK
   have cX:=bH
   rw [aK] at cX
   refine qaF [5,6,7,8,9] [(5,.v (.int .u32 (qaD l))),(6,.v (.slice A_ out.length c_)),(8,.p 0 0),(9,.v (.int .i64 ((i:Nat):Int))),(17,.v (.slice A ((u.take 32767).length) c)),(18,.v (.int .i64 (((u.take 32767).length:Nat):Int))),(19,.v (.int .i64 ((k:Nat):Int))),(43,.v (.bool false)),(48,.v (.bool (decide (((i:Nat):Int) < ((out.length:Nat):Int)))))] 10 (qaa (qaa (qac (qaa (qaa (qac (qaa qae))))))) (fun _ h=>h ▸ ap.cells) rfl cX fun fZ cY=>?_
   have cZ:(decide (((i:Nat):Int) < ((out.length:Nat):Int))) = true:=aN
   have c5:=cY
   rw [cZ] at c5
   refine qaF [10,11,15,16] [(5,.v (.int .u32 (qaD l))),(6,.v (.slice A_ out.length c_)),(8,.p 0 0),(9,.v (.int .i64 ((i:Nat):Int))),(17,.v (.slice A ((u.take 32767).length) c)),(18,.v (.int .i64 (((u.take 32767).length:Nat):Int))),(19,.v (.int .i64 ((k:Nat):Int))),(43,.v (.bool false)),(48,.v (.bool true)),(49,.v (.slice A_ out.length c_)),(50,.v (.int .i64 ((i:Nat):Int))),(55,.v (.int .u32 al))] 6 (qaa (qaa (qac (qaa (qaa (qac (qaa qae))))))) (fun _ h=>h ▸ ap.cells) rfl c5 fun f5 c6=>?_
   obtain ⟨cH,bK⟩:=qcj (ap.own 0 _ rfl) (show 0 < out.length by omega)
   obtain ⟨⟨aQ,f7⟩,aL⟩:∃ x,out[i]? = some x:=⟨_,List.getElem?_eq_getElem (by omega)⟩
   obtain ⟨f8,f9,da,fm,ga,gb⟩:=TagsE.get2 (hT.move ((((ac.trans ae).trans aa).trans ab).trans af).step immM ((((ac.trans ae).trans aa).trans ab).trans af).to') aL
   have cI:=qh9 (ap.own 0 _ rfl) bK (qeo (hT.move ((((ac.trans ae).trans aa).trans ab).trans af).step immM ((((ac.trans ae).trans aa).trans ab).trans af).to').two da)
   refine qaH c6 (i:=12) (t:=24) (A:=A_) (m:=out.length) (q:=((i:Nat):Int)) (d:=51) kz (e:=66) (size:=2) (bytes:=32) kz (b:=cH) (o:=0) (j:=i) bK (rfl) (by omega) kz kz (qaa (qaa (qac (qaa (qaa (qac (qaa qae))))))) rfl fun gc db=>?_
   refine qaF [13] [(5,.v (.int .u32 (qaD l))),(6,.v (.slice A_ out.length c_)),(8,.p 0 0),(9,.v (.int .i64 ((i:Nat):Int))),(17,.v (.slice A ((u.take 32767).length) c)),(18,.v (.int .i64 (((u.take 32767).length:Nat):Int))),(19,.v (.int .i64 ((k:Nat):Int))),(43,.v (.bool false)),(48,.v (.bool true)),(52,.v (.pointer (some ⟨cH,0 + i * 2,none⟩))),(55,.v (.int .u32 al))] 4 (qaa (qaa (qac (qaa (qaa (qac (qaa qae))))))) (fun _ h=>h ▸ ap.cells) rfl db fun gd dc=>?_
   refine qbl dc (i:=14) (t:=64) (b:=cH) (o:=0 + i * 2) (d:=53) kz (cs:=[.int .u32 aQ]) (v:=.int .u32 aQ) kz (fun w' h'=>h' ▸ (At.drop cI 0 1)) kz kz (qaa (qaa (qac (qaa (qaa (qac (qaa qae))))))) rfl fun ge de=>?_
   refine qaF [17,18,19] [(5,.v (.int .u32 (qaD l))),(6,.v (.slice A_ out.length c_)),(8,.p 0 0),(9,.v (.int .i64 ((i:Nat):Int))),(17,.v (.slice A ((u.take 32767).length) c)),(18,.v (.int .i64 (((u.take 32767).length:Nat):Int))),(19,.v (.int .i64 ((k:Nat):Int))),(58,.v (.bool (aQ == al)))] 0 (qaa (qaa (qac (qaa (qaa (qac (qaa qae))))))) (fun _ h=>h ▸ ap.cells) rfl de fun gg aV=>?_
   refine qaC kz ?_ _
   refine qab (qax aV (b:=aQ == al) kz (fun aW=>?_) (fun aW=>?_))
   ·
    have fo:aQ = al:=by simpa using aW
    refine wp_exit (qay (qaQ (qab (qau [0,1] kz ?_))))
    refine qak [0,1] [] [(5,.v (.int .u32 (qaD l))),(6,.v (.slice A_ out.length c_)),(17,.v (.slice A ((u.take 32767).length) c)),(18,.v (.int .i64 (((u.take 32767).length:Nat):Int))),(19,.v (.int .i64 (IntKind.i64.wrap (((k:Nat):Int) + 1))))] ap aV fun gh df=>?_
    refine qag (qab ?_)
    obtain ⟨bL,dg,aX⟩:=ap.cutB df 0 [] [(5,.v (.int .u32 (qaD l))),(6,.v (.slice A_ out.length c_)),(17,.v (.slice A ((u.take 32767).length) c)),(18,.v (.int .i64 (((u.take 32767).length:Nat):Int))),(19,.v (.int .i64 (IntKind.i64.wrap (((k:Nat):Int) + 1))))]
    have dh:IntKind.i64.wrap (((k:Nat):Int) + 1) = ((k + 1:Nat):Int):=qaS (by omega)
    rw [dh] at bL
    exact ⟨(u.take 32767).length - (k + 1),by omega,k + 1,A_,c_,out,css,rfl,by omega,(hT.move (((((ac.trans ae).trans aa).trans ab).trans af).trans aX).step immM (((((ac.trans ae).trans aa).trans ab).trans af).trans aX).to'),by rw [qct aP,← hout]; exact (qky (qfQ hi hlt (fun _=>by rw [qep aL]; omega)) (by omega) (by rw [qep aL]; omega)).symm,by omega,bL.pk,dg,((((((aR.trans ac).trans ae).trans aa).trans ab).trans af).trans aX)⟩
   have fq:aQ ≠ al:=by simpa using aW
   refine wp_skip (qab (qaf [0,1,2,3,4] kz ?_))
   refine qak [0,1] [2,3,4] [(5,.v (.int .u32 (qaD l))),(8,.p 0 0),(9,.v (.int .i64 ((i:Nat):Int))),(17,.v (.slice A ((u.take 32767).length) c)),(18,.v (.int .i64 (((u.take 32767).length:Nat):Int))),(19,.v (.int .i64 ((k:Nat):Int))),(59,.v (.slice A_ out.length c_)),(60,.v (.agg #[.int .u32 0,.slice none 0 0]))] ap aV fun gi di=>?_
   refine qcT ap di (k:=0) (e:=66) (size:=2) (len:=1) (cs:=z42) (d1:=61) (d:=62) kz (t:=24) (bytes:=32) kz (fun _=>by kernel_rfl) rfl kz (by omega) fun ag ai gj gk am aY ⟨_,dj⟩=>?_
   refine qak [4] [] [(5,.v (.int .u32 (qaD l))),(6,.v (.slice ag (out.length + 1) ai)),(8,.p 0 0),(9,.v (.int .i64 ((i:Nat):Int))),(17,.v (.slice A ((u.take 32767).length) c)),(18,.v (.int .i64 (((u.take 32767).length:Nat):Int))),(19,.v (.int .i64 ((k:Nat):Int)))] aY dj fun gl dl=>?_
   refine qag (qab ?_)
   refine wp_seq (qas [(5,.v (.int .u32 (qaD l))),(6,.v (.slice ag (out.length + 1) ai)),(8,.p 0 0),(9,.v (.int .i64 ((i:Nat):Int))),(10,.v (.int .i64 (IntKind.i64.wrap (((out.length + 1:Nat):Int) - 1)))),(17,.v (.slice A ((u.take 32767).length) c)),(18,.v (.int .i64 (((u.take 32767).length:Nat):Int))),(19,.v (.int .i64 ((k:Nat):Int)))] aY dl fun gm bM=>?_)
   refine wp_block ?_
   have hcl0:=(hT.move (((((ac.trans ae).trans aa).trans ab).trans af).trans am).step immM (((((ac.trans ae).trans aa).trans ab).trans af).trans am).to').len
   have dp:(⟨ag,ai,66,2,out.length + 1,css.flatten ++ [.int .u32 0,.slice none 0 0]⟩:Rw) = ⟨ag,ai,66,2,out.length + 1,(qcd css [.int .u32 0,.slice none 0 0] out.length).flatten⟩:=by rw [qia hcl0]
   obtain ⟨bN,av⟩:=aY.rowEq 0 [⟨ag,ai,66,2,out.length + 1,(qcd css z42 out.length).flatten⟩] dp
   have dq:IntKind.i64.wrap (((out.length + 1:Nat):Int) - 1) = ((out.length:Nat):Int):=by rw [wrap_i64 (by omega) (by omega)]; omega
   rw [dq] at bM
   refine wp_loop_ghost (fun n_ a_ w_=>∃ (j:Nat),n_ = j ∧ (i ≤ j) ∧ (j ≤ out.length) ∧ LInv bN 85 [⟨eP,0,[.int .u32 al,.slice aI ax.length aJ],true⟩] [⟨ag,ai,66,2,out.length + 1,(qcd css [.int .u32 0,.slice none 0 0] j).flatten⟩] [(5,.v (.int .u32 (qaD l))),(6,.v (.slice ag (out.length + 1) ai)),(8,.p 0 0),(9,.v (.int .i64 ((i:Nat):Int))),(10,.v (.int .i64 ((j:Nat):Int))),(17,.v (.slice A ((u.take 32767).length) c)),(18,.v (.int .i64 (((u.take 32767).length:Nat):Int))),(19,.v (.int .i64 ((k:Nat):Int)))] a_ w_) (out.length) ⟨out.length,rfl,hi,Nat.le_refl _,bM.pk,bN,Fr.refl _ _ _⟩ ?_
   rintro gn gp gq ⟨j,fr,hij,hjl,dr,ay,ar⟩
   refine wp_seq (qas [(5,.v (.int .u32 (qaD l))),(6,.v (.slice ag (out.length + 1) ai)),(8,.p 0 0),(9,.v (.int .i64 ((i:Nat):Int))),(10,.v (.int .i64 ((j:Nat):Int))),(17,.v (.slice A ((u.take 32767).length) c)),(18,.v (.int .i64 (((u.take 32767).length:Nat):Int))),(19,.v (.int .i64 ((k:Nat):Int))),(68,.v (.bool (decide (((j:Nat):Int) > ((i:Nat):Int)))))] ay dr fun gt aZ=>?_)
   refine qax aZ (b:=decide (((j:Nat):Int) > ((i:Nat):Int))) kz (fun ba=>?_) (fun ba=>?_)
   ·
    have ft:=zD ba
    refine wp_skip (qab (wp_seq (wp_block (qau [0,1,2,3,4,5,6,7,8] kz ?_))))
    refine qak [0,1,2,3,4] [5,6,7,8] [(5,.v (.int .u32 (qaD l))),(6,.v (.slice ag (out.length + 1) ai)),(8,.p 0 0),(9,.v (.int .i64 ((i:Nat):Int))),(10,.v (.int .i64 ((j:Nat):Int))),(17,.v (.slice A ((u.take 32767).length) c)),(18,.v (.int .i64 (((u.take 32767).length:Nat):Int))),(19,.v (.int .i64 ((k:Nat):Int))),(71,.v (.slice ag (out.length + 1) ai)),(72,.v (.int .i64 ((j:Nat):Int))),(73,.v (.slice ag (out.length + 1) ai)),(75,.v (.int .i64 (IntKind.i64.wrap (((j:Nat):Int) - 1))))] ay aZ fun gv dt=>?_
    obtain ⟨du,bO⟩:=qcj (ay.own 0 _ rfl) (show 0 < out.length + 1 by omega)
    obtain ⟨⟨bw,bx⟩,dv⟩:∃ x,out[j - 1]? = some x:=⟨_,List.getElem?_eq_getElem (by omega)⟩
    obtain ⟨bz,bA,bP,fv,gw,gx⟩:=TagsE.get2 (hT.move (((((((ac.trans ae).trans aa).trans ab).trans af).trans am).trans av).trans ar).step immM (((((((ac.trans ae).trans aa).trans ab).trans af).trans am).trans av).trans ar).to') dv
    have cJ:=qh9 (ay.own 0 _ rfl) bO (qeo (qeZ (hT.move (((((((ac.trans ae).trans aa).trans ab).trans af).trans am).trans av).trans ar).step immM (((((((ac.trans ae).trans aa).trans ab).trans af).trans am).trans av).trans ar).to').two rfl j) (qhh (show j - 1 < j by omega) bP))
    refine qan (qaB dt (t:=24) (A:=ag) (m:=(out.length + 1)) (q:=(IntKind.i64.wrap (((j:Nat):Int) - 1))) (d:=76) kz (e:=66) (size:=2) (bytes:=32) kz (b:=du) (o:=0) (j:=(j - 1)) bO (by rw [wrap_i64 (by omega) (by omega)]; omega) (by omega) fun gy dw=>?_)
    refine qan (qaW dw (t:=66) (b:=du) (o:=0 + (j - 1) * 2) (d:=77) kz (cs:=(z40 bw bz bx.length bA)) (v:=.agg #[.int .u32 bw,.slice bz bx.length bA]) kz cJ fun gz dx=>?_)
    obtain ⟨dy,bQ⟩:=qcj (ay.own 0 _ rfl) (show 0 < out.length + 1 by omega)
    refine qan (qaB dx (t:=24) (A:=ag) (m:=(out.length + 1)) (q:=((j:Nat):Int)) (d:=78) kz (e:=66) (size:=2) (bytes:=32) kz (b:=dy) (o:=0) (j:=j) bQ (rfl) (by omega) fun gA dz=>?_)
    refine qan (qb6 ay dz (k:=0) (g:=dy) (o:=j * 2) (c:=ai) (m:=(out.length + 1)) (size:=2) (e:=66) (A:=ag) (xs:=((qcd css [.int .u32 0,.slice none 0 0] j).flatten)) (vs:=[.int .u32 bw,.slice bz bx.length bA]) kz rfl bQ (by simp only [List.length_cons,List.length_nil]; omega) fun gB bd bR dA=>?_)
    refine qag (qav (qab (qau [0,1,2] kz ?_)))
    refine qak [0,1,2] [] [(5,.v (.int .u32 (qaD l))),(6,.v (.slice ag (out.length + 1) ai)),(8,.p 0 0),(9,.v (.int .i64 ((i:Nat):Int))),(10,.v (.int .i64 (IntKind.i64.wrap (((j:Nat):Int) - 1)))),(17,.v (.slice A ((u.take 32767).length) c)),(18,.v (.int .i64 (((u.take 32767).length:Nat):Int))),(19,.v (.int .i64 ((k:Nat):Int)))] bR dA fun gC bS=>?_
    refine qag (qab ?_)
    have dB:(⟨ag,ai,66,2,out.length + 1,qbA ((qcd css [.int .u32 0,.slice none 0 0] j).flatten) (j * 2) [.int .u32 bw,.slice bz bx.length bA]⟩:Rw) = ⟨ag,ai,66,2,out.length + 1,(qcd css [.int .u32 0,.slice none 0 0] (j - 1)).flatten⟩:=by rw [qhi (hT.move ((((((((ac.trans ae).trans aa).trans ab).trans af).trans am).trans av).trans ar).trans bd).step immM ((((((((ac.trans ae).trans aa).trans ab).trans af).trans am).trans av).trans ar).trans bd).to').two rfl (by omega) (by omega) bP]
    obtain ⟨dC,dD⟩:=bR.rowEq 0 [⟨ag,ai,66,2,out.length + 1,(qcd css z42 (j - 1)).flatten⟩] dB
    have dE:IntKind.i64.wrap (((j:Nat):Int) - 1) = ((j - 1:Nat):Int):=by rw [wrap_i64 (by omega) (by omega)]; omega
    rw [dE] at bS
    exact ⟨(j - 1),by omega,(j - 1),rfl,by omega,by omega,bS.pk,dC,((ar.trans bd).trans dD)⟩
   have fw:=zF ba
   refine wp_exit (qay (qay (qaQ (qab (qau [0,1,2,3,4] kz ?_)))))
   refine qak [0,1,2] [3,4] [(5,.v (.int .u32 (qaD l))),(6,.v (.slice ag (out.length + 1) ai)),(17,.v (.slice A ((u.take 32767).length) c)),(18,.v (.int .i64 (((u.take 32767).length:Nat):Int))),(19,.v (.int .i64 ((k:Nat):Int))),(79,.v (.slice ag (out.length + 1) ai)),(80,.v (.int .i64 ((i:Nat):Int))),(81,.v (.agg #[.int .u32 al,.slice aI ax.length aJ]))] ay aZ fun gD dF=>?_
   have hji:j = i:=by omega
   have dG:(⟨ag,ai,66,2,out.length + 1,(qcd css [.int .u32 0,.slice none 0 0] j).flatten⟩:Rw) = ⟨ag,ai,66,2,out.length + 1,(qcd css [.int .u32 0,.slice none 0 0] i).flatten⟩:=by rw [hji]
   obtain ⟨bT,aC⟩:=ay.rowEq 0 [⟨ag,ai,66,2,out.length + 1,(qcd css z42 i).flatten⟩] dG
   obtain ⟨dH,bU⟩:=qcj (bT.own 0 _ rfl) (show 0 < out.length + 1 by omega)
   refine qan (qaB dF (t:=24) (A:=ag) (m:=(out.length + 1)) (q:=((i:Nat):Int)) (d:=82) kz (e:=66) (size:=2) (bytes:=32) kz (b:=dH) (o:=0) (j:=i) bU (rfl) (by omega) fun gE dI=>?_)
   refine qan (qb6 bT dI (k:=0) (g:=dH) (o:=i * 2) (c:=ai) (m:=(out.length + 1)) (size:=2) (e:=66) (A:=ag) (xs:=((qcd css [.int .u32 0,.slice none 0 0] i).flatten)) (vs:=[.int .u32 al,.slice aI ax.length aJ]) kz rfl bU (by simp only [List.length_cons,List.length_nil]; omega) fun gF aD bV dJ=>?_)
   refine qag (qav (qab (qau [0,1] kz ?_)))
   refine qak [0,1] [] [(5,.v (.int .u32 (qaD l))),(6,.v (.slice ag (out.length + 1) ai)),(17,.v (.slice A ((u.take 32767).length) c)),(18,.v (.int .i64 (((u.take 32767).length:Nat):Int))),(19,.v (.int .i64 (IntKind.i64.wrap (((k:Nat):Int) + 1))))] bV dJ fun gG dK=>?_
   refine qag (qab ?_)
   obtain ⟨bf,dL,aE⟩:=bV.cutB dK 0 [] [(5,.v (.int .u32 (qaD l))),(6,.v (.slice ag (out.length + 1) ai)),(17,.v (.slice A ((u.take 32767).length) c)),(18,.v (.int .i64 (((u.take 32767).length:Nat):Int))),(19,.v (.int .i64 (IntKind.i64.wrap (((k:Nat):Int) + 1))))]
   have hcl:=(hT.move ((((((((((ac.trans ae).trans aa).trans ab).trans af).trans am).trans av).trans ar).trans aC).trans aD).trans aE).step immM ((((((((((ac.trans ae).trans aa).trans ab).trans af).trans am).trans av).trans ar).trans aC).trans aD).trans aE).to').len
   have dM:(⟨ag,ai,66,2,out.length + 1,qbA ((qcd css [.int .u32 0,.slice none 0 0] i).flatten) (i * 2) [.int .u32 al,.slice aI ax.length aJ]⟩:Rw) = ⟨ag,ai,66,2,(out.take i ++ (al,ax) :: out.drop i).length,(css.take i ++ [.int .u32 al,.slice aI ax.length aJ] :: css.drop i).flatten⟩:=by rw [qhj (hT.move ((((((((((ac.trans ae).trans aa).trans ab).trans af).trans am).trans av).trans ar).trans aC).trans aD).trans aE).step immM ((((((((((ac.trans ae).trans aa).trans ab).trans af).trans am).trans av).trans ar).trans aC).trans aD).trans aE).to').two rfl (by omega) rfl,qdc (al,ax) hi]
   obtain ⟨bg,bh⟩:=dL.rowEq 0 [⟨ag,ai,66,2,(out.take i ++ (al,ax) :: out.drop i).length,(css.take i ++ (z40 al aI ax.length aJ) :: css.drop i).flatten⟩] dM
   have dN:IntKind.i64.wrap (((k:Nat):Int) + 1) = ((k + 1:Nat):Int):=qaS (by omega)
   rw [dN] at bf
   have dO:out.length + 1 = (out.take i ++ (al,ax) :: out.drop i).length:=qdc (al,ax) hi
   rw [dO] at bf
   exact ⟨(u.take 32767).length - (k + 1),by omega,k + 1,ag,ai,(out.take i ++ (al,ax) :: out.drop i),(css.take i ++ [.int .u32 al,.slice aI ax.length aJ] :: css.drop i),rfl,by omega,(hT.move (((((((((((ac.trans ae).trans aa).trans ab).trans af).trans am).trans av).trans ar).trans aC).trans aD).trans aE).trans bh).step immM (((((((((((ac.trans ae).trans aa).trans ab).trans af).trans am).trans av).trans ar).trans aC).trans aD).trans aE).trans bh).to').ins ⟨⟨aI,aJ,rfl,(cN.move bg.step nilM bg.imm)⟩,ff,fg⟩ hi,by rw [qct aP,← hout]; exact (qjC (qfQ hi hlt (fun _=>by first | (rw [qep bu]; omega) | (rw [qep aL]; omega))) ‹_› (fun _=>by first | (rw [qep bu]; omega) | (rw [qep aL]; omega))).symm,by rw [← qdc (al,ax) hi]; omega,bf.pk,bg,((((((((((((aR.trans ac).trans ae).trans aa).trans ab).trans af).trans am).trans av).trans ar).trans aC).trans aD).trans aE).trans bh)⟩
  have fx:=zF aN
  have dP:=cO.cast (env':=[(5,.v (.int .u32 (qaD l))),(6,.v (.slice A_ out.length c_)),(8,.p 0 0),(9,.v (.int .i64 ((i:Nat):Int))),(17,.v (.slice A ((u.take 32767).length) c)),(18,.v (.int .i64 (((u.take 32767).length:Nat):Int))),(19,.v (.int .i64 ((k:Nat):Int))),(27,.v (.bool false))]) (by rw [aN])
  refine qaF [5,6,7,8,9,10,11,12,13] [(5,.v (.int .u32 (qaD l))),(6,.v (.slice A_ out.length c_)),(8,.p 0 0),(9,.v (.int .i64 ((i:Nat):Int))),(17,.v (.slice A ((u.take 32767).length) c)),(18,.v (.int .i64 (((u.take 32767).length:Nat):Int))),(19,.v (.int .i64 ((k:Nat):Int))),(36,.v (.bool false))] 0 (qaa (qaa (qaa (qac (qaa (qac (qaa (qaa (qac (qaa qae)))))))))) (fun _ h=>h ▸ aB.cells) rfl dP fun gH bW=>?_
  refine qaC kz ?_ _
  refine qab (qaq bW (b:=false) kz rfl ?_)
  refine wp_exit (qay (qay (qaQ (qab (wp_seq (qcs kz aB fun gI ak az=>?_))))))
  refine qaF [0,1,2,3,4] [(5,.v (.int .u32 (qaD l))),(6,.v (.slice A_ out.length c_)),(8,.p 0 0),(9,.v (.int .i64 ((i:Nat):Int))),(17,.v (.slice A ((u.take 32767).length) c)),(18,.v (.int .i64 (((u.take 32767).length:Nat):Int))),(19,.v (.int .i64 ((k:Nat):Int))),(43,.v (.bool (decide (al < (qaD l)))))] 15 (qaa (qaa (qac (qaa (qaa (qac (qaa qae))))))) (fun _ h=>h ▸ az.cells) rfl bW fun gJ bX=>?_
  refine (zO (decide (al < (qaD l)))).elim (fun aM=>?_) (fun aM=>?_)
  ·
   have fy:=zD aM
   have dQ:=bX
   rw [aM] at dQ
   refine qaF [5,6,7,8,9,10,11,12,13,14,15,16,17,18,19] [(5,.v (.int .u32 (qaD l))),(6,.v (.slice A_ out.length c_)),(8,.p 0 0),(9,.v (.int .i64 ((i:Nat):Int))),(17,.v (.slice A ((u.take 32767).length) c)),(18,.v (.int .i64 (((u.take 32767).length:Nat):Int))),(19,.v (.int .i64 ((k:Nat):Int))),(58,.v (.bool true))] 0 (qaa (qaa (qac (qaa (qaa (qac (qaa qae))))))) (fun _ h=>h ▸ az.cells) rfl dQ fun gK bY=>?_
   refine qaC kz ?_ _
   refine qab (qa9 bY (b:=true) kz rfl ?_)
   refine wp_exit (qay (qaQ (qab (qau [0,1] kz ?_))))
   refine qak [0,1] [] [(5,.v (.int .u32 (qaD l))),(6,.v (.slice A_ out.length c_)),(17,.v (.slice A ((u.take 32767).length) c)),(18,.v (.int .i64 (((u.take 32767).length:Nat):Int))),(19,.v (.int .i64 (IntKind.i64.wrap (((k:Nat):Int) + 1))))] az bY fun gL dR=>?_
   refine qag (qab ?_)
   obtain ⟨bZ,dS,bi⟩:=az.cutB dR 0 [] [(5,.v (.int .u32 (qaD l))),(6,.v (.slice A_ out.length c_)),(17,.v (.slice A ((u.take 32767).length) c)),(18,.v (.int .i64 (((u.take 32767).length:Nat):Int))),(19,.v (.int .i64 (IntKind.i64.wrap (((k:Nat):Int) + 1))))]
   have dT:IntKind.i64.wrap (((k:Nat):Int) + 1) = ((k + 1:Nat):Int):=qaS (by omega)
   rw [dT] at bZ
   exact ⟨(u.take 32767).length - (k + 1),by omega,k + 1,A_,c_,out,css,rfl,by omega,(hT.move (((((ac.trans ae).trans aa).trans ab).trans ak).trans bi).step immM (((((ac.trans ae).trans aa).trans ab).trans ak).trans bi).to'),by rw [qct aP,← hout]; exact (qjB ‹_›).symm,by omega,bZ.pk,dS,((((((aR.trans ac).trans ae).trans aa).trans ab).trans ak).trans bi)⟩
  have fz:=zF aM
  have dU:=bX
  rw [aM] at dU
  refine qaF [5,6,7,8,9] [(5,.v (.int .u32 (qaD l))),(6,.v (.slice A_ out.length c_)),(8,.p 0 0),(9,.v (.int .i64 ((i:Nat):Int))),(17,.v (.slice A ((u.take 32767).length) c)),(18,.v (.int .i64 (((u.take 32767).length:Nat):Int))),(19,.v (.int .i64 ((k:Nat):Int))),(43,.v (.bool false)),(48,.v (.bool (decide (((i:Nat):Int) < ((out.length:Nat):Int)))))] 10 (qaa (qaa (qac (qaa (qaa (qac (qaa qae))))))) (fun _ h=>h ▸ az.cells) rfl dU fun gM dV=>?_
  have dW:(decide (((i:Nat):Int) < ((out.length:Nat):Int))) = false:=aN
  have dX:=dV
  rw [dW] at dX
  refine qaF [10,11,12,13,14,15,16,17,18,19] [(5,.v (.int .u32 (qaD l))),(6,.v (.slice A_ out.length c_)),(8,.p 0 0),(9,.v (.int .i64 ((i:Nat):Int))),(17,.v (.slice A ((u.take 32767).length) c)),(18,.v (.int .i64 (((u.take 32767).length:Nat):Int))),(19,.v (.int .i64 ((k:Nat):Int))),(58,.v (.bool false))] 0 (qaa (qaa (qac (qaa (qaa (qac (qaa qae))))))) (fun _ h=>h ▸ az.cells) rfl dX fun gN cd=>?_
  refine qaC kz ?_ _
  refine qab (qaq cd (b:=false) kz rfl ?_)
  refine wp_skip (qab (qaf [0,1,2,3,4] kz ?_))
  refine qak [0,1] [2,3,4] [(5,.v (.int .u32 (qaD l))),(8,.p 0 0),(9,.v (.int .i64 ((i:Nat):Int))),(17,.v (.slice A ((u.take 32767).length) c)),(18,.v (.int .i64 (((u.take 32767).length:Nat):Int))),(19,.v (.int .i64 ((k:Nat):Int))),(59,.v (.slice A_ out.length c_)),(60,.v (.agg #[.int .u32 0,.slice none 0 0]))] az cd fun gO dY=>?_
  refine qcT az dY (k:=0) (e:=66) (size:=2) (len:=1) (cs:=z42) (d1:=61) (d:=62) kz (t:=24) (bytes:=32) kz (fun _=>by kernel_rfl) rfl kz (by omega) fun ah aj gP gQ ao bj ⟨_,dZ⟩=>?_
  refine qak [4] [] [(5,.v (.int .u32 (qaD l))),(6,.v (.slice ah (out.length + 1) aj)),(8,.p 0 0),(9,.v (.int .i64 ((i:Nat):Int))),(17,.v (.slice A ((u.take 32767).length) c)),(18,.v (.int .i64 (((u.take 32767).length:Nat):Int))),(19,.v (.int .i64 ((k:Nat):Int)))] bj dZ fun gR d5=>?_
  refine qag (qab ?_)
  refine wp_seq (qas [(5,.v (.int .u32 (qaD l))),(6,.v (.slice ah (out.length + 1) aj)),(8,.p 0 0),(9,.v (.int .i64 ((i:Nat):Int))),(10,.v (.int .i64 (IntKind.i64.wrap (((out.length + 1:Nat):Int) - 1)))),(17,.v (.slice A ((u.take 32767).length) c)),(18,.v (.int .i64 (((u.take 32767).length:Nat):Int))),(19,.v (.int .i64 ((k:Nat):Int)))] bj d5 fun gS ce=>?_)
  refine wp_block ?_
  have hcl0:=(hT.move (((((ac.trans ae).trans aa).trans ab).trans ak).trans ao).step immM (((((ac.trans ae).trans aa).trans ab).trans ak).trans ao).to').len
  have d6:(⟨ah,aj,66,2,out.length + 1,css.flatten ++ [.int .u32 0,.slice none 0 0]⟩:Rw) = ⟨ah,aj,66,2,out.length + 1,(qcd css [.int .u32 0,.slice none 0 0] out.length).flatten⟩:=by rw [qia hcl0]
  obtain ⟨cm,aw⟩:=bj.rowEq 0 [⟨ah,aj,66,2,out.length + 1,(qcd css z42 out.length).flatten⟩] d6
  have d7:IntKind.i64.wrap (((out.length + 1:Nat):Int) - 1) = ((out.length:Nat):Int):=by rw [wrap_i64 (by omega) (by omega)]; omega
  rw [d7] at ce
  refine wp_loop_ghost (fun n_ a_ w_=>∃ (j:Nat),n_ = j ∧ (i ≤ j) ∧ (j ≤ out.length) ∧ LInv cm 85 [⟨eP,0,[.int .u32 al,.slice aI ax.length aJ],true⟩] [⟨ah,aj,66,2,out.length + 1,(qcd css [.int .u32 0,.slice none 0 0] j).flatten⟩] [(5,.v (.int .u32 (qaD l))),(6,.v (.slice ah (out.length + 1) aj)),(8,.p 0 0),(9,.v (.int .i64 ((i:Nat):Int))),(10,.v (.int .i64 ((j:Nat):Int))),(17,.v (.slice A ((u.take 32767).length) c)),(18,.v (.int .i64 (((u.take 32767).length:Nat):Int))),(19,.v (.int .i64 ((k:Nat):Int)))] a_ w_) (out.length) ⟨out.length,rfl,hi,Nat.le_refl _,ce.pk,cm,Fr.refl _ _ _⟩ ?_
  rintro gT gU gV ⟨j,fA,hij,hjl,d8,aA,au⟩
  refine wp_seq (qas [(5,.v (.int .u32 (qaD l))),(6,.v (.slice ah (out.length + 1) aj)),(8,.p 0 0),(9,.v (.int .i64 ((i:Nat):Int))),(10,.v (.int .i64 ((j:Nat):Int))),(17,.v (.slice A ((u.take 32767).length) c)),(18,.v (.int .i64 (((u.take 32767).length:Nat):Int))),(19,.v (.int .i64 ((k:Nat):Int))),(68,.v (.bool (decide (((j:Nat):Int) > ((i:Nat):Int)))))] aA d8 fun gW bk=>?_)
  refine qax bk (b:=decide (((j:Nat):Int) > ((i:Nat):Int))) kz (fun bn=>?_) (fun bn=>?_)
  ·
   have fB:=zD bn
   refine wp_skip (qab (wp_seq (wp_block (qau [0,1,2,3,4,5,6,7,8] kz ?_))))
   refine qak [0,1,2,3,4] [5,6,7,8] [(5,.v (.int .u32 (qaD l))),(6,.v (.slice ah (out.length + 1) aj)),(8,.p 0 0),(9,.v (.int .i64 ((i:Nat):Int))),(10,.v (.int .i64 ((j:Nat):Int))),(17,.v (.slice A ((u.take 32767).length) c)),(18,.v (.int .i64 (((u.take 32767).length:Nat):Int))),(19,.v (.int .i64 ((k:Nat):Int))),(71,.v (.slice ah (out.length + 1) aj)),(72,.v (.int .i64 ((j:Nat):Int))),(73,.v (.slice ah (out.length + 1) aj)),(75,.v (.int .i64 (IntKind.i64.wrap (((j:Nat):Int) - 1))))] aA bk fun gX d9=>?_
   obtain ⟨ea,cq⟩:=qcj (aA.own 0 _ rfl) (show 0 < out.length + 1 by omega)
   obtain ⟨⟨bB,bC⟩,eb⟩:∃ x,out[j - 1]? = some x:=⟨_,List.getElem?_eq_getElem (by omega)⟩
   obtain ⟨bD,bE,cr,fC,gY,gZ⟩:=TagsE.get2 (hT.move (((((((ac.trans ae).trans aa).trans ab).trans ak).trans ao).trans aw).trans au).step immM (((((((ac.trans ae).trans aa).trans ab).trans ak).trans ao).trans aw).trans au).to') eb
   have cK:=qh9 (aA.own 0 _ rfl) cq (qeo (qeZ (hT.move (((((((ac.trans ae).trans aa).trans ab).trans ak).trans ao).trans aw).trans au).step immM (((((((ac.trans ae).trans aa).trans ab).trans ak).trans ao).trans aw).trans au).to').two rfl j) (qhh (show j - 1 < j by omega) cr))
   refine qan (qaB d9 (t:=24) (A:=ah) (m:=(out.length + 1)) (q:=(IntKind.i64.wrap (((j:Nat):Int) - 1))) (d:=76) kz (e:=66) (size:=2) (bytes:=32) kz (b:=ea) (o:=0) (j:=(j - 1)) cq (by rw [wrap_i64 (by omega) (by omega)]; omega) (by omega) fun g9 ec=>?_)
   refine qan (qaW ec (t:=66) (b:=ea) (o:=0 + (j - 1) * 2) (d:=77) kz (cs:=(z40 bB bD bC.length bE)) (v:=.agg #[.int .u32 bB,.slice bD bC.length bE]) kz cK fun hC ee=>?_)
   obtain ⟨ef,cu⟩:=qcj (aA.own 0 _ rfl) (show 0 < out.length + 1 by omega)
   refine qan (qaB ee (t:=24) (A:=ah) (m:=(out.length + 1)) (q:=((j:Nat):Int)) (d:=78) kz (e:=66) (size:=2) (bytes:=32) kz (b:=ef) (o:=0) (j:=j) cu (rfl) (by omega) fun hJ eg=>?_)
   refine qan (qb6 aA eg (k:=0) (g:=ef) (o:=j * 2) (c:=aj) (m:=(out.length + 1)) (size:=2) (e:=66) (A:=ah) (xs:=((qcd css [.int .u32 0,.slice none 0 0] j).flatten)) (vs:=[.int .u32 bB,.slice bD bC.length bE]) kz rfl cu (by simp only [List.length_cons,List.length_nil]; omega) fun hK bo cw eh=>?_)
   refine qag (qav (qab (qau [0,1,2] kz ?_)))
   refine qak [0,1,2] [] [(5,.v (.int .u32 (qaD l))),(6,.v (.slice ah (out.length + 1) aj)),(8,.p 0 0),(9,.v (.int .i64 ((i:Nat):Int))),(10,.v (.int .i64 (IntKind.i64.wrap (((j:Nat):Int) - 1)))),(17,.v (.slice A ((u.take 32767).length) c)),(18,.v (.int .i64 (((u.take 32767).length:Nat):Int))),(19,.v (.int .i64 ((k:Nat):Int)))] cw eh fun hZ cz=>?_
   refine qag (qab ?_)
   have ei:(⟨ah,aj,66,2,out.length + 1,qbA ((qcd css [.int .u32 0,.slice none 0 0] j).flatten) (j * 2) [.int .u32 bB,.slice bD bC.length bE]⟩:Rw) = ⟨ah,aj,66,2,out.length + 1,(qcd css [.int .u32 0,.slice none 0 0] (j - 1)).flatten⟩:=by rw [qhi (hT.move ((((((((ac.trans ae).trans aa).trans ab).trans ak).trans ao).trans aw).trans au).trans bo).step immM ((((((((ac.trans ae).trans aa).trans ab).trans ak).trans ao).trans aw).trans au).trans bo).to').two rfl (by omega) (by omega) cr]
   obtain ⟨ej,ek⟩:=cw.rowEq 0 [⟨ah,aj,66,2,out.length + 1,(qcd css z42 (j - 1)).flatten⟩] ei
   have em:IntKind.i64.wrap (((j:Nat):Int) - 1) = ((j - 1:Nat):Int):=by rw [wrap_i64 (by omega) (by omega)]; omega
   rw [em] at cz
   exact ⟨(j - 1),by omega,(j - 1),rfl,by omega,by omega,cz.pk,ej,((au.trans bo).trans ek)⟩
  have fD:=zF bn
  refine wp_exit (qay (qay (qaQ (qab (qau [0,1,2,3,4] kz ?_)))))
  refine qak [0,1,2] [3,4] [(5,.v (.int .u32 (qaD l))),(6,.v (.slice ah (out.length + 1) aj)),(17,.v (.slice A ((u.take 32767).length) c)),(18,.v (.int .i64 (((u.take 32767).length:Nat):Int))),(19,.v (.int .i64 ((k:Nat):Int))),(79,.v (.slice ah (out.length + 1) aj)),(80,.v (.int .i64 ((i:Nat):Int))),(81,.v (.agg #[.int .u32 al,.slice aI ax.length aJ]))] aA bk fun ia eo=>?_
  have hji:j = i:=by omega
  have ep:(⟨ah,aj,66,2,out.length + 1,(qcd css [.int .u32 0,.slice none 0 0] j).flatten⟩:Rw) = ⟨ah,aj,66,2,out.length + 1,(qcd css [.int .u32 0,.slice none 0 0] i).flatten⟩:=by rw [hji]
  obtain ⟨cA,aF⟩:=aA.rowEq 0 [⟨ah,aj,66,2,out.length + 1,(qcd css z42 i).flatten⟩] ep
  obtain ⟨eu,cB⟩:=qcj (cA.own 0 _ rfl) (show 0 < out.length + 1 by omega)
  refine qan (qaB eo (t:=24) (A:=ah) (m:=(out.length + 1)) (q:=((i:Nat):Int)) (d:=82) kz (e:=66) (size:=2) (bytes:=32) kz (b:=eu) (o:=0) (j:=i) cB (rfl) (by omega) fun ib ev=>?_)
  refine qan (qb6 cA ev (k:=0) (g:=eu) (o:=i * 2) (c:=aj) (m:=(out.length + 1)) (size:=2) (e:=66) (A:=ah) (xs:=((qcd css [.int .u32 0,.slice none 0 0] i).flatten)) (vs:=[.int .u32 al,.slice aI ax.length aJ]) kz rfl cB (by simp only [List.length_cons,List.length_nil]; omega) fun ic aG cC ew=>?_)
  refine qag (qav (qab (qau [0,1] kz ?_)))
  refine qak [0,1] [] [(5,.v (.int .u32 (qaD l))),(6,.v (.slice ah (out.length + 1) aj)),(17,.v (.slice A ((u.take 32767).length) c)),(18,.v (.int .i64 (((u.take 32767).length:Nat):Int))),(19,.v (.int .i64 (IntKind.i64.wrap (((k:Nat):Int) + 1))))] cC ew fun ig ey=>?_
  refine qag (qab ?_)
  obtain ⟨bp,ez,aH⟩:=cC.cutB ey 0 [] [(5,.v (.int .u32 (qaD l))),(6,.v (.slice ah (out.length + 1) aj)),(17,.v (.slice A ((u.take 32767).length) c)),(18,.v (.int .i64 (((u.take 32767).length:Nat):Int))),(19,.v (.int .i64 (IntKind.i64.wrap (((k:Nat):Int) + 1))))]
  have hcl:=(hT.move ((((((((((ac.trans ae).trans aa).trans ab).trans ak).trans ao).trans aw).trans au).trans aF).trans aG).trans aH).step immM ((((((((((ac.trans ae).trans aa).trans ab).trans ak).trans ao).trans aw).trans au).trans aF).trans aG).trans aH).to').len
  have eB:(⟨ah,aj,66,2,out.length + 1,qbA ((qcd css [.int .u32 0,.slice none 0 0] i).flatten) (i * 2) [.int .u32 al,.slice aI ax.length aJ]⟩:Rw) = ⟨ah,aj,66,2,(out.take i ++ (al,ax) :: out.drop i).length,(css.take i ++ [.int .u32 al,.slice aI ax.length aJ] :: css.drop i).flatten⟩:=by rw [qhj (hT.move ((((((((((ac.trans ae).trans aa).trans ab).trans ak).trans ao).trans aw).trans au).trans aF).trans aG).trans aH).step immM ((((((((((ac.trans ae).trans aa).trans ab).trans ak).trans ao).trans aw).trans au).trans aF).trans aG).trans aH).to').two rfl (by omega) rfl,qdc (al,ax) hi]
  obtain ⟨bq,bt⟩:=ez.rowEq 0 [⟨ah,aj,66,2,(out.take i ++ (al,ax) :: out.drop i).length,(css.take i ++ (z40 al aI ax.length aJ) :: css.drop i).flatten⟩] eB
  have eC:IntKind.i64.wrap (((k:Nat):Int) + 1) = ((k + 1:Nat):Int):=qaS (by omega)
  rw [eC] at bp
  have eD:out.length + 1 = (out.take i ++ (al,ax) :: out.drop i).length:=qdc (al,ax) hi
  rw [eD] at bp
  exact ⟨(u.take 32767).length - (k + 1),by omega,k + 1,ah,aj,(out.take i ++ (al,ax) :: out.drop i),(css.take i ++ [.int .u32 al,.slice aI ax.length aJ] :: css.drop i),rfl,by omega,(hT.move (((((((((((ac.trans ae).trans aa).trans ab).trans ak).trans ao).trans aw).trans au).trans aF).trans aG).trans aH).trans bt).step immM (((((((((((ac.trans ae).trans aa).trans ab).trans ak).trans ao).trans aw).trans au).trans aF).trans aG).trans aH).trans bt).to').ins ⟨⟨aI,aJ,rfl,(cN.move bq.step nilM bq.imm)⟩,ff,fg⟩ hi,by rw [qct aP,← hout]; exact (qjC (qfQ hi hlt (fun h_=>absurd h_ (by omega))) ‹_› (fun h_=>absurd h_ (by omega))).symm,by rw [← qdc (al,ax) hi]; omega,bp.pk,bq,((((((((((((aR.trans ac).trans ae).trans aa).trans ab).trans ak).trans ao).trans aw).trans au).trans aF).trans aG).trans aH).trans bt)⟩
 have fE:=zF cE
 refine wp_exit (qay (qay (qaQ (qab (qas [(4,.v (.slice A_ out.length c_))] aO cD fun ii eE=>?_)))))
 refine wp_ret (qaK eE aO.cells (v:=.slice A_ out.length c_) kz ?_)
 exact qhK aO (k:=0) rfl rfl rfl hT (by omega) (by rw [hout,List.take_of_length_le (by omega)]; rfl)
end Go.Proofs.YtdlaobdadlmcdaaGreatDoor.ME