/- The texts of a claim, put together: the engine, the contracts, the law. Own work. -/
import Derived.Test.YtfljkhecngpcmaaGreatDoorWt3P0
import Derived.Test.YtfljkhecngpcmaaGreatDoorRows
import Derived.WalkKit
import Derived.ProofKit
import Derived.OpenShut
import Derived.JoinedCond
import Derived.WideKeyArgs
import Derived.ChangeSame
import Derived.Laws.BytesArg
import Derived.Test.YtfljkhecngpcmaaGreatDoorProg
namespace Go.Proofs.YtfljkhecngpcmaaGreatDoor.ME
open Go
open Go.RowKit
set_option linter.unusedVariables false
set_option linter.unusedSimpArgs false
set_option maxRecDepth 20000
theorem qdU:∀ {l:List Fld} {i:Nat} {f:Fld},l[i]? = some f → f.depth ≤ depths l
 | [],i,f,h=>by simp at h
 | a :: r,0,f,h=>by
  simp only [List.getElem?_cons_zero,Option.some.injEq] at h
  subst h
  exact Nat.le_max_left _ _
 | a :: r,i + 1,f,h=>by
  have:=qdU (l:=r) (i:=i) (f:=f) (by simpa using h)
  exact Nat.le_trans this (Nat.le_max_right _ _)
theorem qfc (k x1 x2 x3 x4 x5 x6:Int) (l:List Fld):(Fld.mk k x1 x2 x3 x4 x5 x6 l).depth = depths l + 1:=by rw [Fld.depth]
section
variable {k x1 x2 x3 x4 x5 x6 n:Int} {l:List Fld} {s:Bs} {b:Bool} {ll:List Tree} {u:List (Int × Bs)}
theorem qc1 (h:k = 0):Fld.usual (.mk k x1 x2 x3 x4 x5 x6 l) (.mk n s b ll u) = (n % 2 == x5):=by
 subst h; rw [Fld.usual,if_pos rfl]; simp [Tree.N]; rfl
theorem qbN (h0:k ≠ 0) (h:k = 7):Fld.usual (.mk k x1 x2 x3 x4 x5 x6 l) (.mk n s b ll u) = (s.take 16).all (· == 0):=by
 rw [Fld.usual,if_neg h0,if_pos h]; rfl
theorem qcd (h0:k ≠ 0) (h7:k ≠ 7) (h:k = 8 ∨ k = 9) (hn:x3 ≥ 0):Fld.usual (.mk k x1 x2 x3 x4 x5 x6 l) (.mk n s b ll u) = b:=by
 rw [Fld.usual,if_neg h0,if_neg h7,if_pos h,if_pos hn]; rfl
theorem qcB (h0:k ≠ 0) (h7:k ≠ 7) (h:k = 8 ∨ k = 9) (hn:¬ x3 ≥ 0):Fld.usual (.mk k x1 x2 x3 x4 x5 x6 l) (.mk n s b ll u) = (((s.length:Nat):Int) == 0):=by
 rw [Fld.usual,if_neg h0,if_neg h7,if_pos h,if_neg hn,Bool.eq_iff_iff,decide_eq_true_iff,beq_iff_eq]
 show s.length = 0 ↔ _
 omega
theorem qcC (h0:k ≠ 0) (h7:k ≠ 7) (h8:k ≠ 8) (h9:k ≠ 9) (h:k = 11):Fld.usual (.mk k x1 x2 x3 x4 x5 x6 l) (.mk n s b ll u) = (((ll.length:Nat):Int) == 0):=by
 rw [Fld.usual,if_neg h0,if_neg h7,if_neg (by rintro (h | h); exact h8 h; exact h9 h),if_pos h,Bool.eq_iff_iff,decide_eq_true_iff,beq_iff_eq]
 show ll.length = 0 ↔ _
 omega
theorem qcs (h0:k ≠ 0) (h7:k ≠ 7) (h8:k ≠ 8) (h9:k ≠ 9) (h11:k ≠ 11) (h:k = 10):Fld.usual (.mk k x1 x2 x3 x4 x5 x6 l) (.mk n s b ll u) = (usuals l (.mk n s b ll u) 0 && (((qai l u).length:Nat):Int) == 0):=by
 rw [Fld.usual,if_neg h0,if_neg h7,if_neg (by rintro (h | h); exact h8 h; exact h9 h),if_neg h11,if_pos h]
 congr 1
 rw [Bool.eq_iff_iff,decide_eq_true_iff,beq_iff_eq]
 show (qai l u).length = 0 ↔ _
 omega
theorem qbV (h0:k ≠ 0) (h7:k ≠ 7) (h8:k ≠ 8) (h9:k ≠ 9) (h11:k ≠ 11) (h10:k ≠ 10):Fld.usual (.mk k x1 x2 x3 x4 x5 x6 l) (.mk n s b ll u) = decide (be (qbA k) n = be (qbA k) x5):=by
 rw [Fld.usual,if_neg h0,if_neg h7,if_neg (by rintro (h | h); exact h8 h; exact h9 h),if_neg h11,if_neg h10]; rfl
end
theorem qbL {s:Bs} {k:Nat} (h:∀ q,q < k → q < 16 → (((s.getD q 0).toNat:Nat):Int) = 0) (hk:s.length ≤ k):true = (s.take 16).all (· == 0):=by
 symm
 rw [List.all_eq_true]
 intro x hx
 obtain ⟨i,hi,rfl⟩:=List.getElem_of_mem hx
 rw [List.length_take] at hi
 have:=h i (by omega) (by omega)
 rw [List.getD_eq_getElem?_getD,List.getElem?_eq_getElem (show i < s.length by omega)] at this
 rw [List.getElem_take]
 simp only [Option.getD_some] at this
 have h0:s[i].toNat = 0:=by omega
 have:s[i] = 0:=UInt8.toNat.inj h0
 simp [this]
theorem qbB {s:Bs} {k:Nat} (hk:k < s.length) (h:k < 16) (hn:(((s.getD k 0).toNat:Nat):Int) ≠ 0):false = (s.take 16).all (· == 0):=by
 symm
 rw [← Bool.not_eq_true,List.all_eq_true]
 intro hall
 have:=hall s[k] (by
  rw [List.mem_iff_getElem?]
  exact ⟨k,by rw [List.getElem?_take,if_pos h,List.getElem?_eq_getElem hk]⟩)
 rw [List.getD_eq_getElem?_getD,List.getElem?_eq_getElem hk] at hn
 simp only [beq_iff_eq] at this
 rw [this] at hn
 exact hn rfl
theorem qct {α:Type} {l:List α} {k:Nat} {x:α} (h:l[k]? = some x):l.drop k = x :: l.drop (k + 1):=by
 obtain ⟨hk,rfl⟩:=List.getElem?_eq_some_iff.1 h
 exact List.drop_eq_getElem_cons hk
theorem qhl {l:List Fld} {k:Nat} {f:Fld} {T:Tree} (h:l[k]? = some f) (hu:f.usual (T.at_ k) = true):usuals (l.drop k) T k = usuals (l.drop (k + 1)) T (k + 1):=by
 rw [qct h]
 show (f.usual (T.at_ k) && usuals (l.drop (k + 1)) T (k + 1)) = _
 rw [hu,Bool.true_and]
theorem qhm {l:List Fld} {k:Nat} {f:Fld} {T:Tree} (h:l[k]? = some f) (hu:f.usual (T.at_ k) = false):usuals (l.drop k) T k = false:=by
 rw [qct h]
 show (f.usual (T.at_ k) && usuals (l.drop (k + 1)) T (k + 1)) = _
 rw [hu,Bool.false_and]
theorem qbW {l:List Fld} {k:Nat} {T:Tree} (h:l.length ≤ k):usuals (l.drop k) T k = true:=by
 rw [List.drop_eq_nil_of_le h]; rfl
section
variable {W:Fld → Tree → Bs} {l:List Fld} {k:Nat} {a x1 x2 x3 x4 x5 x6 v:Int} {s:List Fld} {t:Tree} {m:Nat}
theorem qev (h:l[k]? = some (.mk a x1 x2 x3 x4 x5 x6 s)) (h1:x4 < 0) (h2:Fld.has (.mk a x1 x2 x3 x4 x5 x6 s) v = true):qaX W (l.drop k) v t k = W (.mk a x1 x2 x3 x4 x5 x6 s) (t.at_ k) ++ qaX W (l.drop (k + 1)) v t (k + 1):=by
 rw [qct h,qaX,if_pos ⟨h1,h2⟩]
theorem qii (h:l[k]? = some (.mk a x1 x2 x3 x4 x5 x6 s)) (h1:¬ x4 < 0):qaX W (l.drop k) v t k = qaX W (l.drop (k + 1)) v t (k + 1):=by
 rw [qct h,qaX,if_neg (fun h=>h1 h.1),List.nil_append]
theorem qij (h:l[k]? = some (.mk a x1 x2 x3 x4 x5 x6 s)) (h2:Fld.has (.mk a x1 x2 x3 x4 x5 x6 s) v = false):qaX W (l.drop k) v t k = qaX W (l.drop (k + 1)) v t (k + 1):=by
 rw [qct h,qaX,if_neg (fun h=>by rw [h2] at h; cases h.2),List.nil_append]
theorem qgT (h:l.length ≤ k):qaX W (l.drop k) v t k = []:=by rw [List.drop_eq_nil_of_le h]; rfl
theorem qdV (h:l[k]? = some (.mk a x1 x2 x3 x4 x5 x6 s)) (h1:x4 = (m:Int)) (h2:Fld.usual (.mk a x1 x2 x3 x4 x5 x6 s) (t.at_ k) = false):tagB W (l.drop k) m t k = uv m ++ uv (W (.mk a x1 x2 x3 x4 x5 x6 s) (t.at_ k)).length ++ W (.mk a x1 x2 x3 x4 x5 x6 s) (t.at_ k) ++ tagB W (l.drop (k + 1)) m t (k + 1):=by
 rw [qct h,tagB,if_pos ⟨h1,h2⟩]
theorem qi4 (h:l[k]? = some (.mk a x1 x2 x3 x4 x5 x6 s)) (h1:x4 ≠ (m:Int)):tagB W (l.drop k) m t k = tagB W (l.drop (k + 1)) m t (k + 1):=by
 rw [qct h,tagB,if_neg (fun h=>h1 h.1),List.nil_append]
theorem qi5 (h:l[k]? = some (.mk a x1 x2 x3 x4 x5 x6 s)) (h2:Fld.usual (.mk a x1 x2 x3 x4 x5 x6 s) (t.at_ k) = true):tagB W (l.drop k) m t k = tagB W (l.drop (k + 1)) m t (k + 1):=by
 rw [qct h,tagB,if_neg (fun h=>by rw [h2] at h; cases h.2),List.nil_append]
theorem qj3 (h:l.length ≤ k):tagB W (l.drop k) m t k = []:=by rw [List.drop_eq_nil_of_le h]; rfl
theorem qj4 (h:l[k]? = some (.mk a x1 x2 x3 x4 x5 x6 s)) (h1:x4 = (m:Int)) (h2:Fld.usual (.mk a x1 x2 x3 x4 x5 x6 s) (t.at_ k) = false):tagN W (l.drop k) m t k = 1 + tagN W (l.drop (k + 1)) m t (k + 1):=by
 rw [qct h,tagN,if_pos ⟨h1,h2⟩]
theorem qi6 (h:l[k]? = some (.mk a x1 x2 x3 x4 x5 x6 s)) (h1:x4 ≠ (m:Int)):tagN W (l.drop k) m t k = tagN W (l.drop (k + 1)) m t (k + 1):=by
 rw [qct h,tagN,if_neg (fun h=>h1 h.1),Nat.zero_add]
theorem qi7 (h:l[k]? = some (.mk a x1 x2 x3 x4 x5 x6 s)) (h2:Fld.usual (.mk a x1 x2 x3 x4 x5 x6 s) (t.at_ k) = true):tagN W (l.drop k) m t k = tagN W (l.drop (k + 1)) m t (k + 1):=by
 rw [qct h,tagN,if_neg (fun h=>by rw [h2] at h; cases h.2),Nat.zero_add]
theorem qj5 (h:l.length ≤ k):tagN W (l.drop k) m t k = 0:=by rw [List.drop_eq_nil_of_le h]; rfl
theorem qlr (n:Nat):0 < (uv n).length:=by
 rw [uv]; split <;> simp
theorem qhn (W:Fld → Tree → Bs) (m:Nat) (t:Tree):∀ (l:List Fld) (i:Nat),tagN W l m t i ≤ (tagB W l m t i).length
 | [],i=>Nat.zero_le _
 | f :: r,i=>by
  have:=qhn W m t r (i + 1)
  rw [tagN,tagB,List.length_append]
  split
  ·have h1:=qlr m
   simp only [List.length_append]; omega
  simp; omega
theorem qhE (W:Fld → Tree → Bs) (l:List Fld) (t:Tree):∀ k,qa3 W l t k ≤ (qaQ W l t k).length
 | 0=>Nat.zero_le _
 | k + 1=>by
  have h1:=qhE W l t k
  have h2:=qhn W k t l 0
  rw [qa3,qaQ,List.length_append]; omega
theorem qik (W:Fld → Tree → Bs) (l:List Fld) (t:Tree) {i j:Nat} (h:i ≤ j):(qaQ W l t i).length ≤ (qaQ W l t j).length:=by
 induction j with
 | zero=>rw [Nat.le_zero.1 h]; omega
 | succ j ih =>
  rcases Nat.eq_or_lt_of_le h with he | he
  ·rw [he]; omega
  have:=ih (by omega)
  rw [qaQ,List.length_append]; omega
end
theorem qfY (W:Fld → Tree → Bs) (l:List Fld) (v:Int) (n:Int) (s:Bs) (b:Bool) (ll:List Tree) (u:List (Int × Bs)):qer W l v true (.mk n s b ll u) =
  qaX W l v (.mk n s b ll u) 0 ++ uv (qa3 W l (.mk n s b ll u) (qaB l).toNat + (qai l u).length) ++ (qaQ W l (.mk n s b ll u) (qaB l).toNat ++ qbf (qai l u)):=by
 rw [qer,if_pos rfl,List.append_assoc]; rfl
theorem qi8 (W:Fld → Tree → Bs) (l:List Fld) (v:Int) (t:Tree):qer W l v false t = qaX W l v t 0:=by
 rw [qer]; simp
theorem qi9 (l:List Fld):IntKind.i64.wrap (qaB l) = (((qaB l).toNat:Nat):Int):=by
 have:=qec l
 rw [wrap_i64 (by omega) (by omega)]; omega
theorem qdW {l:List (Int × Bs)} {k:Nat} {i:Int} {s:Bs} (h:l[k]? = some (i,s)):qbf (l.take (k + 1)) = qbf (l.take k) ++ (uv i.toNat ++ uv (qaI s).length ++ qaI s):=by
 unfold qbf; exact qdd h
theorem qgh {l:List (Int × Bs)} (k:Nat):(qbf (l.take k)).length ≤ (qbf l).length:=by
 unfold qbf; exact qc0 l _ k
theorem qhF:∀ {l:List Tree} {i:Nat} {x:Tree},l[i]? = some x → x.depth ≤ deep l
 | [],i,x,h=>by simp at h
 | a :: r,0,x,h=>by
  simp only [List.getElem?_cons_zero,Option.some.injEq] at h
  subst h
  exact Nat.le_max_left _ _
 | a :: r,i + 1,x,h=>Nat.le_trans (qhF (l:=r) (i:=i) (by simpa using h)) (Nat.le_max_right _ _)
theorem qgU (n:Int) (s:Bs) (b:Bool) (l:List Tree) (u:List (Int × Bs)):(Tree.mk n s b l u).depth = deep l + 1:=by rw [Tree.depth]
theorem qc3 {α:Type} {l:List α} {k:Nat} {x:α} (h:l[k]? = some x):l.take (k + 1) = l.take k ++ [x]:=by rw [List.take_add_one,h]; rfl
section
variable {F:Nat → Nat → Prop} {w0 w:World} {tb:Tb} {rs:List Rw}
theorem qja (hW:WOk w0 Nil w tb rs) {k:Nat} {r:Rw} (hk:rs[k]? = some r):∀ g,r.A.map (·.block) = some g → ∀ o,Fp F w0 g o:=by
 intro g hg o
 rcases hW.ownM k r hk g hg with h | h
 ·exact .inr h
 exact (h 0).elim
theorem qhG (hW:WOk w0 Nil w tb rs) {k:Nat} {A:Option Addr} {c e n:Nat} {xs:List Value} {l:List Tree} {css:List (List Value)} (hk:rs[k]? = some ⟨A,c,e,5,n,xs⟩) (hT:Trees w (Imm F w0 w tb rs) xs l css) (hn:n = l.length) (hsm:l.length ≤ 1099511627776) :
  Slots w (Fp F w0) 5 A c l.length (fun i=>css.getD i []) ∧ ∀ (i:Nat) (x:Tree),l[i]? = some x → TreeR w (Fp F w0) (css.getD i []) x :=
 (hT.move (Step.refl w Nil) nilM qb8).slots (hW.own k _ hk) hn hsm (qja hW hk)
theorem qkW (hW:WOk w0 Nil w tb rs) {k:Nat} {A:Option Addr} {c e n:Nat} {xs:List Value} {l:List (Int × Bs)} {css:List (List Value)} (hk:rs[k]? = some ⟨A,c,e,2,n,xs⟩) (hT:Tags w (Imm F w0 w tb rs) xs l css) (hn:n = l.length) (hsm:l.length ≤ 1099511627776):TagsR w (Fp F w0) A c l :=
 (hT.move (Step.refl w Nil) nilM qb8).slots (hW.own k _ hk) hn hsm (qja hW hk)
theorem qj6 (hW:WOk w0 Nil w tb rs) {A1 A2 A3:Option Addr} {c1 c2 c3 n2 n3:Nat} {n:Int} {s:Bs} {b:Bool} {l:List Tree} {u:List (Int × Bs)} {xs:Nat → List Value} {m:Nat} (hm:m = s.length) (hS:Octs w (Fp F w0) A1 c1 s) (hn2:n2 = l.length) (hL:Slots w (Fp F w0) 5 A2 c2 l.length xs ∧ ∀ (i:Nat) (x:Tree),l[i]? = some x → TreeR w (Fp F w0) (xs i) x)
  (hn3:n3 = u.length) (hU:TagsR w (Fp F w0) A3 c3 u) {t:Tree} (ht:t = .mk n s b l u):qd4 w0 F t (.returned (.agg #[.int .i64 n,.slice A1 m c1,.bool b,.slice A2 n2 c2,.slice A3 n3 c3])) w:=by
 subst hm; subst hn2; subst hn3; subst ht
 exact ⟨_,rfl,TreeR.mk xs hS hL.1 hL.2 hU,hW.step⟩
theorem qkX {G:Nat → Nat → Prop}:∀ b o,G b o → b < w0.heap.size → Fp G w0 b o:=fun _ _ h _=>.inl h
end
theorem qgV (W:Fld → Tree → Tree) (t:Tree):∀ {l:List Fld} {i k:Nat} {f:Fld},l[k]? = some f → (qhf W l t i)[k]? = some (W f (t.at_ (i + k)))
 | [],i,k,f,h=>by simp at h
 | a :: r,i,0,f,h=>by
  simp only [List.getElem?_cons_zero,Option.some.injEq] at h
  subst h; rfl
 | a :: r,i,k + 1,f,h=>by
  rw [qhf,List.getElem?_cons_succ,qgV W t (l:=r) (i:=i + 1) (by simpa using h),show i + 1 + k = i + (k + 1) by omega]
theorem qj7 {W:Fld → Tree → Tree} {t:Tree} {l:List Fld} {k:Nat} {f:Fld} (h:l[k]? = some f):(qhf W l t 0)[k]? = some (W f (t.at_ k)):=by
 have:=qgV W t (i:=0) h
 rwa [Nat.zero_add] at this
def qcD (u:List (Int × Bs)):List (Int × Bs):=u.map fun x=>(x.1,qaI x.2)
theorem qil {u:List (Int × Bs)} {k:Nat} {i:Int} {s:Bs} (h:u[k]? = some (i,s)):(qcD u)[k]? = some (i,qaI s):=by
 rw [qcD,List.getElem?_map,h]; rfl
theorem qcV (u:List (Int × Bs)):(qcD u).length = u.length:=by rw [qcD,List.length_map]
section
variable {p:List Fld → Tree → Tree} {k x1 x2 x3 x4 x5 x6 v n:Int} {l:List Fld} {s:Bs} {b null:Bool} {ll:List Tree} {u:List (Int × Bs)}
end
theorem qfZ:∀ {l:List Fld} {f:Fld},plains l → f ∈ l → f.plain
 | [],f,_,h=>by cases h
 | a :: r,f,hp,h=>by
  rcases List.mem_cons.1 h with rfl | h
  ·exact hp.1
  exact qfZ (l:=r) hp.2 h
theorem qjb {f:Fld} (h:f.plain):plains f.sub:=by cases f; exact h.2
def qjc (w:World):Ending → World → Prop:=fun en w'=>∃ b,en = .returned (.bool b) ∧ Step w w' Nil
structure Flds (w:World) (F:Nat → Nat → Prop) (xs:List Value) (l:List Fld) (css:List (List Value)):Prop where
 flat:Flat 8 xs css
 len:css.length = l.length
 each:∀ (i:Nat) (c:List Value) (x:Fld),css[i]? = some c → l[i]? = some x → FldR w F c x
theorem Flds.nil (w:World) (F:Nat → Nat → Prop):Flds w F [] [] []:=⟨Flat.nil 8,rfl,fun i c x h=>by simp at h⟩
theorem FldR.eight {w:World} {F:Nat → Nat → Prop} {cs:List Value} {t:Fld} (h:FldR w F cs t):cs.length = 8:=by
 obtain ⟨k,x1,x2,x3,x4,x5,x6,l,A,c,xs,rfl,rfl,_⟩:=h.open_; rfl
theorem FldR.one {w:World} {F:Nat → Nat → Prop} {cs:List Value} {t:Fld} (h:FldR w F cs t):∀ u ∈ cs,u.oneCell' = true:=by
 obtain ⟨k,x1,x2,x3,x4,x5,x6,l,A,c,xs,rfl,rfl,_⟩:=h.open_
 intro v hv
 simp only [List.mem_cons,List.not_mem_nil,or_false] at hv
 rcases hv with rfl | rfl | rfl | rfl | rfl | rfl | rfl | rfl <;> rfl
theorem Flds.snoc {w:World} {F:Nat → Nat → Prop} {xs:List Value} {l:List Fld} {css:List (List Value)} (h:Flds w F xs l css) {c:List Value} {x:Fld} (hx:FldR w F c x):Flds w F (xs ++ c) (l ++ [x]) (css ++ [c]):=by
 refine ⟨h.flat.snoc hx.eight,by simp [h.len],fun i d y hd hy=>?_⟩
 rcases qb1 hd with ⟨h1,h2⟩ | ⟨h1,rfl⟩
 ·rcases qb1 hy with ⟨_,h3⟩ | ⟨h3,_⟩
  ·exact h.each i d y h2 h3
  have:=h.len; omega
 rcases qb1 hy with ⟨h3,_⟩ | ⟨_,rfl⟩
 ·have:=h.len; omega
 exact hx
theorem Flds.slots {w0 w:World} {tb:Tb} {rs:List Rw} {F:Nat → Nat → Prop} (hW:WOk w0 Nil w tb rs) {k e n:Nat} {A:Option Addr} {c:Nat} {xs:List Value} {l:List Fld} {css:List (List Value)} (hk:rs[k]? = some ⟨A,c,e,8,n,xs⟩) (h:Flds w (Fp F w0) xs l css) (hn:n = l.length) (hsm:l.length ≤ 1099511627776) :
  Slots w (Fp F w0) 8 A c l.length (fun i=>css.getD i []) ∧ ∀ (i:Nat) (x:Fld),l[i]? = some x → FldR w (Fp F w0) (css.getD i []) x:=by
 subst hn
 have ho:=hW.own k _ hk
 have h1:∀ u ∈ xs,u.oneCell' = true:=by
  intro v hv
  rw [h.flat.eq] at hv
  obtain ⟨c,hc,hv⟩:=List.mem_flatten.1 hv
  obtain ⟨i,hi,rfl⟩:=List.getElem_of_mem hc
  have hl:=h.len
  exact (h.each i _ _ (List.getElem?_eq_getElem hi) (List.getElem?_eq_getElem (show i < l.length by omega))).one v hv
 refine ⟨?_,fun i x hx=>?_⟩
 ·have hx:=h.flat
  simp only [Rw.v] at ho
  rw [← h.len] at ho ⊢
  exact hx.slots ho h1 (by rw [h.len]; exact hsm) (qja hW hk)
 have hi:i < css.length:=by rw [h.len]; exact (List.getElem?_eq_some_iff.1 hx).1
 have:css.getD i [] = css[i]:=by rw [List.getD_eq_getElem?_getD,List.getElem?_eq_getElem hi]; rfl
 rw [this]
 exact h.each i _ x (List.getElem?_eq_getElem hi) hx
theorem qcP (w:World) (F:Nat → Nat → Prop):Slots w F 8 none 0 ([]:List Fld).length (fun _=>[]) ∧ ∀ (i:Nat) (x:Fld),([]:List Fld)[i]? = some x → FldR w F [] x :=
 ⟨Slots.nil w F 8 _,fun i x h=>by simp at h⟩
def qls (w:World) (F:Nat → Nat → Prop) (l:List Fld) (x:Int):Ending → World → Prop:=fun en w'=>∃ A c,en = .returned (.agg #[.slice A l.length c,.int .i64 x]) ∧ FldsR w' (Fp F w) A c l ∧ Step w w' Nil
theorem qfu (y:Int × Bs) (r:List (Int × Bs)) (k:Int):qdr (y :: r) k = if y.1 < k then qdr r k + 1 else 0:=by
 unfold qdr
 rw [List.takeWhile_cons]
 by_cases h:y.1 < k
 ·simp [h]
 simp [h]
theorem qd6 {least:Int} {y t:Int × Bs} {r:List (Int × Bs)} (h:y.1 < t.1):qbY least (y :: r) t = y :: qbY least r t:=by
 unfold qbY
 rw [qfu,if_pos h]
 simp only [List.length_cons,Nat.add_lt_add_iff_right,List.getD_cons_succ,List.take_succ_cons,List.drop_succ_cons,List.cons_append]
 split <;> rfl
theorem qd7 {least:Int} {y t:Int × Bs} {r:List (Int × Bs)} (h:¬ y.1 < t.1):qbY least (y :: r) t = if t.1 < least ∨ y.1 = t.1 then y :: r else t :: y :: r:=by
 unfold qbY
 rw [qfu,if_neg h]
 simp only [List.length_cons,Nat.zero_lt_succ,List.getD_cons_zero,List.take_zero,List.drop_zero,List.nil_append,true_and]
theorem qf0 {least:Int} {t:Int × Bs}:qbY least [] t = if t.1 < least then [] else [t]:=by
 unfold qbY
 simp [qdr]
theorem qeO {least:Int} {t:Int × Bs}:∀ {out:List (Int × Bs)},∀ x ∈ qbY least out t,x = t ∨ x ∈ out
 | [],x,hx=>by
  rw [qf0] at hx
  split at hx
  ·cases hx
  exact .inl (List.mem_singleton.1 hx)
 | y :: r,x,hx=>by
  by_cases h:y.1 < t.1
  ·rw [qd6 h] at hx
   rcases List.mem_cons.1 hx with rfl | hx
   ·exact .inr (List.mem_cons_self ..)
   rcases qeO x hx with h1 | h1
   ·exact .inl h1
   exact .inr (List.mem_cons_of_mem _ h1)
  rw [qd7 h] at hx
  split at hx
  ·exact .inr hx
  rcases List.mem_cons.1 hx with rfl | hx
  ·exact .inl rfl
  exact .inr hx
theorem qew {least:Int} {t:Int × Bs}:∀ {out:List (Int × Bs)},qdf out → qdf (qbY least out t)
 | [],_=>by
  rw [qf0]
  split
  ·exact List.Pairwise.nil
  exact List.pairwise_singleton _ _
 | y :: r,h=>by
  have h1:=@List.rel_of_pairwise_cons _ _ _ _ h
  have h2:=List.Pairwise.of_cons h
  by_cases hlt:y.1 < t.1
  ·rw [qd6 hlt]
   refine List.pairwise_cons.2 ⟨fun z hz=>?_,qew h2⟩
   rcases qeO z hz with rfl | hz
   ·exact hlt
   exact h1 hz
  rw [qd7 hlt]
  split
  ·exact h
  rename_i hn
  refine List.pairwise_cons.2 ⟨fun z hz=>?_,h⟩
  rcases List.mem_cons.1 hz with rfl | hz
  ·omega
  have:=h1 hz; omega
theorem qe2 {least:Int}:∀ {l out:List (Int × Bs)},qdf out → qdf (l.foldl (qbY least) out)
 | [],_,h=>h
 | x :: r,_,h=>qe2 (l:=r) (qew h)
theorem qgW {least:Int}:∀ {l out:List (Int × Bs)},(l.foldl (qbY least) out).length ≤ out.length + l.length
 | [],_=>Nat.le_refl _
 | x :: r,out=>by
  have h1:=qgW (least:=least) (l:=r) (out:=qbY least out x)
  have h2:=qih least out x
  rw [List.foldl_cons,List.length_cons]
  omega
theorem qgX {least:Int}:∀ {l out:List (Int × Bs)},∀ x ∈ l.foldl (qbY least) out,x ∈ out ∨ x ∈ l
 | [],_,x,hx=>.inl hx
 | y :: r,out,x,hx=>by
  rcases qgX (l:=r) x hx with h | h
  ·rcases qeO x h with rfl | h
   ·exact .inr (List.mem_cons_self ..)
   exact .inl h
  exact .inr (List.mem_cons_of_mem _ h)
theorem qfv (l:List Fld) (u:List (Int × Bs)):qdf (qai l u):=qe2 List.Pairwise.nil
theorem qgY (l:List Fld) (u:List (Int × Bs)):(qai l u).length ≤ 32767:=by
 have h:=qgW (least:=qaB l) (l:=u.take 32767) (out:=[])
 rw [List.length_take,List.length_nil] at h
 unfold qai
 omega
theorem qgZ {l:List Fld} {u:List (Int × Bs)}:∀ x ∈ qai l u,x ∈ u:=fun x hx=>by
 rcases qgX x hx with h | h
 ·cases h
 exact List.mem_of_mem_take h
theorem qgi {u:List (Int × Bs)} (h:qdf u):qdf (qcD u):=List.pairwise_map.2 h
theorem qef (u:List (Int × Bs)):qcK (qcD u) = qbf u:=by
 unfold qcK qcD qbf tagR
 rw [List.flatMap_map]
theorem qho (v:Int) (d:Nat) (l:List Fld) (t:Tree):(fitT v d l t).U = qcD (qai l t.U):=by cases d <;> rfl
theorem qhH {v:Int} {d:Nat} {l:List Fld} {t:Tree} {i:Nat} {f:Fld} (h:l[i]? = some f):(fitT v (d + 1) l t).at_ i = qcO (fitT v d) v f (t.at_ i):=by
 have h1:=qj7 (W:=qcO (fitT v d) v) (t:=t) h
 have e:(fitT v (d + 1) l t).L = qhf (qcO (fitT v d) v) l t 0:=rfl
 rw [Tree.at_,e,List.getD_eq_getElem?_getD,h1]
 rfl
theorem qim {v:Int} {d:Nat} {l:List Fld} {t:Tree} {i:Nat} {k x1 x2 x3 x4 x5 x6:Int} {s:List Fld} (h:l[i]? = some (.mk k x1 x2 x3 x4 x5 x6 s)) (hk:k < 8):((fitT v (d + 1) l t).at_ i).N = (t.at_ i).N:=by
 rw [qhH h]
 have e1:k ≠ 11:=by omega
 have e2:¬ (k = 8 ∨ k = 9):=by omega
 have e3:k ≠ 10:=by omega
 simp [qcO,qbD,Fld.kind,e1,e2,e3,Tree.N]
theorem qg0 {v:Int} (h0:0 ≤ v) (h1:v < 32768):IntKind.i16.wrap v = v:=by
 have:IntKind.i16.wrap v = (v + 32768) % 65536 - 32768:=by simp [IntKind.wrap,IntKind.signed,IntKind.bits]; omega
 omega
theorem qeP (x:Int):be 8 (IntKind.i64.wrap x) = be 8 x:=by
 rw [IntKind.wrap_i64]
 simp only [be,List.cons.injEq,and_true]
 refine ⟨qbg ?_,qbg ?_,qbg ?_,qbg ?_,qbg ?_,qbg ?_,qbg ?_,qbg ?_⟩ <;> simp only [Int.reducePow] <;> omega
theorem qf1 (x:Int):be 1 (IntKind.i8.wrap x) = be 1 x:=by
 have:IntKind.i8.wrap x = (x + 128) % 256 - 128:=by simp [IntKind.wrap,IntKind.signed,IntKind.bits]; omega
 rw [this]
 simp only [be,List.cons.injEq,and_true]
 refine qbg ?_
 simp only [Int.reducePow]; omega
def qhI (s:Bs):Bs:=(List.range 16).map fun i=>s.getD i 0
theorem qdl (s:Bs):qhI s = qbs s:=by
 apply List.ext_getElem?
 intro i
 unfold qhI qbs
 rw [List.getElem?_map,List.getElem?_append,List.length_take]
 by_cases h:i < 16
 ·rw [List.getElem?_range h]
  by_cases hs:i < s.length
  ·rw [if_pos (by omega),List.getElem?_take,if_pos h,Option.map_some,List.getD_eq_getElem?_getD,List.getElem?_eq_getElem hs]; rfl
  rw [if_neg (by omega),List.getElem?_replicate,if_pos (by omega),Option.map_some,List.getD_eq_getElem?_getD,List.getElem?_eq_none (by omega)]; rfl
 rw [List.getElem?_eq_none (by simp; omega)]
 by_cases hs:i < min 16 s.length
 ·omega
 rw [if_neg hs,List.getElem?_replicate,if_neg (by omega)]; rfl
theorem qlt {x m:Int} (h0:0 ≤ x) (h1:x ≤ 255) (hm:0 < m) (hm':m ≤ 32768):0 ≤ Int.tmod x m ∧ Int.tmod x m < 32768:=by
 rw [Int.tmod_eq_emod_of_nonneg h0]
 have g1:=Int.emod_nonneg x (show m ≠ 0 by omega)
 have g2:=Int.emod_lt_of_pos x hm
 omega
def usz:List (Int × Bs) → Nat
 | []=>0
 | x :: r=>(1 + (uv x.1.toNat).length + x.2.length) + usz r
def Tree.size:Tree → Nat
 | .mk _ s _ l u=>sizes l + (1 + s.length + usz u)
where sizes:List Tree → Nat
 | []=>0
 | t :: r=>t.size + sizes r
abbrev sizes:=Tree.size.sizes
theorem Tree.size_mk (n:Int) (s:Bs) (b:Bool) (l:List Tree) (u:List (Int × Bs)):(Tree.mk n s b l u).size = sizes l + (1 + s.length + usz u):=by rw [Tree.size]
theorem Tree.size_pos (t:Tree):1 ≤ t.size:=by cases t; rw [Tree.size_mk]; omega
theorem Tree.size_S (t:Tree):t.S.length ≤ t.size:=by cases t; rw [Tree.size_mk]; show List.length _ ≤ _; simp only [Tree.S]; omega
theorem Tree.size_U (t:Tree):usz t.U ≤ t.size:=by cases t; rw [Tree.size_mk]; simp only [Tree.U]; omega
theorem Tree.size_L (t:Tree):sizes t.L ≤ t.size:=by cases t; rw [Tree.size_mk]; simp only [Tree.L]; omega
theorem qg1:∀ {l:List Tree} {i:Nat} {x:Tree},l[i]? = some x → x.size ≤ sizes l
 | [],i,x,h=>by simp at h
 | t :: r,0,x,h=>by
  simp only [List.getElem?_cons_zero,Option.some.injEq] at h
  subst h
  exact Nat.le_add_right _ _
 | t :: r,i + 1,x,h=>Nat.le_trans (qg1 (l:=r) (i:=i) (by simpa using h)) (Nat.le_add_left _ _)
theorem qf2:∀ (l:List Tree) (k:Nat),sizes (l.take k) ≤ sizes l
 | [],k=>by simp
 | t :: r,0=>Nat.zero_le _
 | t :: r,k + 1=>Nat.add_le_add_left (qf2 r k) _
theorem qjd:∀ (l:List Tree),l.length ≤ sizes l
 | []=>Nat.zero_le _
 | t :: r=>by
  have h1:=t.size_pos
  have h2:=qjd r
  show r.length + 1 ≤ t.size + sizes r
  omega
theorem qje (t:Tree) (i:Nat):(t.at_ i).size ≤ t.size:=by
 unfold Tree.at_
 rw [List.getD_eq_getElem?_getD]
 cases h:t.L[i]? with
 | none =>
  have h1:=t.size_pos
  have:Tree.zero.size = 1:=by unfold Tree.zero; rw [Tree.size_mk]; rfl
  show Tree.zero.size ≤ _
  omega
 | some x=>exact Nat.le_trans (qg1 h) t.size_L
theorem qeQ:∀ (a b:List (Int × Bs)),usz (a ++ b) = usz a + usz b
 | [],b=>by simp [usz]
 | x :: r,b=>by
  show (1 + _ + _) + usz (r ++ b) = (1 + _ + _) + usz r + usz b
  rw [qeQ r b]; omega
theorem qkY (k:Int) (out:List (Int × Bs)) (t:Int × Bs):usz (qbY k out t) ≤ usz out + usz [t]:=by
 unfold qbY
 dsimp only
 split
 ·omega
 have h:usz out = usz (out.take (qdr out t.1)) + usz (out.drop (qdr out t.1)):=by rw [← qeQ,List.take_append_drop]
 rw [qeQ]
 show _ + (_ + usz (out.drop _)) ≤ _
 rw [h]
 simp only [usz]
 omega
theorem qhJ (k:Int):∀ (l out:List (Int × Bs)),usz (l.foldl (qbY k) out) ≤ usz out + usz l
 | [],out=>by simp [usz]
 | t :: r,out=>by
  rw [List.foldl_cons]
  refine Nat.le_trans (qhJ k r _) ?_
  have:=qkY k out t
  simp only [usz] at this ⊢
  omega
theorem qhK:∀ (l:List (Int × Bs)) (k:Nat),usz (l.take k) ≤ usz l
 | [],k=>by simp
 | t :: r,0=>Nat.zero_le _
 | t :: r,k + 1=>Nat.add_le_add_left (qhK r k) _
theorem qhp (l:List Fld) (u:List (Int × Bs)):usz (qai l u) ≤ usz u:=by
 unfold qai
 refine Nat.le_trans (qhJ _ _ _) ?_
 have:=qhK u 32767
 simp only [usz]; omega
theorem qg2 (s:Bs):(qaI s).length ≤ s.length:=by simp only [qaI,List.length_take]; omega
theorem qg3:∀ (l:List (Int × Bs)),(qbf l).length ≤ 10 * usz l
 | []=>by simp [qbf]
 | x :: r=>by
  have h1:=qg3 r
  have h2:=qes (qaI x.2).length (by have:=qbh x.2; omega)
  have h3:=qg2 x.2
  unfold qbf at h1 ⊢
  rw [List.flatMap_cons,List.length_append,List.length_append,List.length_append]
  show _ ≤ 10 * ((1 + _ + _) + usz r)
  omega
theorem qkx:∀ (n:Nat),(uv n).length ≤ n + 1:=by
 intro n
 induction n using Nat.strongRecOn with
 | _ n ih =>
  by_cases h:n < 128
  ·rw [qcL h]; simp
  rw [qd5 (by omega),List.length_cons]
  have:=ih (n / 128) (by omega)
  omega
def Fld.cost:Fld → Nat
 | .mk _ _ _ _ _ _ _ sub=>64 + (3 * (((qaB sub).toNat + 1) * costs sub) + 64)
where costs:List Fld → Nat
 | []=>0
 | f :: r=>(20 + f.cost) + costs r
abbrev costs:=Fld.cost.costs
def qhq (l:List Fld):Nat:=3 * (((qaB l).toNat + 1) * costs l) + 64
theorem qkZ (f:Fld):f.cost = 64 + qhq f.sub:=by
 cases f; rw [Fld.cost]; rfl
theorem qeR (f:Fld) (r:List Fld):costs (f :: r) = (20 + f.cost) + costs r:=by
 show Fld.cost.costs (f :: r) = _
 rw [Fld.cost.costs]
theorem qg4 {p:Tree → Bs} {c:Nat} (hp:∀ t,(p t).length ≤ c * t.size) (kind:Int) (null flex:Bool) (t:Tree):(qa1 p kind null flex t).length ≤ (32 + c) * t.size:=by
 have h1:=t.size_pos
 have h2:=t.size_S
 have hm:(32 + c) * t.size = 32 * t.size + c * t.size:=Nat.add_mul _ _ _
 have hs:∀ (n:Nat),n ≤ 8 → (qav flex null (if null = true then ([]:Bs) else qaI t.S).length n ++ (if null = true then ([]:Bs) else qaI t.S)).length ≤ 32 * t.size:=by
  intro n hn
  have h3:(if null = true then ([]:Bs) else qaI t.S).length ≤ t.S.length:=by
   split
   ·exact Nat.zero_le _
   exact qg2 _
  have h5:(if null = true then ([]:Bs) else qaI t.S).length ≤ 32767:=by
   split
   ·exact Nat.zero_le _
   exact qbh _
  have h4:=qeb flex null (if null = true then ([]:Bs) else qaI t.S).length n (by omega) hn
  rw [List.length_append]; omega
 unfold qa1
 split
 ·show 1 ≤ _; omega
 split
 ·rw [qbi]; omega
 split
 ·have:=hs 2 (by omega); exact Nat.le_trans this (by omega)
 split
 ·have:=hs 4 (by omega); exact Nat.le_trans this (by omega)
 split
 ·have:=hp t; omega
 rw [be_length]; have:=qbE kind; omega
theorem qf3 {g:Tree → Bs} {c:Nat} (hg:∀ t,(g t).length ≤ c * t.size):∀ (l:List Tree),(l.flatMap g).length ≤ c * sizes l
 | []=>by simp
 | t :: r=>by
  have h1:=hg t
  have h2:=qf3 hg r
  rw [List.flatMap_cons,List.length_append]
  show _ ≤ c * (t.size + sizes r)
  rw [Nat.mul_add]; omega
theorem qjf {p:Tree → Bs} {c:Nat} (hp:∀ t,(p t).length ≤ c * t.size) (f:Fld) (v:Int) (flex:Bool) (t:Tree):(qdc p f v flex t).length ≤ (64 + c) * t.size:=by
 have h1:=t.size_pos
 have h2:=t.size_L
 have hm:(64 + c) * t.size = 64 * t.size + c * t.size:=Nat.add_mul _ _ _
 have hm2:(32 + c) * t.size = 32 * t.size + c * t.size:=Nat.add_mul _ _ _
 unfold qdc
 dsimp only
 split
 ·rw [List.length_append]
  have hl:(if f.nul v t = true then ([]:List Tree) else qao t.L).length ≤ 32767:=by
   split
   ·exact Nat.zero_le _
   exact qcZ _
  have h3:=qeb flex (f.nul v t) (if f.nul v t = true then ([]:List Tree) else qao t.L).length 4 (by omega) (by omega)
  have h4:=qf3 (g:=fun x=>qa1 p f.of false flex x) (fun x=>qg4 hp f.of false flex x) (if f.nul v t = true then ([]:List Tree) else qao t.L)
  have h5:sizes (if f.nul v t = true then ([]:List Tree) else qao t.L) ≤ t.size:=by
   split
   ·exact Nat.zero_le _
   exact Nat.le_trans (qf2 _ _) h2
  have h6:(32 + c) * sizes (if f.nul v t = true then ([]:List Tree) else qao t.L) ≤ (32 + c) * t.size:=Nat.mul_le_mul_left _ h5
  omega
 split
 ·split
  ·rw [be_length]; omega
  rw [List.length_append,be_length]
  have:=hp t
  omega
 have:=qg4 hp f.kind (f.nul v t) flex t
 omega
section
variable {w:Fld → Tree → Bs}
theorem qhL (v:Int) (t:Tree):∀ (l:List Fld) (i:Nat),(∀ f ∈ l,∀ t,(w f t).length ≤ f.cost * t.size) → (qaX w l v t i).length ≤ costs l * t.size
 | [],i,_=>by simp [qaX]
 | f :: r,i,h=>by
  have h1:=qhL v t r (i + 1) fun g hg=>h g (List.mem_cons_of_mem _ hg)
  have h2:f.cost * (t.at_ i).size ≤ f.cost * t.size:=Nat.mul_le_mul_left _ (qje t i)
  have h3:=h f (List.mem_cons_self ..) (t.at_ i)
  rw [qaX,List.length_append,qeR,Nat.add_mul,Nat.add_mul]
  have h4:(if f.tag < 0 ∧ f.has v = true then w f (t.at_ i) else []).length ≤ f.cost * t.size:=by
   split
   ·omega
   exact Nat.zero_le _
  omega
theorem qjg (t:Tree) (k:Nat) (hk:k < 18446744073709551616):∀ (l:List Fld) (i:Nat),(∀ f ∈ l,∀ t,(w f t).length ≤ f.cost * t.size) → (tagB w l k t i).length ≤ 2 * (costs l * t.size)
 | [],i,_=>by simp [tagB]
 | f :: r,i,h=>by
  have h1:=qjg t k hk r (i + 1) fun g hg=>h g (List.mem_cons_of_mem _ hg)
  have h2:f.cost * (t.at_ i).size ≤ f.cost * t.size:=Nat.mul_le_mul_left _ (qje t i)
  have h3:=h f (List.mem_cons_self ..) (t.at_ i)
  have h5:=t.size_pos
  have h6:=qes k hk
  have h7:=qkx (w f (t.at_ i)).length
  rw [tagB,List.length_append,qeR,Nat.add_mul,Nat.add_mul]
  have h4:(if f.tag = k ∧ f.usual (t.at_ i) = false then uv k ++ uv (w f (t.at_ i)).length ++ w f (t.at_ i) else []).length ≤ 11 + 2 * (f.cost * t.size):=by
   split
   ·rw [List.length_append,List.length_append]; omega
   exact Nat.zero_le _
  omega
theorem qhM (t:Tree) {l:List Fld} (h:∀ f ∈ l,∀ t,(w f t).length ≤ f.cost * t.size):∀ (k:Nat),k < 18446744073709551616 → (qaQ w l t k).length ≤ 2 * (k * (costs l * t.size))
 | 0,_=>by simp [qaQ]
 | k + 1,hk=>by
  have h1:=qhM t h k (by omega)
  have h2:=qjg t k (by omega) l 0 h
  rw [qaQ,List.length_append,Nat.add_mul]
  omega
theorem qky (t:Tree) (k:Nat):∀ (l:List Fld) (i:Nat),tagN w l k t i ≤ costs l
 | [],i=>by simp [tagN]
 | f :: r,i=>by
  have h1:=qky t k r (i + 1)
  rw [tagN,qeR]
  split <;> omega
theorem qjh (t:Tree) (l:List Fld):∀ (k:Nat),qa3 w l t k ≤ k * costs l
 | 0=>by simp [qa3]
 | k + 1=>by
  have h1:=qjh t l k
  have h2:=qky (w:=w) t k l 0
  rw [qa3,Nat.add_mul]
  omega
theorem qji:∀ (u:List (Int × Bs)),u.length ≤ usz u
 | []=>Nat.le_refl _
 | x :: r=>by
  have:=qji r
  rw [List.length_cons]
  simp only [usz]; omega
theorem qhN {l:List Fld} (h:∀ f ∈ l,∀ t,(w f t).length ≤ f.cost * t.size) (hk:(qaB l).toNat < 18446744073709551616) (v:Int) (flex:Bool) (t:Tree):(qer w l v flex t).length ≤ qhq l * t.size:=by
 have h0:=t.size_pos
 have h1:=qhL v t l 0 h
 have h2:=qhM t h _ hk
 have h3:=qjh (w:=w) t l (qaB l).toNat
 have h4:=qg3 (qai l t.U)
 have h5:=qhp l t.U
 have h6:=t.size_U
 have h7:=qji (qai l t.U)
 have h8:=qkx (qa3 w l t (qaB l).toNat + (qai l t.U).length)
 have e1:qhq l * t.size = 3 * (((qaB l).toNat + 1) * (costs l * t.size)) + 64 * t.size:=by
  unfold qhq
  rw [Nat.add_mul,Nat.mul_assoc,Nat.mul_assoc]
 have e2:((qaB l).toNat + 1) * (costs l * t.size) = (qaB l).toNat * (costs l * t.size) + costs l * t.size:=by rw [Nat.add_mul,Nat.one_mul]
 have e3:(qaB l).toNat * costs l ≤ (qaB l).toNat * (costs l * t.size):=Nat.mul_le_mul_left _ (Nat.le_mul_of_pos_right _ h0)
 unfold qer
 rw [List.length_append,e1,e2]
 split
 ·rw [List.length_append,List.length_append]; omega
 simp only [List.length_nil]; omega
end
theorem qg5 (l:List Fld):(qaB l).toNat < 18446744073709551616:=by
 have h:=qec l
 omega
theorem qhO:∀ (d:Nat) (l:List Fld) (v:Int) (flex:Bool) (t:Tree),(qa7 d l v flex t).length ≤ qhq l * t.size
 | 0,l,v,flex,t=>qhN (fun f _ t=>by simp) (qg5 l) v flex t
 | d + 1,l,v,flex,t=>qhN (fun f _ t=>by
   rw [qkZ]
   exact qjf (fun t=>qhO d f.sub v flex t) f v flex t) (qg5 l) v flex t
theorem qjj (d:Nat) (l:List Fld) (x v:Int) (t:Tree):(qcY d l x v t).length ≤ qhq l * t.size:=qhO d l v _ t
end Go.Proofs.YtfljkhecngpcmaaGreatDoor.ME
namespace Go.Proofs.YtfljkhecngpcmaaGreatDoor.ME
open Go
open Go.Proofs.YtfljkhecngpcmaaGreatDoor.Rows (uptoBulk uptoBulkAll)
set_option linter.unusedVariables false
set_option linter.unusedSimpArgs false
def Tree.i64s:Tree → Prop
 | .mk n _ _ l _=>(-9223372036854775808 ≤ n ∧ n ≤ 9223372036854775807) ∧ i64ss l
where i64ss:List Tree → Prop
 | []=>True
 | t :: r=>t.i64s ∧ i64ss r
abbrev i64ss:=Tree.i64s.i64ss
theorem qfw:∀ {l:List Tree},i64ss l → ∀ x ∈ l,x.i64s
 | [],_,x,h=>by cases h
 | t :: r,hr,x,h=>by
  rcases List.mem_cons.1 h with rfl | h
  ·exact hr.1
  exact qfw (l:=r) hr.2 x h
theorem qhP:∀ {l:List Tree},(∀ x ∈ l,x.i64s) → i64ss l
 | [],_=>trivial
 | t :: r,h=>⟨h t List.mem_cons_self,qhP (l:=r) fun x hx=>h x (List.mem_cons_of_mem _ hx)⟩
theorem qgj {H:Type} (d:DataW H):1 ≤ uptoBulk d:=by cases d <;> first | (unfold uptoBulk; omega) | (rename_i l; cases l <;> (unfold uptoBulk; omega))
theorem qgk {H:Type}:∀ (l:List (DataW H)),l.length ≤ uptoBulkAll l
 | []=>Nat.zero_le _
 | d :: r=>by
  have h1:=qgj d
  have h2:=qgk r
  unfold uptoBulkAll
  rw [List.length_cons]; omega
theorem qfd {H:Type}:∀ {l:List (DataW H)} {d:DataW H},d ∈ l → uptoBulk d ≤ uptoBulkAll l
 | [],d,h=>by cases h
 | a :: r,d,h=>by
  unfold uptoBulkAll
  rcases List.mem_cons.1 h with rfl | h
  ·omega
  have:=qfd h; omega
theorem qg6 {α β:Type} {f:α → Option β}:∀ {l:List α} {r:List β},l.mapM f = some r → r.length = l.length ∧ ∀ (i:Nat) (a:α),l[i]? = some a → ∃ b,f a = some b ∧ r[i]? = some b
 | [],r,h=>by
  simp only [List.mapM_nil,Option.pure_def,Option.some.injEq] at h
  subst h
  exact ⟨rfl,fun i a h=>by simp at h⟩
 | x :: l,r,h=>by
  rw [List.mapM_cons] at h
  cases hx:f x with
  | none=>rw [hx] at h; cases h
  | some y =>
   rw [hx] at h
   cases hl:l.mapM f with
   | none=>rw [hl] at h; cases h
   | some ys =>
    rw [hl] at h
    obtain rfl:y :: ys = r:=Option.some.inj h
    obtain ⟨h1,h2⟩:=qg6 hl
    refine ⟨by simp [h1],fun i a ha=>?_⟩
    cases i with
    | zero =>
     simp only [List.getElem?_cons_zero,Option.some.injEq] at ha
     subst ha
     exact ⟨y,hx,rfl⟩
    | succ i=>simpa using h2 i a (by simpa using ha)
theorem qeS {w:World} {a:Addr} {n:Nat} {cs:List Value} (h:w.cells? 0 a n = some cs):cs.length = n ∧ ∀ (j:Nat) (v:Value),cs[j]? = some v → w.cell? (a.add j) = some v:=by
 unfold World.cells? at h
 rw [if_pos (Nat.zero_le _)] at h
 obtain ⟨h1,h2⟩:=qg6 h
 rw [List.length_range] at h1
 refine ⟨h1,fun j v hj=>?_⟩
 have hjn:j < n:=by rw [← h1]; exact (List.getElem?_eq_some_iff.1 hj).1
 obtain ⟨b,hb,hc⟩:=h2 j j (by rw [List.getElem?_range hjn])
 rw [hj] at hc
 rw [hb,Option.some.inj hc]
theorem qin {w:World} {a:Addr} {v:Value} (h:w.cell? a = some v):a.spot = none:=by
 unfold World.cell? at h
 split at h
 ·split at h
  ·cases h
  rename_i hs; simpa using hs
 cases h
theorem qj8 {w:World} {size n c:Nat} {ad:Addr} {cs:Nat → List Value} (hle:n ≤ c) (hsm:n ≤ 1099511627776) (hsz:0 < size) (h:∀ i,i < n → (cs i).length = size ∧ ∀ (j:Nat) (v:Value),(cs i)[j]? = some v → w.cell? ((ad.add (i * size)).add j) = some v):Slots w (fun _ _=>True) size (some ad) c n cs:=by
 refine ⟨hle,hsm,(fun hA=>by cases hA),fun ad' hA hn=>?_⟩
 obtain rfl:=Option.some.inj hA
 have h0:=h 0 hn
 have hp:ad.spot = none:=by
  have h1:=qin (h0.2 0 _ (List.getElem?_eq_getElem (by omega)))
  unfold Addr.add at h1
  split at h1
  ·split at h1 <;> simp_all
  simp_all
 obtain ⟨b,o,sp⟩:=ad
 simp only at hp
 subst hp
 refine ⟨b,o,rfl,fun i hi=>⟨(h i hi).1,fun j v hj=>⟨trivial,?_⟩⟩⟩
 have:=(h i hi).2 j v hj
 rwa [qbR,qbR] at this
theorem qfx {α:Type} {R:Nat → α → Prop}:∀ (n:Nat),(∀ i,i < n → ∃ x,R i x) → ∃ l:List α,l.length = n ∧ ∀ i x,l[i]? = some x → R i x
 | 0,_=>⟨[],rfl,fun i x h=>by simp at h⟩
 | n + 1,h=>by
  obtain ⟨l,h1,h2⟩:=qfx n fun i hi=>h i (by omega)
  obtain ⟨x,hx⟩:=h n (by omega)
  refine ⟨l ++ [x],by simp [h1],fun i y hy=>?_⟩
  rcases qbt hy with hy | ⟨rfl,rfl⟩
  ·exact h2 i y hy
  rw [h1]; exact hx
theorem qeT {α:Type} {w:World} {a:Addr} {len cap size:Nat} (R:Nat → List Value → α → Prop) (hle:len ≤ cap) (hsm:len ≤ 1099511627776) (hsz:0 < size)
  (hex:∀ i,i < len → ∃ ci:List Value,ci.length = size ∧ (∀ (j:Nat) (v:Value),ci[j]? = some v → w.cell? ((a.add (i * size)).add j) = some v) ∧ ∃ x,R i ci x) :
  ∃ l:List α,l.length = len ∧ ∃ xs:Nat → List Value,Slots w (fun _ _=>True) size (some a) cap len xs ∧ ∀ i x,l[i]? = some x → R i (xs i) x:=by
 obtain ⟨l,h1,h2⟩:=qfx (R:=fun i (z:List Value × α)=>z.1.length = size ∧ (∀ (j:Nat) (v:Value),z.1[j]? = some v → w.cell? ((a.add (i * size)).add j) = some v) ∧ R i z.1 z.2) len (fun i hi=>by
  obtain ⟨ci,g1,g2,x,g3⟩:=hex i hi
  exact ⟨(ci,x),g1,g2,g3⟩)
 have hget:∀ i,i < len → ∃ z,l[i]? = some z:=fun i hi=>⟨_,List.getElem?_eq_getElem (by omega)⟩
 have hxs:∀ i z,l[i]? = some z → ((l.map (·.1)).getD i []) = z.1:=fun i z hz=>by
  rw [List.getD_eq_getElem?_getD,List.getElem?_map,hz]; rfl
 refine ⟨l.map (·.2),by simp [h1],fun i=>(l.map (·.1)).getD i [],qj8 hle hsm hsz (fun i hi=>?_),fun i x hx=>?_⟩
 ·obtain ⟨z,hz⟩:=hget i hi
  rw [hxs i z hz]
  exact ⟨(h2 i z hz).1,(h2 i z hz).2.1⟩
 rw [List.getElem?_map] at hx
 cases hz:l[i]? with
 | none=>rw [hz] at hx; cases hx
 | some z =>
  rw [hz] at hx
  simp only [Option.map_some,Option.some.injEq] at hx
  subst hx
  dsimp only
  rw [hxs i z hz]
  exact (h2 i z hz).2.2
def qfe (P:Program) (t:TypeId):Option (List (TypeId × Nat)) :=
 match P.underlying t with
 | some (.struct fs)=>some (fs.toList.map fun f=>(f.type,f.offset))
 | _=>none
theorem qfy {P:Program} {t:TypeId} {l:List (TypeId × Nat)} (h:qfe P t = some l):∃ fs:Array Field,P.underlying t = some (.struct fs) ∧ fs.size = l.length ∧ ∀ (i:Nat) ty off,l[i]? = some (ty,off) → ∃ f,fs[i]? = some f ∧ f.type = ty ∧ f.offset = off:=by
 unfold qfe at h
 split at h
 ·rename_i fs hfs
  simp only [Option.some.injEq] at h
  subst h
  refine ⟨fs,hfs,by simp,fun i ty off hi=>?_⟩
  rw [List.getElem?_map] at hi
  cases hf:fs.toList[i]? with
  | none=>rw [hf] at hi; cases hi
  | some f =>
   rw [hf] at hi
   simp only [Option.map_some,Option.some.injEq,Prod.mk.injEq] at hi
   exact ⟨f,by simpa using hf,hi.1,hi.2⟩
 cases h
structure TreeTys (P:Program) (T TL TU TG TB TI TO TK T8:TypeId):Prop where
 tree:qfe P T = some [(TI,0),(TB,1),(TO,2),(TL,3),(TU,4)]
 tag:qfe P TG = some [(TK,0),(TB,1)]
 trees:P.underlying TL = some (.slice T)
 tags:P.underlying TU = some (.slice TG)
 bytes:P.underlying TB = some (.slice T8)
 int:P.underlying TI = some (.int .i64)
 bool:P.underlying TO = some .bool
 key:P.underlying TK = some (.int .u32)
 byte:P.underlying T8 = some (.int .u8)
 cells:(P.cellsOf T,P.cellsOf TL,P.cellsOf TU,P.cellsOf TG,P.cellsOf TB,P.cellsOf TI,P.cellsOf TO,P.cellsOf TK,P.cellsOf T8) = (5,1,1,2,1,1,1,1,1)
section
variable {H:Type} {enc:TypeId × Value → H} {P:Program} {W:World} {sp:Nat → Bool} {hd:Bool} {T TL TU TG TB TI TO TK T8:TypeId}
theorem qgl {α β:Type} {x:Option α} {f:α → Option β} {l:List β} {i:Nat} (h:x.bind f = l[i]?) (hi:i < l.length):∃ a b,x = some a ∧ f a = some b ∧ l[i]? = some b:=by
 rw [List.getElem?_eq_getElem hi] at h
 obtain ⟨a,ha,hb⟩:=Option.bind_eq_some_iff.1 h
 exact ⟨a,_,ha,hb,List.getElem?_eq_getElem hi⟩
theorem qeU {elems spare:List (DataW H)} {n:Nat} (h:uptoBulk (.slice elems spare) ≤ n):elems.length ≤ n ∧ ∀ d ∈ elems,uptoBulk d ≤ n:=by
 unfold uptoBulk at h
 have h1:=qgk elems
 exact ⟨by omega,fun d hd=>by have:=qfd hd; omega⟩
theorem qhQ {parts:List (DataW H)} {n:Nat} (h:uptoBulk (.agg parts) ≤ n):∀ d ∈ parts,uptoBulk d ≤ n:=by
 unfold uptoBulk at h
 exact fun d hd=>by have:=qfd hd; omega
theorem qg7 {fuel:Nat} {cs:List Value} {x:DataW H × List MemPlace} (hT:TreeTys P T TL TU TG TB TI TO TK T8) (h:DataW.trod enc P W 0 sp hd fuel TB cs = some x) (hb:uptoBulk x.1 ≤ 1048576) :
  ∃ A c s,cs = [.slice A (s:Bs).length c] ∧ Octs W (fun _ _=>True) A c s ∧ s.length ≤ uptoBulk x.1:=by
 have hc:=hT.cells
 simp only [Prod.mk.injEq] at hc
 rcases DataW.trod_slice hT.bytes h with ⟨rfl,rfl⟩ | ⟨a,len,cap,elems,rest,n,_,rfl,rfl,_,hle,_,hlen,he,_⟩
 ·exact ⟨none,0,[],rfl,Octs.nil _ _,Nat.zero_le _⟩
 have hlb:=qgk (elems.map (·.1))
 rw [List.length_map] at hlb
 have hbl:=qeU hb
 simp only [List.length_map] at hbl
 obtain ⟨l,hl,xs,h1,h2⟩:=qeT (w:=W) (a:=a) (len:=len) (cap:=cap) (size:=1) (fun _ ci (q:UInt8)=>ci = [qeq q]) hle (by omega) (by omega) (fun i hi=>by
  obtain ⟨ci,y,g1,g2,g3⟩:=qgl (he i hi) (by omega)
  obtain ⟨g4,g5⟩:=qeS g1
  rw [hc.2.2.2.2.2.2.2.2] at g4 g5
  refine ⟨ci,g4,g5,?_⟩
  obtain ⟨v,rfl,_,hw⟩:=DataW.trod_int hT.byte g2
  have hx:0 ≤ v ∧ v ≤ 255:=by simpa [Lit.wf,IntKind.min,IntKind.max,IntKind.signed,IntKind.bits] using hw
  refine ⟨UInt8.ofNat v.toNat,?_⟩
  unfold qeq
  rw [UInt8.toNat_ofNat']
  congr 2
  omega)
 refine ⟨some a,cap,l,by rw [hl],?_,by rw [hl,← hlen]; dsimp only; unfold uptoBulk; omega⟩
 unfold Octs
 rw [hl]
 refine ⟨h1.le,h1.small,h1.none_,fun ad hA hn=>?_⟩
 obtain ⟨b,o,e1,e2⟩:=h1.some_ ad hA hn
 refine ⟨b,o,e1,fun i hi=>?_⟩
 have hli:l[i]? = some (l.getD i 0):=by
  rw [List.getD_eq_getElem?_getD,List.getElem?_eq_getElem (by omega)]; rfl
 have:=h2 i _ hli
 rw [← this]
 exact e2 i hi
theorem qeg {n:Nat} {fs:Array Field} {xs:List (DataW H × List MemPlace)} {cs:List Value} {l:List (TypeId × Nat)} (hx:∀ (i:Nat) (f:Field),fs[i]? = some f → DataW.trod enc P W 0 sp hd n f.type ((cs.drop f.offset).take (P.cellsOf f.type)) = xs[i]?)
  (hl:∀ (i:Nat) ty off,l[i]? = some (ty,off) → ∃ f,fs[i]? = some f ∧ f.type = ty ∧ f.offset = off) {i:Nat} {ty off:Nat} (hi:l[i]? = some (ty,off)) (h1:P.cellsOf ty = 1) (hxl:i < xs.length) {c:Value} (hc:cs[off]? = some c) :
  ∃ y,xs[i]? = some y ∧ DataW.trod enc P W 0 sp hd n ty [c] = some y:=by
 obtain ⟨f,hf,rfl,rfl⟩:=hl i _ _ hi
 have:=hx i f hf
 rw [h1] at this
 refine ⟨xs[i],List.getElem?_eq_getElem hxl,?_⟩
 rw [List.getElem?_eq_getElem hxl] at this
 have e:(cs.drop f.offset).take 1 = [c]:=by
  rw [List.take_one,List.head?_drop,hc]; rfl
 rw [e] at this
 exact this
theorem qhR:∀ (l:List (Int × Bs)) {elems:List (DataW H × List MemPlace)},l.length = elems.length → (∀ (i:Nat) (x:Int × Bs) (y:DataW H × List MemPlace),l[i]? = some x → elems[i]? = some y → 1 + (uv x.1.toNat).length + x.2.length ≤ 8 * uptoBulk y.1) → usz l ≤ 8 * uptoBulkAll (elems.map (·.1))
 | [],_,_,_=>Nat.zero_le _
 | x :: r,[],h,_=>by cases h
 | x :: r,y :: es,h,hp=>by
  have h1:=qhR r (elems:=es) (by simpa using h) fun i x' y' hx hy=>hp (i + 1) x' y' (by simpa using hx) (by simpa using hy)
  have h2:=hp 0 x y rfl rfl
  simp only [usz,List.map_cons,uptoBulkAll]
  omega
theorem qf4:∀ (l:List Tree) {elems:List (DataW H × List MemPlace)},l.length = elems.length → (∀ (i:Nat) (x:Tree) (y:DataW H × List MemPlace),l[i]? = some x → elems[i]? = some y → x.size ≤ 8 * uptoBulk y.1) → sizes l ≤ 8 * uptoBulkAll (elems.map (·.1))
 | [],_,_,_=>Nat.zero_le _
 | x :: r,[],h,_=>by cases h
 | x :: r,y :: es,h,hp=>by
  have h1:=qf4 r (elems:=es) (by simpa using h) fun i x' y' hx hy=>hp (i + 1) x' y' (by simpa using hx) (by simpa using hy)
  have h2:=hp 0 x y rfl rfl
  show x.size + sizes r ≤ _
  simp only [List.map_cons,uptoBulkAll]
  omega
theorem qjk {y0 y1 y2 y3 y4:DataW H × List MemPlace} {xs:List (DataW H × List MemPlace)} (h:xs.length = 5) (h0:xs[0]? = some y0) (h1:xs[1]? = some y1) (h2:xs[2]? = some y2) (h3:xs[3]? = some y3) (h4:xs[4]? = some y4):uptoBulk (.agg (xs.map (·.1))) = uptoBulk y0.1 + uptoBulk y1.1 + uptoBulk y2.1 + uptoBulk y3.1 + uptoBulk y4.1 + 1:=by
 match xs,h with
 | [a,b,c,d,e],_ =>
  simp only [List.getElem?_cons_zero,List.getElem?_cons_succ,Option.some.injEq] at h0 h1 h2 h3 h4
  subst h0; subst h1; subst h2; subst h3; subst h4
  have e:uptoBulk (.agg [a.1,b.1,c.1,d.1,e.1]) = uptoBulkAll [a.1,b.1,c.1,d.1,e.1] + 1:=by rw [uptoBulk]
  simp only [List.map_cons,List.map_nil]
  rw [e]
  simp only [uptoBulkAll]
  omega
theorem qjl {fuel:Nat} {cs:List Value} {x:DataW H × List MemPlace} (hT:TreeTys P T TL TU TG TB TI TO TK T8) (h:DataW.trod enc P W 0 sp hd fuel TU cs = some x) (hb:uptoBulk x.1 ≤ 1048576) :
  ∃ A c u,cs = [.slice A (u:List (Int × Bs)).length c] ∧ TagsR W (fun _ _=>True) A c u ∧ usz u ≤ 8 * uptoBulk x.1:=by
 have hc:=hT.cells
 simp only [Prod.mk.injEq] at hc
 rcases DataW.trod_slice hT.tags h with ⟨rfl,rfl⟩ | ⟨a,len,cap,elems,rest,n,_,rfl,rfl,_,hle,_,hlen,he,_⟩
 ·exact ⟨none,0,[],rfl,TagsR.nil _ _,Nat.zero_le _⟩
 have hbl:=qeU hb
 simp only [List.length_map] at hbl
 obtain ⟨l,hl,xs,h1,h2⟩:=qeT (w:=W) (a:=a) (len:=len) (cap:=cap) (size:=2) (fun i ci (q:Int × Bs)=>((∃ A' c',ci = [.int .u32 q.1,.slice A' q.2.length c'] ∧ Octs W (fun _ _=>True) A' c' q.2) ∧ 0 ≤ q.1 ∧ q.1 < 4294967296) ∧ ∀ y,elems[i]? = some y → 1 + (uv q.1.toNat).length + q.2.length ≤ 8 * uptoBulk y.1) hle (by omega) (by omega) (fun i hi=>by
  obtain ⟨ci,y,g1,g2,g3⟩:=qgl (he i hi) (by omega)
  obtain ⟨g4,g5⟩:=qeS g1
  rw [hc.2.2.2.1] at g4 g5
  refine ⟨ci,g4,g5,?_⟩
  obtain ⟨fs,hfs,hsz,hl⟩:=qfy hT.tag
  obtain ⟨xs,m,_,rfl,_,hxl,hx⟩:=DataW.trod_struct hfs g2
  rw [hsz] at hxl
  have hxl':xs.length = 2:=hxl
  match ci,g4 with
  | [c0,c1],_ =>
   obtain ⟨y0,_,k0⟩:=qeg hx hl (i:=0) rfl hc.2.2.2.2.2.2.2.1 (by omega) (c:=c0) rfl
   obtain ⟨y1,e1,k1⟩:=qeg hx hl (i:=1) rfl hc.2.2.2.2.1 (by omega) (c:=c1) rfl
   obtain ⟨v,hv,_,hw⟩:=DataW.trod_int hT.key k0
   have hx:0 ≤ v ∧ v ≤ 4294967295:=by simpa [Lit.wf,IntKind.min,IntKind.max,IntKind.signed,IntKind.bits] using hw
   have hby:uptoBulk y1.1 ≤ 1048576:=by
    have hm:DataW.agg (xs.map (·.1)) ∈ elems.map (·.1):=by
     have:=List.mem_of_getElem? g3
     exact List.mem_map.2 ⟨_,this,rfl⟩
    exact qhQ (hbl.2 _ hm) _ (List.mem_map.2 ⟨_,List.mem_of_getElem? e1,rfl⟩)
   obtain ⟨A',c',s,hs,ho,hsl⟩:=qg7 hT k1 hby
   simp only [List.cons.injEq,and_true] at hv hs
   subst hv; subst hs
   refine ⟨(v,s),⟨⟨A',c',rfl,ho⟩,by dsimp only; omega,by dsimp only; omega⟩,fun y hy=>?_⟩
   rw [g3] at hy
   obtain rfl:=Option.some.inj hy
   have h5:=qgK v.toNat 5 (by omega) (by omega)
   have h6:uptoBulk y1.1 ≤ uptoBulkAll (xs.map (·.1)):=qfd (List.mem_map.2 ⟨_,List.mem_of_getElem? e1,rfl⟩)
   dsimp only
   unfold uptoBulk
   omega)
 refine ⟨some a,cap,l,by rw [hl],⟨xs,by rw [hl]; exact h1,fun i k s hi=>(h2 i (k,s) hi).1⟩,?_⟩
 have:=qhR l (elems:=elems) (by rw [hl,hlen]) (fun i x y hx hy=>(h2 i x hx).2 y hy)
 dsimp only
 unfold uptoBulk
 omega
theorem qio (hT:TreeTys P T TL TU TG TB TI TO TK T8):∀ (fuel:Nat) (cs:List Value) (x:DataW H × List MemPlace),DataW.trod enc P W 0 sp hd fuel T cs = some x → uptoBulk x.1 ≤ 1048576 → ∃ t,TreeR W (fun _ _=>True) cs t ∧ t.size ≤ 8 * uptoBulk x.1 ∧ t.i64s:=by
 intro fuel
 induction fuel using Nat.strongRecOn with
 | _ fuel ih =>
 intro cs x h hb
 have hc:=hT.cells
 simp only [Prod.mk.injEq] at hc
 obtain ⟨fs,hfs,hsz,hl⟩:=qfy hT.tree
 obtain ⟨xs,m,rfl,rfl,hcl,hxl,hx⟩:=DataW.trod_struct hfs h
 rw [hsz] at hxl
 have hxl':xs.length = 5:=hxl
 rw [hc.1] at hcl
 have hbe:∀ {i:Nat} {y:DataW H × List MemPlace},xs[i]? = some y → uptoBulk y.1 ≤ 1048576:=fun e=>qhQ hb _ (List.mem_map.2 ⟨_,List.mem_of_getElem? e,rfl⟩)
 match cs,hcl with
 | [c0,c1,c2,c3,c4],_ =>
  obtain ⟨y0,e0,k0⟩:=qeg hx hl (i:=0) rfl hc.2.2.2.2.2.1 (by omega) (c:=c0) rfl
  obtain ⟨y1,e1,k1⟩:=qeg hx hl (i:=1) rfl hc.2.2.2.2.1 (by omega) (c:=c1) rfl
  obtain ⟨y2,e2,k2⟩:=qeg hx hl (i:=2) rfl hc.2.2.2.2.2.2.1 (by omega) (c:=c2) rfl
  obtain ⟨y3,e3,k3⟩:=qeg hx hl (i:=3) rfl hc.2.1 (by omega) (c:=c3) rfl
  obtain ⟨y4,e4,k4⟩:=qeg hx hl (i:=4) rfl hc.2.2.1 (by omega) (c:=c4) rfl
  obtain ⟨v,hv,_,hw0⟩:=DataW.trod_int hT.int k0
  have hx0:-9223372036854775808 ≤ v ∧ v ≤ 9223372036854775807:=by simpa [Lit.wf,IntKind.min,IntKind.max,IntKind.signed,IntKind.bits] using hw0
  obtain ⟨A1,d1,s,hs,ho,hz1⟩:=qg7 hT k1 (hbe e1)
  obtain ⟨b,hbo,_⟩:=DataW.trod_bool hT.bool k2
  obtain ⟨A3,d3,u,hu,hur,hz3⟩:=qjl hT k4 (hbe e4)
  have hll:∃ A2 d2 l xs2,[c3] = [.slice A2 (l:List Tree).length d2] ∧ Slots W (fun _ _=>True) 5 A2 d2 l.length xs2 ∧ (∀ i x,l[i]? = some x → TreeR W (fun _ _=>True) (xs2 i) x) ∧ sizes l ≤ 8 * uptoBulk y3.1 ∧ i64ss l:=by
   rcases DataW.trod_slice hT.trees k3 with ⟨e,_⟩ | ⟨a,len,cap,elems,rest,n,rfl,e,rfl,_,hle,_,hlen,he,_⟩
   ·exact ⟨none,0,[],fun _=>[],e,Slots.nil _ _ _ _,(fun i x h=>by simp at h),Nat.zero_le _,trivial⟩
   have hbl:=qeU (hbe e3)
   simp only [List.length_map] at hbl
   obtain ⟨l,hl,xs2,h1,h2⟩:=qeT (w:=W) (a:=a) (len:=len) (cap:=cap) (size:=5) (fun i ci (q:Tree)=>(TreeR W (fun _ _=>True) ci q ∧ q.i64s) ∧ ∀ y,elems[i]? = some y → q.size ≤ 8 * uptoBulk y.1) hle (by omega) (by omega) (fun i hi=>by
    obtain ⟨ci,y,g1,g2,g3⟩:=qgl (he i hi) (by omega)
    obtain ⟨g4,g5⟩:=qeS g1
    rw [hc.1] at g4 g5
    obtain ⟨q,q1,q2,q3⟩:=ih n (by omega) ci y g2 (hbl.2 _ (List.mem_map.2 ⟨_,List.mem_of_getElem? g3,rfl⟩))
    exact ⟨ci,g4,g5,q,⟨q1,q3⟩,fun y' hy=>by
     rw [g3] at hy
     obtain rfl:=Option.some.inj hy
     exact q2⟩)
   refine ⟨some a,cap,l,xs2,by rw [e,hl],by rw [hl]; exact h1,fun i x hx=>(h2 i x hx).1.1,?_,qhP fun x hx=>by
    obtain ⟨i,hi,rfl⟩:=List.getElem_of_mem hx
    exact (h2 i _ (List.getElem?_eq_getElem hi)).1.2⟩
   have:=qf4 l (elems:=elems) (by rw [hl,hlen]) (fun i x y hx hy=>(h2 i x hx).2 y hy)
   dsimp only
   unfold uptoBulk
   omega
  obtain ⟨A2,d2,l,xs2,hl2,hsl,hxl2,hz2,hi2⟩:=hll
  simp only [List.cons.injEq,and_true] at hv hs hbo hl2 hu
  subst hv; subst hs; subst hbo; subst hl2; subst hu
  refine ⟨_,.mk xs2 ho hsl hxl2 hur,?_,hx0,hi2⟩
  have h5:=qjk hxl' e0 e1 e2 e3 e4
  have p0:=qgj y0.1
  have p1:=qgj y2.1
  dsimp only at h5 ⊢
  rw [Tree.size_mk,h5]
  omega
end
section
variable {H:Type} {enc:TypeId × Value → H} {P:Program}
open Go.ChangeShapes Go.WideShapes Go.ChangeAt Go.RowKit
theorem Step.same {W W':World} (h:Step W W' Nil) {b:Nat} (hb:b < W.heap.size):W'.heap[b]? = W.heap[b]?:=(h.keeps b hb).1 fun _ hn=>hn
theorem Step.sameAt {W W':World} (h:Step W W' Nil) {p:MemPlace} (hp:p.block < W.heap.size):W.sameAt W' p:=by
 cases p with
 | cell b o=>exact World.cell_of_heap (h.same hp)
 | map b=>exact h.same hp
theorem Step.keptBut {W W':World} (h:Step W W' Nil) (may:MemPlace → Prop):W.keptBut W' may:=by
 refine ⟨h.os,h.output,fun i hi=>?_⟩
 rw [h.same hi]
 cases hx:W.heap[i]? with
 | none=>rfl
 | some x =>
  cases x with
  | cells c t f=>exact ⟨rfl,rfl,rfl,fun _ _=>rfl⟩
  | map es clock=>exact .inr ⟨rfl,rfl⟩
  | _=>rfl
theorem qex (hl:laidOutB P = true) {W W':World} (hs:Step W W' Nil):∀ {ts:List TypeId} {vs:List Value} {ds:List (DataW H)} {ps:List MemPlace},(∀ t ∈ ts,P.readableRec t = true ∧ t < P.types.size) → DataW.TrodAll enc P W 0 (fun _=>true) true ts vs ds ps → (∀ p ∈ ps,p.block < W.heap.size) →
  DataW.TrodAll enc P W' 0 (fun b=>decide (b < W.heap.size)) true ts vs ds ps
 | [],vs,ds,ps,_,h,_=>by
  obtain ⟨rfl,rfl,rfl⟩:=trodAll_nil h
  exact rfl
 | t :: ts,vs,ds,ps,ht,h,hp=>by
  obtain ⟨v,vs',d,ds',p,q,rfl,rfl,rfl,h1,h2⟩:=trodAll_cons h
  have h0:=ht t (List.mem_cons_self ..)
  refine ⟨p,q,?_,qex hl hs (fun t' h'=>ht t' (List.mem_cons_of_mem _ h')) h2 (fun x hx=>hp x (List.mem_append_right _ hx)),rfl⟩
  exact Go.WideElems.Trod_stays hl h0.1 h0.2 h1 (fun x hx=>hs.sameAt (hp x (List.mem_append_left _ hx))) (fun x hx=>decide_eq_true (hp x (List.mem_append_left _ hx)))
theorem qjm {f:Func} {s:ChangeSpec} {W W':World} {args:Array Value} {v:Value} {ds gs:List (DataW H)} {before:List MemPlace} {handsOn:Bool}
  (hW:DataW.Whole enc P f.params.toList s.vars false W args.toList ds gs before) (hs:Step W W' Nil) (hl:laidOutB P = true) (hpar:∀ t ∈ f.params.toList,P.readableRec t = true ∧ t < P.types.size)
  (hv:s.vars = []) (hargs:(s.fn H (ds ++ gs)).args = ds) (hvars:(s.fn H (ds ++ gs)).vars = [])
  (hres:∀ (b:Nat) (sp:Nat → Bool) (hd:Bool),DataW.TrodAll enc P W' b sp hd f.resultTypes.toList (v.resultList f.resultTypes.size) (s.fn H (ds ++ gs)).results []) :
  s.post enc P f false true handsOn false W args v W':=by
 have hlt:∀ p ∈ before,p.block < W.heap.size:=fun p hp=>hW.lt p hp
 obtain ⟨p,q,hA,hV,rfl,_,_⟩:=id hW
 rw [hv] at hV
 obtain ⟨rfl,rfl⟩:=trodVars_none hV
 refine ⟨ds,[],_,[],p,[],hW,hres _ _ _,?_,?_,hs.keptBut _,fun h=>by cases h⟩
 ·rw [hargs]
  exact qex hl hs hpar hA (fun x hx=>hlt x (List.mem_append_left _ hx))
 rw [hvars,hv]; exact rfl
end
end Go.Proofs.YtfljkhecngpcmaaGreatDoor.ME
namespace Go.Proofs.YtfljkhecngpcmaaGreatDoor.ME
open Go
open Go.RowKit
set_option linter.unusedVariables false
set_option linter.unusedSimpArgs false
set_option maxRecDepth 20000
def bs (s:Bs):ByteArray:=⟨s.toArray⟩
theorem qlu (s:Bs):sb (bs s) = s:=by simp [sb,bs]
theorem qjn (s:Bs):(bs s).size = s.length:=by simp [bs,ByteArray.size]
def qcN (t:Tree):Bs:=if t.null then [] else t.S
section
variable {P:Program} {n:Nat} {w0:World} {A0:Option Addr} {e8 d:Nat} {tb:Tb} {env e1 env':Env} {c c1 c2:Code} {x x1 x2 y:Bs}
end
section
variable {P:Program} {ops:Array Oper} {Q:Exit → Act → World → Prop} {n:Nat} {tb:Tb} {env:Env} {rs:List Rw} {w0:World} {M:Nat → Nat → Prop} {a:Act} {w:World}
def qj9 (tb:Tb) (env:Env) (ops:Array Oper) (n i:Nat):Option (TypeId × TypeId × Value × Nat) :=
 match opAt env ops n i with
 | some (.convert src dst x,d)=>match opd env x with
  | some (.v v)=>some (src,dst,v,d)
  | _=>none
 | _=>none
theorem qey {i d:Nat} {src dst e c:Nat} {A:Option Addr} {s:Bs} {F:Nat → Nat → Prop} {N:Act → World → Prop} (hE:EnvOk n tb env a) (h:qj9 tb env ops n i = some (src,dst,.slice A s.length c,d)) (hs:P.underlying src = some (.slice e)) (he:P.underlying e = some (.int .u8)) (hd:P.underlying dst = some .string)
  (ho:Octs w F A c s) (K:∀ a',EnvOk n tb ((d,.v (.string (bs s))) :: env) a' → N a' w):wpOp P ops Q i N a w:=by
 unfold qj9 at h
 split at h
 ·rename_i src' dst' x d' hop
  split at h
  ·rename_i v hx
   simp only [Option.some.injEq,Prod.mk.injEq] at h
   obtain ⟨rfl,rfl,rfl,rfl⟩:=h
   have hdn:=(qbx hE hop).choose_spec.2.2.2.1
   have hrun:(convert src' dst' (.slice A s.length c)).run P w = .ok (.string (bs s)) w:=by
    have hsrc:=ho.src
    cases A with
    | none =>
     have h0:s = []:=List.eq_nil_of_length_eq_zero (ho.none_ rfl).1
     subst h0
     exact run_convert_bytes_nil w src' e hs he _ _ dst' hd
    | some ad =>
     have hl:(loadCells ad s.length).run P w = .ok ((s.map fun b=>((b.toNat:Nat):Int)).map (Value.int .u8)).toArray w:=by
      have:=run_loadCells_list (P:=P) w ad (bc s) (fun j v hj=>hsrc.cells ad rfl j v hj)
      rw [show (bc s).length = s.length from by simp [bc]] at this
      rw [this]
      simp [bc]
     rw [run_convert_bytes_string w src' dst' e _ s.length c hs he hd,run_bytesToString w _ s.length c _ hl,foldl_push_bytes]
     congr 2
     simp only [bs,ByteArray.empty,ByteArray.emptyWithCapacity]
     have e3:(s.map fun b=>((b.toNat:Nat):Int)).map (fun n=>UInt8.ofNat n.toNat) = s:=by
      rw [List.map_map]
      conv=>rhs; rw [← List.map_id s]
      exact List.map_congr_left fun b _=>by simp
     rw [e3]
     simp
     rfl
   refine qbe hE hop (v:=.string (bs s)) (w':=w) ?_ (K _ (hE.put hdn (.v _) trivial))
   intro o ho'
   unfold execOp
   rw [ho']
   simp only [(qa9 hE hx).1,SV.val,Sem.run_bind,hrun,Result.andThen_ok,Sem.run_pure]
  cases h
 cases h
end
theorem uv0:uv 0 = [0]:=by rw [uv]; rfl
theorem qk0 {v:Int} {d:Nat} {l:List Fld} {t:Tree} {i:Nat} {k x1 x2 x3 x4 x5 x6:Int} {s:List Fld} (h:l[i]? = some (.mk k x1 x2 x3 x4 x5 x6 s)) (hk:k = 8 ∨ k = 9) :
  qcN ((fitT v (d + 1) l t).at_ i) = (if Fld.nul (.mk k x1 x2 x3 x4 x5 x6 s) v (t.at_ i) = true then [] else qaI (t.at_ i).S) ∧ ((fitT v (d + 1) l t).at_ i).null = Fld.nul (.mk k x1 x2 x3 x4 x5 x6 s) v (t.at_ i):=by
 rw [qhH h]
 have e1:k ≠ 11:=by omega
 have e:qcO (fitT v d) v (.mk k x1 x2 x3 x4 x5 x6 s) (t.at_ i) = .mk 0 (qaI (t.at_ i).S) (Fld.nul (.mk k x1 x2 x3 x4 x5 x6 s) v (t.at_ i)) [] []:=by
  simp [qcO,qbD,Fld.kind,e1,hk]
 rw [e]
 exact ⟨rfl,rfl⟩
section
variable {P:Program} {n:Nat} {w0:World} {A0:Option Addr} {e8 d:Nat} {tb:Tb} {env e1 env':Env} {c c1 c2:Code} {x x1 x2 y:Bs}
end
def lst (t:Tree):List Tree:=if t.null then [] else t.L
def qaF (w:World) (F:Nat → Nat → Prop) (D:DV):Prop:=(True) ∧ (Slots w F 1 (D.f 1).A (D.f 1).c (D.f 1).l (fun i=>[.int .i32 (((D.f 1).f i).n)]) ∧ (D.f 1).l ≤ 1000000 ∧ ∀ i,i < (D.f 1).l → True) ∧ (Slots w F 1 (D.f 2).A (D.f 2).c (D.f 2).l (fun i=>[.int .i32 (((D.f 2).f i).n)]) ∧ (D.f 2).l ≤ 1000000 ∧ ∀ i,i < (D.f 2).l → True) ∧ (Slots w F 1 (D.f 3).A (D.f 3).c (D.f 3).l (fun i=>[.int .i32 (((D.f 3).f i).n)]) ∧ (D.f 3).l ≤ 1000000 ∧ ∀ i,i < (D.f 3).l → True) ∧ MapR w F D.m D.u ∧ D.u.length ≤ 1000000 ∧ (∀ x ∈ D.u,x.2.length < 4294967296) ∧ True
def qaN (w:World) (F:Nat → Nat → Prop) (D:DV):Prop:=((D.f 0).s.size ≤ 1000000) ∧ (Slots w F 5 (D.f 1).A (D.f 1).c (D.f 1).l (fun i=>[.int .i32 ((((D.f 1).f i).f 0).n),.slice ((((D.f 1).f i).f 1).A) ((((D.f 1).f i).f 1).l) ((((D.f 1).f i).f 1).c),.slice ((((D.f 1).f i).f 2).A) ((((D.f 1).f i).f 2).l) ((((D.f 1).f i).f 2).c),.slice ((((D.f 1).f i).f 3).A) ((((D.f 1).f i).f 3).l) ((((D.f 1).f i).f 3).c),.map (((D.f 1).f i).m)]) ∧ (D.f 1).l ≤ 1000000 ∧ ∀ i,i < (D.f 1).l → qaF w F ((D.f 1).f i)) ∧ MapR w F D.m D.u ∧ D.u.length ≤ 1000000 ∧ (∀ x ∈ D.u,x.2.length < 4294967296) ∧ True
def qa5 (w:World) (F:Nat → Nat → Prop) (D:DV):Prop:=(True) ∧ (True) ∧ ((∀ ad,(D.f 2).A = some ad → ∃ b o,ad = ⟨b,o,none⟩ ∧ AtF w F b o [.string (D.f 2).s]) ∧ (D.f 2).s.size ≤ 1000000) ∧ (Slots w F 3 (D.f 3).A (D.f 3).c (D.f 3).l (fun i=>[.string ((((D.f 3).f i).f 0).s),.slice ((((D.f 3).f i).f 1).A) ((((D.f 3).f i).f 1).l) ((((D.f 3).f i).f 1).c),.map (((D.f 3).f i).m)]) ∧ (D.f 3).l ≤ 1000000 ∧ ∀ i,i < (D.f 3).l → qaN w F ((D.f 3).f i)) ∧ MapR w F D.m D.u ∧ D.u.length ≤ 1000000 ∧ (∀ x ∈ D.u,x.2.length < 4294967296) ∧ True
def qag (v:Int) (T:Tree):Bs:=(be 4 ((IntKind.i32.wrap (T.at_ 0).N))) ++ ((be 2 ((IntKind.i16.wrap (T.at_ 1).N))) ++ ((if (decide (v ≥ 0)) = true then (if (T.at_ 2).null = true then uv 0 else uv ((qcN (T.at_ 2)).length + 1) ++ (qcN (T.at_ 2))) else (if (T.at_ 2).null = true then be 2 (-1) else be 2 (qcN (T.at_ 2)).length ++ (qcN (T.at_ 2)))) ++ (((if (decide (v ≥ 0)) = true then (uv ((lst (T.at_ 3)).length + 1)) else (be 4 (lst (T.at_ 3)).length)) ++ ((lst (T.at_ 3)).flatMap fun ab=>(if (decide (v ≥ 0)) = true then (uv ((ab.at_ 0).S.length + 1) ++ (ab.at_ 0).S) else (be 2 (ab.at_ 0).S.length ++ (ab.at_ 0).S)) ++ (((if (decide (v ≥ 0)) = true then (uv ((lst (ab.at_ 1)).length + 1)) else (be 4 (lst (ab.at_ 1)).length)) ++ ((lst (ab.at_ 1)).flatMap fun aa=>(be 4 ((IntKind.i32.wrap (aa.at_ 0).N))) ++ (((if (decide (v ≥ 0)) = true then (uv ((lst (aa.at_ 1)).length + 1)) else (be 4 (lst (aa.at_ 1)).length)) ++ ((lst (aa.at_ 1)).flatMap fun ac=>be 4 ((IntKind.i32.wrap ac.N)))) ++ (((if (decide (v ≥ 0)) = true then (uv ((lst (aa.at_ 2)).length + 1)) else (be 4 (lst (aa.at_ 2)).length)) ++ ((lst (aa.at_ 2)).flatMap fun ae=>be 4 ((IntKind.i32.wrap ae.N)))) ++ (((if (decide (v ≥ 0)) = true then (uv ((lst (aa.at_ 3)).length + 1)) else (be 4 (lst (aa.at_ 3)).length)) ++ ((lst (aa.at_ 3)).flatMap fun af=>be 4 ((IntKind.i32.wrap af.N)))) ++ (if (decide (v ≥ 0)) = true then (uv aa.U.length) ++ (qcK aa.U) else [])))))) ++ (if (decide (v ≥ 0)) = true then (uv ab.U.length) ++ (qcK ab.U) else [])))) ++ ((if (decide (v ≥ 0)) = true then (uv T.U.length) ++ (qcK T.U) else []) ++ ([])))))
theorem qds {v:Int} {d:Nat} {l:List Fld} {t:Tree} {i:Nat} {x1 x2 x3 x5 x6:Int} {s:List Fld} (h:l[i]? = some (.mk 11 x1 x2 x3 (-1) x5 x6 s)) :
  ((fitT v (d + 1) l t).at_ i).null = Fld.nul (.mk 11 x1 x2 x3 (-1) x5 x6 s) v (t.at_ i) ∧
  lst ((fitT v (d + 1) l t).at_ i) = (if Fld.nul (.mk 11 x1 x2 x3 (-1) x5 x6 s) v (t.at_ i) = true then [] else qao (t.at_ i).L).map (fun x=>qbD (fitT v d) (.mk x6 x1 x2 (-1) (-1) x5 x6 s) (Fld.nul (.mk x6 x1 x2 (-1) (-1) x5 x6 s) v x) x):=by
 rw [qhH h]
 have e:qcO (fitT v d) v (.mk 11 x1 x2 x3 (-1) x5 x6 s) (t.at_ i) = .mk 0 [] (Fld.nul (.mk 11 x1 x2 x3 (-1) x5 x6 s) v (t.at_ i)) ((qao (t.at_ i).L).map (fun x=>qbD (fitT v d) (.mk x6 x1 x2 (-1) (-1) x5 x6 s) (Fld.nul (.mk x6 x1 x2 (-1) (-1) x5 x6 s) v x) x)) []:=by
  simp [qcO,Fld.kind,Fld.tag,Fld.elem]
 rw [e]
 refine ⟨rfl,?_⟩
 unfold lst
 show (if Fld.nul _ v (t.at_ i) = true then [] else _) = _
 split
 ·rfl
 rfl
theorem fit_10 {v:Int} {d:Nat} {x1 x2 x5 x6:Int} {s:List Fld} {b:Bool} {x:Tree}:(∀ i,(qbD (fitT v d) (.mk 10 x1 x2 (-1) (-1) x5 x6 s) b x).at_ i = (fitT v d s x).at_ i) ∧ (qbD (fitT v d) (.mk 10 x1 x2 (-1) (-1) x5 x6 s) b x).U = (fitT v d s x).U:=by
 cases hT:fitT v d s x with
 | mk n s' b' l u =>
  have e:qbD (fitT v d) (.mk 10 x1 x2 (-1) (-1) x5 x6 s) b x = .mk n s' b l u:=by
   simp [qbD,Fld.kind,Fld.sub,hT]
  rw [e]
  exact ⟨fun _=>rfl,rfl⟩
theorem qk1 {v:Int} {d:Nat} {l:List Fld} {t:Tree} {i:Nat} {k x1 x2 x3 x4 x5 x6:Int} {s:List Fld} (h:l[i]? = some (.mk k x1 x2 x3 x4 x5 x6 s)) (hk:k = 8 ∨ k = 9) :
  ((fitT v (d + 1) l t).at_ i).S = qaI (t.at_ i).S:=by
 rw [qhH h]
 have e1:k ≠ 11:=by omega
 have e:qcO (fitT v d) v (.mk k x1 x2 x3 x4 x5 x6 s) (t.at_ i) = .mk 0 (qaI (t.at_ i).S) (Fld.nul (.mk k x1 x2 x3 x4 x5 x6 s) v (t.at_ i)) [] []:=by
  simp [qcO,qbD,Fld.kind,e1,hk]
 rw [e]
 rfl
theorem nul_no {k x1 x2 x4 x5 x6:Int} {s:List Fld} {v:Int} {t:Tree}:Fld.nul (.mk k x1 x2 (-1) x4 x5 x6 s) v t = false:=by
 cases t
 simp [Fld.nul]
theorem qhr {x:Int}:be 8 (((IntKind.u64.wrap x).toNat:Nat):Int) = be 8 x:=by
 rw [show (((IntKind.u64.wrap x).toNat:Nat):Int) = IntKind.u64.wrap x by rw [qcR]; omega,qjU]
theorem qlv {k x1 x2 n x4 x5 x6:Int} {s:List Fld} {v:Int} {t:Tree} (h:Fld.nul (.mk k x1 x2 n x4 x5 x6 s) v t = true):v ≥ n:=by
 cases t
 simp only [Fld.nul,Bool.and_eq_true,decide_eq_true_eq] at h
 exact h.2
theorem qk2 {x:Int}:by8 (if decide (x % 2 = 1) = true then 1 else 0) = by8 (x % 2):=by
 rcases Int.emod_two_eq x with h | h <;> simp [h]
def canU (u:List (Int × Bs)):Prop:=qdf u ∧ u.length ≤ 1000000 ∧ ∀ y ∈ u,y.2.length < 4294967296
theorem qgm {v:Int} {d:Nat} {l:List Fld} {t:Tree}:canU (fitT v d l t).U:=by
 rw [qho]
 refine ⟨qgi (qfv _ _),?_,fun y hy=>?_⟩
 ·rw [qcV]; exact Nat.le_trans (qgY _ _) (by decide)
 obtain ⟨x,_,rfl⟩:=List.mem_map.1 hy
 exact Nat.lt_of_le_of_lt (qbh _) (by decide)
theorem qjo {v:Int} {d:Nat} {l:List Fld} {t:Tree} {i:Nat} {x1 x2 x3 x5 x6:Int} {s:List Fld} {Q:Tree → Prop} (h:l[i]? = some (.mk 11 x1 x2 x3 (-1) x5 x6 s))
  (hq:∀ y,Q (qbD (fitT v d) (.mk x6 x1 x2 (-1) (-1) x5 x6 s) (Fld.nul (.mk x6 x1 x2 (-1) (-1) x5 x6 s) v y) y)):∀ x ∈ lst ((fitT v (d + 1) l t).at_ i),Q x:=by
 rw [(qds h).2]
 intro x hx
 obtain ⟨y,_,rfl⟩:=List.mem_map.1 hx
 exact hq y
theorem qka {v:Int} {d:Nat} {l:List Fld} {t:Tree} {i:Nat} {k x1 x2 x3 x4 x5 x6:Int} {s:List Fld} (h:l[i]? = some (.mk k x1 x2 x3 x4 x5 x6 s)) (hk:k = 8 ∨ k = 9):(qcN ((fitT v (d + 1) l t).at_ i)).length ≤ 32767:=by
 rw [(qk0 h hk).1]
 split
 ·exact Nat.zero_le _
 exact Nat.le_trans (qbh _) (by decide)
theorem qfz {v:Int} {d:Nat} {l:List Fld} {t:Tree} {i:Nat} {x1 x2 x3 x5 x6:Int} {s:List Fld} (h:l[i]? = some (.mk 11 x1 x2 x3 (-1) x5 x6 s)):(lst ((fitT v (d + 1) l t).at_ i)).length ≤ 32767:=by
 rw [(qds h).2,List.length_map]
 split
 ·exact Nat.zero_le _
 simp only [qao,List.length_take]; omega
def Tree.ranged:Tree → Prop
 | .mk _ _ _ l u=>(∀ x ∈ u,0 ≤ x.1 ∧ x.1 < 4294967296) ∧ rangeds l
where rangeds:List Tree → Prop
 | []=>True
 | t :: r=>t.ranged ∧ rangeds r
abbrev rangeds:=Tree.ranged.rangeds
theorem qfA:∀ {l:List Tree},rangeds l → ∀ x ∈ l,x.ranged
 | [],_,x,h=>by cases h
 | t :: r,hr,x,h=>by
  rcases List.mem_cons.1 h with rfl | h
  ·exact hr.1
  exact qfA (l:=r) hr.2 x h
theorem qdX:∀ {l:List Tree},(∀ x ∈ l,x.ranged) → rangeds l
 | [],_=>trivial
 | t :: r,h=>⟨h t (List.mem_cons_self ..),qdX (l:=r) fun x hx=>h x (List.mem_cons_of_mem _ hx)⟩
theorem qfB:Tree.zero.ranged:=⟨fun x h=>(by cases h),trivial⟩
theorem qff {t:Tree} (h:t.ranged):∀ x ∈ t.U,0 ≤ x.1 ∧ x.1 < 4294967296:=by cases t; exact h.1
theorem qgn {t:Tree} (h:t.ranged):∀ x ∈ t.L,x.ranged:=by cases t; exact qfA h.2
theorem qfC {t:Tree} (h:t.ranged) (i:Nat):(t.at_ i).ranged:=by
 unfold Tree.at_
 rw [List.getD_eq_getElem?_getD]
 cases hx:t.L[i]? with
 | none=>exact qfB
 | some x=>exact qgn h x (List.mem_of_getElem? hx)
theorem qf5 {t:Tree} (h:t.ranged):∀ x ∈ lst t,x.ranged:=fun x hx=>by
 unfold lst at hx
 split at hx
 ·cases hx
 exact qgn h x hx
theorem TreeR.ranged {w:World} {F:Nat → Nat → Prop} {cs:List Value} {t:Tree} (h:TreeR w F cs t):t.ranged:=by
 induction h with
 | @mk n s b l u A1 A2 A3 c1 c2 c3 cs h1 h2 h3 h4 ih =>
  refine ⟨fun x hx=>qif h4 x hx,qdX fun x hx=>?_⟩
  obtain ⟨i,hi⟩:=List.mem_iff_getElem?.1 hx
  exact ih i x hi
theorem qip (v:Int):∀ (d:Nat) (l:List Fld) (t:Tree),t.ranged → (fitT v d l t).ranged:=by
 have core:∀ (W:Fld → Tree → Tree) (l:List Fld) (t:Tree),t.ranged → (∀ f x,x.ranged → (W f x).ranged) → (fitW W l t).ranged:=by
  intro W l t ht hW
  refine ⟨fun x hx=>?_,qdX ?_⟩
  ·obtain ⟨y,hy,rfl⟩:=List.mem_map.1 hx
   exact qff ht y (qgZ y hy)
  have:∀ (l:List Fld) (i:Nat),∀ x ∈ qhf W l t i,x.ranged:=by
   intro l
   induction l with
   | nil=>intro i x hx; cases hx
   | cons f r ih =>
    intro i x hx
    rcases List.mem_cons.1 hx with rfl | hx
    ·exact hW f _ (qfC ht i)
    exact ih (i + 1) x hx
  exact this l 0
 have f0:∀ (p:List Fld → Tree → Tree),(∀ l x,x.ranged → (p l x).ranged) → ∀ (f:Fld) (b:Bool) (x:Tree),x.ranged → (qbD p f b x).ranged:=by
  intro p hp f b x hx
  unfold qbD
  split
  ·exact ⟨fun x h=>(by cases h),trivial⟩
  split
  ·have:=hp f.sub x hx
   generalize p f.sub x = y at this
   cases y; exact this
  exact ⟨fun x h=>(by cases h),trivial⟩
 intro d
 induction d with
 | zero=>intro l t ht; exact core _ l t ht fun _ _ _=>qfB
 | succ d ih =>
  intro l t ht
  refine core _ l t ht fun f x hx=>?_
  unfold qcO
  split
  ·refine ⟨fun x h=>(by cases h),qdX fun y hy=>?_⟩
   obtain ⟨z,hz,rfl⟩:=List.mem_map.1 hy
   exact f0 _ ih _ _ _ (qgn hx z (by unfold qao at hz; exact List.mem_of_mem_take hz))
  exact f0 _ ih _ _ _ hx
abbrev z4 (x0) (x1) (x2) (x3) (x4) (x5) (x6) (x7) (x8) (x9):=([.int .i64 x0,.int .i64 x1,.int .i64 x2,.int .i64 x3,.int .i64 x4,.int .i64 x5,.int .i64 x6,.slice x7 x8 x9]:List Value)
theorem sHas (k x1 x2 x3 x4 x5 x6:Int) (fs:List Fld) (AF:Option Addr) (cF:Nat) (v:Int) (w:World) :
  Calls Tryz.prog 34 #[.agg #[.int .i64 k,.int .i64 x1,.int .i64 x2,.int .i64 x3,.int .i64 x4,.int .i64 x5,.int .i64 x6,.slice AF fs.length cF],.int .i64 v] w (qcu w (.bool (Fld.has (Fld.mk k x1 x2 x3 x4 x5 x6 fs) v))):=by
 refine enter (n:=20) Tryz.func34 rfl Tryz.ntmps34 kz fun a hE=>?_
 have hW:=WOk.start w Nil
 refine qae [0,1] kz ?_
 refine qal (qbm hW hE (d:=2) (cs:=(z4 k x1 x2 x3 x4 x5 x6 AF fs.length cF)) kz fun b1 a2 w3 hb4 hz5 hF6 hW7 hE8=>?_)
 refine qaj [1] [] [(1,.v (.int .i64 v)),(2,.p 0 0)] hW7 hE8 fun a9 af=>?_
 refine qaf (qab ?_)
 refine qae [0,1,2,3,4,5,6,7,8,9,10,11,12,13,14,15] kz ?_
 refine qaj [0,1,2,3,4] [5,6,7,8,9,10,11,12,13,14,15] [(1,.v (.int .i64 v)),(2,.p 0 0),(9,.v (.bool (decide (x1 ≤ v))))] hW7 af fun av ac=>?_
 refine (Bool.eq_false_or_eq_true (decide (x1 ≤ v))).elim (fun aa=>?_) (fun aa=>?_)
 ·
  have ao:=of_decide_eq_true aa
  have ag:=ac
  rw [aa] at ag
  refine qaj [5,6,7,8] [9,10,11,12,13,14,15] [(1,.v (.int .i64 v)),(2,.p 0 0),(9,.v (.bool true)),(13,.v (.bool (decide (x2 < 0))))] hW7 ag fun aw ae=>?_
  refine (Bool.eq_false_or_eq_true (decide (x2 < 0))).elim (fun ab=>?_) (fun ab=>?_)
  ·
   have ap:=of_decide_eq_true ab
   have ah:=ae
   rw [ab] at ah
   refine qaj [9,10,11,12,13,14,15] [] [(4,.v (.bool true))] hW7 ah fun ax ai=>?_
   refine qaf (qab ?_)
   refine wp_ret (qaM ai hW7.cells (v:=.bool true) kz ?_)
   exact ⟨by simp only [Fld.has,aa,ab,Bool.true_and,Bool.and_true,Bool.false_and,Bool.and_false,Bool.true_or,Bool.false_or,Bool.or_true,Bool.or_false],hW7.step⟩
  have ar:=of_decide_eq_false ab
  have aj:=ae
  rw [ab] at aj
  refine qaj [9,10,11,12,13,14,15] [] [(4,.v (.bool (decide (v ≤ x2))))] hW7 aj fun ay ak=>?_
  refine qaf (qab ?_)
  refine wp_ret (qaM ak hW7.cells (v:=.bool (decide (v ≤ x2))) kz ?_)
  exact ⟨by simp only [Fld.has,aa,ab,Bool.true_and,Bool.and_true,Bool.false_and,Bool.and_false,Bool.true_or,Bool.false_or,Bool.or_true,Bool.or_false],hW7.step⟩
 have au:=of_decide_eq_false aa
 have al:=ac
 rw [aa] at al
 refine qaj [5,6,7,8,9,10,11,12,13,14,15] [] [(4,.v (.bool false))] hW7 al fun az am=>?_
 refine qaf (qab ?_)
 refine wp_ret (qaM am hW7.cells (v:=.bool false) kz ?_)
 exact ⟨by simp only [Fld.has,aa,Bool.true_and,Bool.and_true,Bool.false_and,Bool.and_false,Bool.true_or,Bool.false_or,Bool.or_true,Bool.or_false],hW7.step⟩
abbrev z3 (x0) (x1) (x2) (x3) (x4) (x5) (x6) (x7) (x8) (x9) (x10) (x11) (x12) (x13):=(Fld.nul (Fld.mk x0 x1 x2 x3 x4 x5 x6 x7) x8 (Tree.mk x9 x10 x11 x12 x13))
abbrev z2 (x0) (x1) (x2) (x3) (x4) (x5) (x6) (x7) (x8) (x9) (x10):=([.int .i64 x0,.slice x1 x2 x3,.bool x4,.slice x5 x6 x7,.slice x8 x9 x10]:List Value)
theorem qk3 (k x1 x2 x3 x4 x5 x6:Int) (fs:List Fld) (AF:Option Addr) (cF:Nat) (v:Int) (n:Int) (s:Bs) (b:Bool) (l:List Tree) (u:List (Int × Bs)) (A1:Option Addr) (c1:Nat) (A2:Option Addr) (c2:Nat) (A3:Option Addr) (c3:Nat) (w:World) :
  Calls Tryz.prog 72 #[.agg #[.int .i64 k,.int .i64 x1,.int .i64 x2,.int .i64 x3,.int .i64 x4,.int .i64 x5,.int .i64 x6,.slice AF fs.length cF],.int .i64 v,.agg #[.int .i64 n,.slice A1 s.length c1,.bool b,.slice A2 l.length c2,.slice A3 u.length c3]] w (qcu w (.bool (z3 k x1 x2 x3 x4 x5 x6 fs v n s b l u))):=by
 refine enter (n:=20) Tryz.func72 rfl Tryz.ntmps72 kz fun a hE=>?_
 have hW:=WOk.start w Nil
 refine qae [0,1,2] kz ?_
 refine qal (qbm hW hE (d:=3) (cs:=(z4 k x1 x2 x3 x4 x5 x6 AF fs.length cF)) kz fun b1 a2 w3 hb4 hz5 hF6 hW7 hE8=>?_)
 refine qal (qbm hW7 hE8 (d:=5) (cs:=(z2 n A1 s.length c1 b A2 l.length c2 A3 u.length c3)) kz fun b9 ay az ar au av aa ag=>?_)
 refine qaj [2] [] [(1,.v (.int .i64 v)),(3,.p 0 0),(5,.p 1 0)] aa ag fun aA ah=>?_
 refine qaf (qab ?_)
 refine qae [0,1,2,3,4,5,6,7,8,9,10,11,12,13] kz ?_
 refine qaj [0,1,2] [3,4,5,6,7,8,9,10,11,12,13] [(1,.v (.int .i64 v)),(3,.p 0 0),(9,.v (.bool b))] aa ah fun aB ae=>?_
 refine (Bool.eq_false_or_eq_true (b)).elim (fun ac=>?_) (fun ac=>?_)
 ·
  have ai:=ae.cast (env':=[(1,.v (.int .i64 v)),(3,.p 0 0),(9,.v (.bool true))]) (by rw [ac])
  refine qaj [3,4,5,6,7] [8,9,10,11,12,13] [(1,.v (.int .i64 v)),(3,.p 0 0),(14,.v (.bool (decide (x3 ≥ 0))))] aa ai fun aC af=>?_
  refine (Bool.eq_false_or_eq_true (decide (x3 ≥ 0))).elim (fun ab=>?_) (fun ab=>?_)
  ·
   have aw:=of_decide_eq_true ab
   have aj:=af
   rw [ab] at aj
   refine qaj [8,9,10,11,12,13] [] [(6,.v (.bool (decide (v ≥ x3))))] aa aj fun aD ak=>?_
   refine qaf (qab ?_)
   refine wp_ret (qaM ak aa.cells (v:=.bool (decide (v ≥ x3))) kz ?_)
   exact ⟨by simp only [Fld.nul,ac,ab,Bool.true_and,Bool.and_true,Bool.false_and,Bool.and_false,Bool.true_or,Bool.false_or,Bool.or_true,Bool.or_false],aa.step⟩
  have ax:=of_decide_eq_false ab
  have al:=af
  rw [ab] at al
  refine qaj [8,9,10,11,12,13] [] [(6,.v (.bool false))] aa al fun aE am=>?_
  refine qaf (qab ?_)
  refine wp_ret (qaM am aa.cells (v:=.bool false) kz ?_)
  exact ⟨by simp only [Fld.nul,ac,ab,Bool.true_and,Bool.and_true,Bool.false_and,Bool.and_false,Bool.true_or,Bool.false_or,Bool.or_true,Bool.or_false],aa.step⟩
 have ao:=ae.cast (env':=[(1,.v (.int .i64 v)),(3,.p 0 0),(9,.v (.bool false))]) (by rw [ac])
 refine qaj [3,4,5,6,7,8,9,10,11,12,13] [] [(6,.v (.bool false))] aa ao fun aF ap=>?_
 refine qaf (qab ?_)
 refine wp_ret (qaM ap aa.cells (v:=.bool false) kz ?_)
 exact ⟨by simp only [Fld.nul,ac,Bool.true_and,Bool.and_true,Bool.false_and,Bool.and_false,Bool.true_or,Bool.false_or,Bool.or_true,Bool.or_false],aa.step⟩
theorem qjp (k:Int) (w:World):Calls Tryz.prog 71 #[.int .i64 k] w (qcu w (.int .i64 ((qbA k:Nat):Int))):=by
 refine enter (n:=11) Tryz.func71 rfl Tryz.ntmps71 kz fun a hE=>?_
 have hW:=WOk.start w Nil
 refine qar [(0,.v (.int .i64 k))] hW hE fun a1 hE2=>?_
 refine wp_seq (qar [(3,.v (.int .i64 k))] hW hE2 fun a3 hE4=>?_)
 refine wp_block (qar [(3,.v (.int .i64 k)),(4,.v (.bool (k == 1)))] hW hE4 fun a5 hE6=>?_)
 refine qaw hE6 (b:=k == 1) kz (fun hc7=>?_) (fun hc7=>?_)
 ·
  have hf8:k = 1:=by simpa using hc7
  refine qar [(2,.v (.int .i64 1))] hW hE6 fun a9 ah=>?_
  refine wp_ret (qay (qat (qaM ah hW.cells (v:=.int .i64 1) kz ?_)))
  exact ⟨by simp_all [qbA],hW.step⟩
 have am:k ≠ 1:=by simpa using hc7
 refine wp_seq (qar [(3,.v (.int .i64 k)),(6,.v (.bool (k == 2)))] hW hE6 fun ax aa=>?_)
 refine qaw aa (b:=k == 2) kz (fun ab=>?_) (fun ab=>?_)
 ·
  have ao:k = 2:=by simpa using ab
  refine wp_skip (qab (qa4 aa (b:=k == 2) kz (ab) ?_))
  refine qar [(2,.v (.int .i64 2))] hW aa fun ay ai=>?_
  refine wp_ret (qay (qat (qaM ai hW.cells (v:=.int .i64 2) kz ?_)))
  exact ⟨by simp_all [qbA],hW.step⟩
 have ap:k ≠ 2:=by simpa using ab
 refine qaq [0,1] kz ?_
 refine qaj [0,1] [] [(3,.v (.int .i64 k)),(6,.v (.bool (k == 5)))] hW aa fun az ac=>?_
 refine qaf (qab ?_)
 refine qaw ac (b:=k == 5) kz (fun ae=>?_) (fun ae=>?_)
 ·
  have ar:k = 5:=by simpa using ae
  refine qar [(2,.v (.int .i64 2))] hW ac fun aA aj=>?_
  refine wp_ret (qay (qat (qaM aj hW.cells (v:=.int .i64 2) kz ?_)))
  exact ⟨by simp_all [qbA],hW.step⟩
 have au:k ≠ 5:=by simpa using ae
 refine qar [(9,.v (.bool (k == 3)))] hW ac fun aB af=>?_
 refine qaw af (b:=k == 3) kz (fun ag=>?_) (fun ag=>?_)
 ·
  have av:k = 3:=by simpa using ag
  refine qar [(2,.v (.int .i64 4))] hW af fun aC ak=>?_
  refine wp_ret (qay (qat (qaM ak hW.cells (v:=.int .i64 4) kz ?_)))
  exact ⟨by simp_all [qbA],hW.step⟩
 have aw:k ≠ 3:=by simpa using ag
 refine wp_skip (qas (qab (qar [(2,.v (.int .i64 8))] hW af fun aD al=>?_)))
 refine wp_ret (qaM al hW.cells (v:=.int .i64 8) kz ?_)
 exact ⟨by simp_all [qbA],hW.step⟩
theorem qdD (A:Option Addr) (c:Nat) (s:Bs) (hc:s.length ≤ c) (w:World) :
  Calls Tryz.prog 40 #[.slice A s.length c] w (qcu w (.slice A (qaI s).length c)):=by
 refine enter (n:=8) Tryz.func40 rfl Tryz.ntmps40 kz fun a hE=>?_
 have hW:=WOk.start w Nil
 refine qar [(0,.v (.slice A s.length c))] hW hE fun a1 hE2=>?_
 refine qae [0,1,2,3,4,5] kz ?_
 refine qaj [0,1,2,3] [4,5] [(3,.v (.slice A s.length c)),(6,.v (.int .i64 (if 32767 < ((s.length:Nat):Int) then 32767 else ((s.length:Nat):Int))))] hW hE2 fun a3 hE4=>?_
 refine qal (qdj hE4 (t:=22) (A:=A) (m:=s.length) (cp:=c) (q:=(if 32767 < ((s.length:Nat):Int) then 32767 else ((s.length:Nat):Int))) (d:=7) (j:=(qaI s).length) kz (e:=5) (size:=1) (bytes:=1) kz (by simpa [qaI] using qhe s.length) (by simp only [qaI,List.length_take]; omega) fun a5 hE6=>?_)
 refine qaj [5] [] [(2,.v (.slice A ((qaI s).length) c))] hW hE6 fun a7 hE8=>?_
 refine qaf (qab ?_)
 refine wp_ret (qaM hE8 hW.cells (v:=.slice A ((qaI s).length) c) kz ?_)
 exact ⟨rfl,hW.step⟩
theorem qgo (A:Option Addr) (c:Nat) (s:List Tree) (hc:s.length ≤ c) (w:World) :
  Calls Tryz.prog 73 #[.slice A s.length c] w (qcu w (.slice A (qao s).length c)):=by
 refine enter (n:=8) Tryz.func73 rfl Tryz.ntmps73 kz fun a hE=>?_
 have hW:=WOk.start w Nil
 refine qar [(0,.v (.slice A s.length c))] hW hE fun a1 hE2=>?_
 refine qae [0,1,2,3,4,5] kz ?_
 refine qaj [0,1,2,3] [4,5] [(3,.v (.slice A s.length c)),(6,.v (.int .i64 (if 32767 < ((s.length:Nat):Int) then 32767 else ((s.length:Nat):Int))))] hW hE2 fun a3 hE4=>?_
 refine qal (qdj hE4 (t:=23) (A:=A) (m:=s.length) (cp:=c) (q:=(if 32767 < ((s.length:Nat):Int) then 32767 else ((s.length:Nat):Int))) (d:=7) (j:=(qao s).length) kz (e:=26) (size:=5) (bytes:=88) kz (by simpa [qao] using qhe s.length) (by simp only [qao,List.length_take]; omega) fun a5 hE6=>?_)
 refine qaj [5] [] [(2,.v (.slice A ((qao s).length) c))] hW hE6 fun a7 hE8=>?_
 refine qaf (qab ?_)
 refine wp_ret (qaM hE8 hW.cells (v:=.slice A ((qao s).length) c) kz ?_)
 exact ⟨rfl,hW.step⟩
theorem qeh (A A':Option Addr) (c c':Nat) (s t:Bs) (w:World) (F:Nat → Nat → Prop) (hs:Octs w F A c s) (ht:Octs w F A' c' t) :
  Calls Tryz.prog 39 #[.slice A s.length c,.slice A' t.length c'] w (qcu w (.bool (decide (s = t)))):=by
 refine enter (n:=26) Tryz.func39 rfl Tryz.ntmps39 kz fun a hE=>?_
 have hW:=WOk.start w Nil
 have hl:=Slots.small hs
 refine qar [(0,.v (.slice A s.length c)),(1,.v (.slice A' t.length c'))] hW hE fun a1 hE2=>?_
 refine wp_seq (qar [(0,.v (.slice A s.length c)),(1,.v (.slice A' t.length c')),(10,.v (.bool (((s.length:Nat):Int) != ((t.length:Nat):Int))))] hW hE2 fun a3 hE4=>?_)
 refine qaw hE4 (b:=((s.length:Nat):Int) != ((t.length:Nat):Int)) kz (fun hc5=>?_) (fun hc5=>?_)
 ·
  have hf6:((s.length:Nat):Int) ≠ ((t.length:Nat):Int):=by simpa using hc5
  refine qar [(4,.v (.bool false))] hW hE4 fun a7 hE8=>?_
  refine wp_ret (qat (qaM hE8 hW.cells (v:=.bool false) kz ?_))
  exact ⟨by first | rw [← qge hq (by omega) hlen] | rw [← qhg ‹_›] | rw [← qgd ‹_›],hW.step⟩
 have hf9:((s.length:Nat):Int) = ((t.length:Nat):Int):=by simpa using hc5
 refine wp_skip (qab (wp_seq (qar [(0,.v (.slice A s.length c)),(1,.v (.slice A' t.length c')),(12,.v (.int .i64 ((s.length:Nat):Int))),(13,.v (.int .i64 0))] hW hE4 fun aP ak=>?_)))
 refine wp_block ?_
 have hlen:s.length = t.length:=by omega
 refine wp_loop_ghost (fun n_ a_ w_=>∃ (k:Nat),n_ = s.length - k ∧ k ≤ s.length ∧ (s.take k = t.take k) ∧ LInv hW 26 [] [] [(0,.v (.slice A s.length c)),(1,.v (.slice A' t.length c')),(12,.v (.int .i64 ((s.length:Nat):Int))),(13,.v (.int .i64 ((k:Nat):Int)))] a_ w_) (s.length) ⟨0,by omega,by omega,rfl,ak.pk,hW,Fr.refl _ _ _⟩ ?_
 rintro aQ aR aS ⟨k,aD,aE,hq,al,ab,am⟩
 refine qar [(0,.v (.slice A s.length c)),(1,.v (.slice A' t.length c')),(12,.v (.int .i64 ((s.length:Nat):Int))),(13,.v (.int .i64 ((k:Nat):Int))),(14,.v (.bool (decide (((k:Nat):Int) < ((s.length:Nat):Int)))))] ab al fun aT ac=>?_
 refine wp_seq (qaw ac (b:=decide (((k:Nat):Int) < ((s.length:Nat):Int))) kz (fun ae=>?_) (fun ae=>?_))
 ·
  have aF:=of_decide_eq_true ae
  refine wp_skip (qab (wp_seq (wp_block (qar [(0,.v (.slice A s.length c)),(1,.v (.slice A' t.length c')),(5,.v (.int .i64 ((k:Nat):Int))),(12,.v (.int .i64 ((s.length:Nat):Int))),(13,.v (.int .i64 ((k:Nat):Int)))] ab ac fun aU ao=>?_))))
  refine qcb kz ab fun aV ap aa=>?_
  refine qaD [0,1,4,5] [(0,.v (.slice A s.length c)),(1,.v (.slice A' t.length c')),(12,.v (.int .i64 ((s.length:Nat):Int))),(13,.v (.int .i64 ((k:Nat):Int))),(16,.v (.slice A s.length c)),(17,.v (.int .i64 ((k:Nat):Int))),(20,.v (.slice A' t.length c')),(21,.v (.int .i64 ((k:Nat):Int)))] 5 (qaa (qac (qaa (qaa (qac (qaa qad)))))) (fun _ h=>h ▸ aa.cells) rfl ao fun aW ar=>?_
  obtain ⟨aG,aH,au,aI,ah⟩:=Slots.get hs (i:=k) (by omega)
  refine qaJ ar (i:=2) (t:=22) (A:=A) (m:=s.length) (q:=((k:Nat):Int)) (d:=18) kz (e:=5) (size:=1) (bytes:=1) kz au rfl (by omega) kz kz (qaa (qac (qaa (qaa (qac (qaa qad)))))) rfl fun aX av=>?_
  refine qa6 av (i:=3) (t:=5) (b:=aG) (o:=aH + k * 1) (d:=19) kz (cs:=[.int .u8 ((s.getD k 0).toNat:Int)]) (v:=.int .u8 ((s.getD k 0).toNat:Int)) kz (fun w' h'=>h' ▸ (AtF.move ah aa.step nilM qbb).at_) kz kz (qaa (qac (qaa (qaa (qac (qaa qad)))))) rfl fun aY aw=>?_
  obtain ⟨aJ,aK,ax,aL,ai⟩:=Slots.get ht (i:=k) (by omega)
  refine qaJ aw (i:=6) (t:=22) (A:=A') (m:=t.length) (q:=((k:Nat):Int)) (d:=22) kz (e:=5) (size:=1) (bytes:=1) kz ax rfl (by omega) kz kz (qaa (qac (qaa (qaa (qac (qaa qad)))))) rfl fun aZ ay=>?_
  refine qa6 ay (i:=7) (t:=5) (b:=aJ) (o:=aK + k * 1) (d:=23) kz (cs:=[.int .u8 ((t.getD k 0).toNat:Int)]) (v:=.int .u8 ((t.getD k 0).toNat:Int)) kz (fun w' h'=>h' ▸ (AtF.move ai aa.step nilM qbb).at_) kz kz (qaa (qac (qaa (qaa (qac (qaa qad)))))) rfl fun ba az=>?_
  refine qaD [8] [(0,.v (.slice A s.length c)),(1,.v (.slice A' t.length c')),(12,.v (.int .i64 ((s.length:Nat):Int))),(13,.v (.int .i64 ((k:Nat):Int))),(24,.v (.bool (((s.getD k 0).toNat:Int) != ((t.getD k 0).toNat:Int))))] 0 (qaa (qac (qaa (qaa (qac (qaa qad)))))) (fun _ h=>h ▸ aa.cells) rfl az fun bd af=>?_
  refine qaC kz ?_ _
  refine qab (qaw af (b:=((s.getD k 0).toNat:Int) != ((t.getD k 0).toNat:Int)) kz (fun ag=>?_) (fun ag=>?_))
  ·
   have aM:((s.getD k 0).toNat:Int) ≠ ((t.getD k 0).toNat:Int):=by simpa using ag
   refine qar [(4,.v (.bool false))] aa af fun bf aA=>?_
   refine wp_ret (qay (qat (qat (qay (qat (qaM aA aa.cells (v:=.bool false) kz ?_))))))
   exact ⟨by first | rw [← qge hq (by omega) hlen] | rw [← qhg ‹_›] | rw [← qgd ‹_›],aa.step⟩
  have aN:((s.getD k 0).toNat:Int) = ((t.getD k 0).toNat:Int):=by simpa using ag
  refine wp_skip (qas (qab (qaq [0,1] kz ?_)))
  refine qaj [0,1] [] [(0,.v (.slice A s.length c)),(1,.v (.slice A' t.length c')),(12,.v (.int .i64 ((s.length:Nat):Int))),(13,.v (.int .i64 (IntKind.i64.wrap (((k:Nat):Int) + 1))))] aa af fun bg aj=>?_
  refine qaf (qab ?_)
  have aB:IntKind.i64.wrap (((k:Nat):Int) + 1) = ((k + 1:Nat):Int):=qaP (by omega)
  rw [aB] at aj
  exact ⟨s.length - (k + 1),by omega,k + 1,rfl,by omega,qiJ hq (by omega) hlen ‹_›,aj.pk,aa,(am.trans ap)⟩
 have aO:=of_decide_eq_false ae
 refine wp_exit (qau (qau (qaL (qab (qar [(4,.v (.bool true))] ab ac fun bh aC=>?_)))))
 refine wp_ret (qaM aC ab.cells (v:=.bool true) kz ?_)
 exact ⟨by first | rw [← qge hq (by omega) hlen] | rw [← qhg ‹_›] | rw [← qgd ‹_›],ab.step⟩
abbrev z0 :=([.int .i64 0,.slice none 0 0,.bool false,.slice none 0 0,.slice none 0 0]:List Value)
theorem sAt (ct:List Value) (t:Tree) (i:Nat) (w:World) (F:Nat → Nat → Prop) (ht:TreeR w F ct t) :
  Calls Tryz.prog 33 #[.agg ct.toArray,.int .i64 (i:Int)] w (qll w F (t.at_ i)):=by
 obtain ⟨n1,s2,b3,l4,u5,A6,c7,A8,c9,aO,aP,aQ,rfl,rfl,aR,aJ,aS,bp⟩:=ht.open_
 have aK:=aR.small
 have aL:=aJ.small
 refine enter (n:=16) Tryz.func33 rfl Tryz.ntmps33 kz fun a hE=>?_
 have hW:=WOk.start w Nil
 refine qae [0,1] kz ?_
 refine qal (qbm hW hE (d:=2) (cs:=(z2 n1 A6 s2.length c7 b3 A8 l4.length c9 aO u5.length aP)) kz fun bq bt bu aT aU aV az aA=>?_)
 refine qal (qaS az aA (d:=4) (cs:=z0) kz fun bw bx bz aW aX aY aa aB=>?_)
 refine qaf (qab ?_)
 refine wp_seq (qar [(1,.v (.int .i64 ((i:Nat):Int))),(2,.p 0 0),(4,.p 1 0),(9,.v (.bool (decide (((i:Nat):Int) < ((l4.length:Nat):Int)))))] aa aB fun bA ae=>?_)
 refine qaw ae (b:=decide (((i:Nat):Int) < ((l4.length:Nat):Int))) kz (fun af=>?_) (fun af=>?_)
 ·
  have aZ:=of_decide_eq_true af
  refine qae [0,1,2,3,4,5] kz ?_
  refine qaj [0,1,2] [3,4,5] [(4,.p 1 0),(11,.v (.slice A8 l4.length c9)),(12,.v (.int .i64 ((i:Nat):Int)))] aa ae fun bB aC=>?_
  obtain ⟨ba,bd,aD,bf,ab⟩:=Slots.get aJ (i:=i) (by omega)
  obtain ⟨bg,ah⟩:∃ x,l4[i]? = some x:=⟨_,List.getElem?_eq_getElem (by omega)⟩
  have ag:=aS i bg ah
  obtain ⟨ak,al,am,ao,ap,ar,au,av,aw,ax,ay,bh,rfl,ac,bi,bj,bC,bD⟩:=ag.open_
  rw [ac] at ag
  have aM:=bi.small
  have aN:=bj.small
  rw [ac] at ab
  refine qal (qax aC (t:=23) (A:=A8) (m:=l4.length) (q:=((i:Nat):Int)) (d:=13) kz (e:=26) (size:=5) (bytes:=88) kz aD rfl (by omega) fun bE aE=>?_)
  refine qal (qaU aE (t:=26) (b:=ba) (o:=bd + i * 5) (d:=14) kz (cs:=(z2 ak ar al.length au am av ao.length aw ax ap.length ay)) (v:=.agg #[.int .i64 ak,.slice ar al.length au,.bool am,.slice av ao.length aw,.slice ax ap.length ay]) kz (AtF.move ab aa.step nilM qbb).at_ fun bF aF=>?_)
  refine qal (qap aa aF (oi:=1) (cs:=(z2 ak ar al.length au am av ao.length aw ax ap.length ay)) kz fun bG bk ai aG=>?_)
  refine qaf (qab ?_)
  refine wp_ret (qat (qaM aG ai.cells (v:=.agg #[.int .i64 ak,.slice ar al.length au,.bool am,.slice av ao.length aw,.slice ax ap.length ay]) kz ?_))
  exact ⟨_,rfl,by rw [qkR ah]; exact ag,ai.step⟩
 have bn:=of_decide_eq_false af
 refine wp_skip (qab (qae [0,1] kz ?_))
 refine qaj [0] [1] [(4,.p 1 0),(15,.v (.agg #[.int .i64 0,.slice none 0 0,.bool false,.slice none 0 0,.slice none 0 0]))] aa ae fun bH aH=>?_
 refine qal (qap aa aH (oi:=1) (cs:=z0) kz fun bI bo aj aI=>?_)
 refine qaf (qab ?_)
 refine wp_ret (qaM aI aj.cells (v:=.agg #[.int .i64 0,.slice none 0 0,.bool false,.slice none 0 0,.slice none 0 0]) kz ?_)
 exact ⟨_,rfl,by rw [qkS (by omega)]; exact TreeR.zero _ _,aj.step⟩
theorem qfD (x:Int) (size:Nat) (hsz:size ≤ 8) (w:World) :
  Calls Tryz.prog 70 #[.int .i64 x,.int .i64 ((size:Nat):Int)] w (qd3 w 5 (be size x)):=by
 refine enter (n:=22) Tryz.func70 rfl Tryz.ntmps70 kz fun a hE=>?_
 have hW:=WOk.start w Nil
 refine qar [(0,.v (.int .i64 x)),(1,.v (.int .i64 ((size:Nat):Int)))] hW hE fun a1 hE2=>?_
 refine qar [(0,.v (.int .i64 x)),(1,.v (.int .i64 ((size:Nat):Int))),(5,.v (.slice none 0 0))] hW hE2 fun a3 hE4=>?_
 refine wp_seq (qar [(0,.v (.int .i64 x)),(5,.v (.slice none 0 0)),(6,.v (.int .i64 (IntKind.i64.wrap (((size:Nat):Int) - 1))))] hW hE4 fun a5 hE6=>?_)
 refine wp_block ?_
 have hW7:=hW.addNil 5 1
 have hF8:=hW.frNil 5 1
 have aj:IntKind.i64.wrap (((size:Nat):Int) - 1) = ((size:Nat):Int) - 1 - ((0:Nat):Int):=by rw [wrap_i64 (by omega) (by omega)]; omega
 rw [aj] at hE6
 refine wp_loop_ghost (fun n_ a_ w_=>∃ (k:Nat) (A:Option Addr) (c:Nat),n_ = size - k ∧ k ≤ size ∧ LInv hW7 22 [] [brow A c 5 ((be size x).take k)] [(0,.v (.int .i64 x)),(5,.v (.slice A (((be size x).take k).length) c)),(6,.v (.int .i64 (((size:Nat):Int) - 1 - ((k:Nat):Int))))] a_ w_) (size) ⟨0,none,0,by omega,by omega,hE6.pk,hW7,Fr.refl _ _ _⟩ ?_
 rintro n9 aK aL ⟨k,A,c,aG,aH,ak,aa,al⟩
 refine wp_seq (qar [(0,.v (.int .i64 x)),(5,.v (.slice A (((be size x).take k).length) c)),(6,.v (.int .i64 (((size:Nat):Int) - 1 - ((k:Nat):Int)))),(10,.v (.bool (decide ((((size:Nat):Int) - 1 - ((k:Nat):Int)) ≥ 0))))] aa ak fun aM ae=>?_)
 refine qaw ae (b:=decide ((((size:Nat):Int) - 1 - ((k:Nat):Int)) ≥ 0)) kz (fun af=>?_) (fun af=>?_)
 ·
  have aI:=of_decide_eq_true af
  refine wp_skip (qab (wp_seq (wp_block (qaq [0,1,2,3,4,5,6,7,8] kz ?_))))
  refine qaj [0,1,2,3] [4,5,6,7,8] [(0,.v (.int .i64 x)),(6,.v (.int .i64 (((size:Nat):Int) - 1 - ((k:Nat):Int)))),(13,.v (.slice A (((be size x).take k).length) c)),(14,.v (.int .i64 x)),(16,.v (.int .i64 (IntKind.i64.wrap (8 * (((size:Nat):Int) - 1 - ((k:Nat):Int))))))] aa ae fun aN am=>?_
  refine qal (qjS am (k:=.i64) (p:=x) (q:=(IntKind.i64.wrap (8 * (((size:Nat):Int) - 1 - ((k:Nat):Int))))) (d:=17) (j:=8 * (size - 1 - k)) kz (by rw [wrap_i64 (by omega) (by omega)]; omega) (by simp only [IntKind.bits]; omega) fun aO ao=>?_)
  refine qaj [5] [6,7,8] [(0,.v (.int .i64 x)),(6,.v (.int .i64 (((size:Nat):Int) - 1 - ((k:Nat):Int)))),(13,.v (.slice A (((be size x).take k).length) c)),(18,.v (.int .u8 (IntKind.u8.wrap (x / 2 ^ (8 * (size - 1 - k))))))] aa ao fun aP ap=>?_
  refine qcI aa ap (k:=0) (e:=5) (size:=1) (len:=1) (cs:=[.int .u8 (IntKind.u8.wrap (x / 2 ^ (8 * (size - 1 - k))))]) (d1:=19) (d:=20) kz (t:=22) (bytes:=1) kz (fun _=>by kernel_rfl) rfl kz (by first | (have:=hroom; omega) | (simp; done) | (simp; omega)) fun ab ac aQ aR ar au ⟨_,av⟩=>?_
  have aw:(⟨ab,ac,5,1,((be size x).take k).length + 1,bc ((be size x).take k) ++ [.int .u8 (IntKind.u8.wrap (x / 2 ^ (8 * (size - 1 - k))))]⟩:Rw) = brow ab ac 5 ((be size x).take k ++ [by8 (x / 2 ^ (8 * (size - 1 - k)))]):=qb5 (by simp only [bc,List.map,qep]; try rfl) rfl
  obtain ⟨ag,ax⟩:=au.rowEq 0 [brow ab ac 5 ((be size x).take k ++ [by8 (x / 2 ^ (8 * (size - 1 - k)))])] aw
  have ay:=EnvOk.pick av (ks:=[0,6,13,18,20]) (env':=[(0,.v (.int .i64 x)),(6,.v (.int .i64 (((size:Nat):Int) - 1 - ((k:Nat):Int)))),(13,.v (.slice A (((be size x).take k).length) c)),(18,.v (.int .u8 (IntKind.u8.wrap (x / 2 ^ (8 * (size - 1 - k)))))),(20,.v (.slice ab (((be size x).take k).length + 1) ac))]) kz
  have az:=ay.cast (env':=[(0,.v (.int .i64 x)),(6,.v (.int .i64 (((size:Nat):Int) - 1 - ((k:Nat):Int)))),(13,.v (.slice A (((be size x).take k).length) c)),(18,.v (.int .u8 (IntKind.u8.wrap (x / 2 ^ (8 * (size - 1 - k)))))),(20,.v (.slice ab (((be size x).take k ++ [by8 (x / 2 ^ (8 * (size - 1 - k)))]).length) ac))]) (by simp only [List.length_append,List.length_cons,List.length_nil,Nat.zero_add])
  refine qaj [8] [] [(0,.v (.int .i64 x)),(5,.v (.slice ab (((be size x).take k ++ [by8 (x / 2 ^ (8 * (size - 1 - k)))]).length) ac)),(6,.v (.int .i64 (((size:Nat):Int) - 1 - ((k:Nat):Int))))] ag az fun aS aA=>?_
  refine qaf (qas (qab (qaq [0,1,2] kz ?_)))
  refine qaj [0,1,2] [] [(0,.v (.int .i64 x)),(5,.v (.slice ab (((be size x).take k ++ [by8 (x / 2 ^ (8 * (size - 1 - k)))]).length) ac)),(6,.v (.int .i64 (IntKind.i64.wrap ((((size:Nat):Int) - 1 - ((k:Nat):Int)) - 1))))] ag aA fun aT ah=>?_
  refine qaf (qab ?_)
  have ai:((be size x).take k ++ [by8 (x / 2 ^ (8 * (size - 1 - k)))]) = ((be size x).take (k + 1)):=(qgH (by omega)).symm
  have aB:=congrArg (brow ab ac 5) ai
  obtain ⟨aC,aD⟩:=ag.rowEq 0 [brow ab ac 5 ((be size x).take (k + 1))] aB
  rw [ai] at ah
  have aE:IntKind.i64.wrap ((((size:Nat):Int) - 1 - ((k:Nat):Int)) - 1) = ((size:Nat):Int) - 1 - (((k + 1):Nat):Int):=by rw [wrap_i64 (by omega) (by omega)]; omega
  rw [aE] at ah
  exact ⟨size - (k + 1),by omega,k + 1,ab,ac,rfl,by omega,ah.pk,aC,(((al.trans ar).trans ax).trans aD)⟩
 have aJ:=of_decide_eq_false af
 refine wp_exit (qau (qau (qaL (qab (qar [(4,.v (.slice A (((be size x).take k).length) c))] aa ae fun aU aF=>?_)))))
 refine wp_ret (qaM aF aa.cells (v:=.slice A (((be size x).take k).length) c) kz ?_)
 exact qbk aa (k:=0) rfl (List.take_of_length_le (by simp; omega))
theorem qdY (x:Nat) (hx:x < 18446744073709551616) (w:World) :
  Calls Tryz.prog 69 #[.int .u64 ((x:Nat):Int)] w (qd3 w 5 (uv x)):=by
 refine enter (n:=20) Tryz.func69 rfl Tryz.ntmps69 kz fun a hE=>?_
 have hW:=WOk.start w Nil
 refine qar [(0,.v (.int .u64 ((x:Nat):Int)))] hW hE fun a1 hE2=>?_
 refine qar [(0,.v (.int .u64 ((x:Nat):Int))),(3,.v (.slice none 0 0))] hW hE2 fun a3 hE4=>?_
 refine wp_seq (wp_block ?_)
 have hW5:=hW.addNil 5 1
 have hF6:=hW.frNil 5 1
 refine wp_loop_ghost (fun n_ a_ w_=>∃ (A:Option Addr) (c:Nat) (pre:Bs) (m:Nat),n_ = m ∧ (pre ++ uv m = uv x) ∧ (m < 18446744073709551616) ∧ LInv hW5 20 [] [brow A c 5 pre] [(0,.v (.int .u64 ((m:Nat):Int))),(3,.v (.slice A pre.length c))] a_ w_) (x) ⟨none,0,[],x,rfl,rfl,hx,hE4.pk,hW5,Fr.refl _ _ _⟩ ?_
 rintro n7 a8 w9 ⟨A,c,pre,m,aM,hp,hm,am,aa,ao⟩
 refine wp_seq (qar [(0,.v (.int .u64 ((m:Nat):Int))),(3,.v (.slice A pre.length c)),(5,.v (.bool (decide (((m:Nat):Int) > 127))))] aa am fun aR ae=>?_)
 refine qaw ae (b:=decide (((m:Nat):Int) > 127)) kz (fun af=>?_) (fun af=>?_)
 ·
  have aN:=of_decide_eq_true af
  refine wp_skip (qab (wp_block (qae [0,1,2,3,4,5,6,7] kz ?_)))
  refine qaj [0,1,2,3,4] [5,6,7] [(0,.v (.int .u64 ((m:Nat):Int))),(6,.v (.slice A pre.length c)),(10,.v (.int .u8 (IntKind.u8.wrap (BitVec.ofInt 8 (IntKind.u8.wrap (IntKind.u64.wrap (BitVec.ofInt 64 ((m:Nat):Int) &&& BitVec.ofInt 64 127).toNat)) ||| BitVec.ofInt 8 128).toNat)))] aa ae fun aS ap=>?_
  refine qcI aa ap (k:=0) (e:=5) (size:=1) (len:=1) (cs:=[.int .u8 (IntKind.u8.wrap (BitVec.ofInt 8 (IntKind.u8.wrap (IntKind.u64.wrap (BitVec.ofInt 64 ((m:Nat):Int) &&& BitVec.ofInt 64 127).toNat)) ||| BitVec.ofInt 8 128).toNat)]) (d1:=11) (d:=12) kz (t:=22) (bytes:=1) kz (fun _=>by kernel_rfl) rfl kz (by have h1_:=qes x hx; rw [← hp,List.length_append] at h1_; omega) fun ab ac aT aU ar au ⟨_,av⟩=>?_
  have aw:(⟨ab,ac,5,1,pre.length + 1,bc pre ++ [.int .u8 (IntKind.u8.wrap (BitVec.ofInt 8 (IntKind.u8.wrap (IntKind.u64.wrap (BitVec.ofInt 64 ((m:Nat):Int) &&& BitVec.ofInt 64 127).toNat)) ||| BitVec.ofInt 8 128).toNat)]⟩:Rw) = brow ab ac 5 (pre ++ [by8 (BitVec.ofInt 8 (IntKind.u8.wrap (IntKind.u64.wrap (BitVec.ofInt 64 ((m:Nat):Int) &&& BitVec.ofInt 64 127).toNat)) ||| BitVec.ofInt 8 128).toNat]):=qb5 (by simp only [bc,List.map,qep]; try rfl) rfl
  obtain ⟨ag,ax⟩:=au.rowEq 0 [brow ab ac 5 (pre ++ [by8 (BitVec.ofInt 8 (IntKind.u8.wrap (IntKind.u64.wrap (BitVec.ofInt 64 ((m:Nat):Int) &&& BitVec.ofInt 64 127).toNat)) ||| BitVec.ofInt 8 128).toNat])] aw
  have ay:=EnvOk.pick av (ks:=[0,6,10,12]) (env':=[(0,.v (.int .u64 ((m:Nat):Int))),(6,.v (.slice A pre.length c)),(10,.v (.int .u8 (IntKind.u8.wrap (BitVec.ofInt 8 (IntKind.u8.wrap (IntKind.u64.wrap (BitVec.ofInt 64 ((m:Nat):Int) &&& BitVec.ofInt 64 127).toNat)) ||| BitVec.ofInt 8 128).toNat))),(12,.v (.slice ab (pre.length + 1) ac))]) kz
  have az:=ay.cast (env':=[(0,.v (.int .u64 ((m:Nat):Int))),(6,.v (.slice A pre.length c)),(10,.v (.int .u8 (IntKind.u8.wrap (BitVec.ofInt 8 (IntKind.u8.wrap (IntKind.u64.wrap (BitVec.ofInt 64 ((m:Nat):Int) &&& BitVec.ofInt 64 127).toNat)) ||| BitVec.ofInt 8 128).toNat))),(12,.v (.slice ab ((pre ++ [by8 (BitVec.ofInt 8 (IntKind.u8.wrap (IntKind.u64.wrap (BitVec.ofInt 64 ((m:Nat):Int) &&& BitVec.ofInt 64 127).toNat)) ||| BitVec.ofInt 8 128).toNat]).length) ac))]) (by simp only [List.length_append,List.length_cons,List.length_nil,Nat.zero_add])
  refine qaj [7] [] [(0,.v (.int .u64 ((m:Nat):Int))),(3,.v (.slice ab ((pre ++ [by8 (BitVec.ofInt 8 (IntKind.u8.wrap (IntKind.u64.wrap (BitVec.ofInt 64 ((m:Nat):Int) &&& BitVec.ofInt 64 127).toNat)) ||| BitVec.ofInt 8 128).toNat]).length) ac))] ag az fun aV aA=>?_
  refine qaf (qab ?_)
  refine qaq [0,1,2] kz ?_
  refine qaj [0,1,2] [] [(0,.v (.int .u64 (Int.fdiv ((m:Nat):Int) 128))),(3,.v (.slice ab ((pre ++ [by8 (BitVec.ofInt 8 (IntKind.u8.wrap (IntKind.u64.wrap (BitVec.ofInt 64 ((m:Nat):Int) &&& BitVec.ofInt 64 127).toNat)) ||| BitVec.ofInt 8 128).toNat]).length) ac))] ag aA fun aW ah=>?_
  refine qaf (qas (qab ?_))
  have al:(pre ++ [by8 (BitVec.ofInt 8 (IntKind.u8.wrap (IntKind.u64.wrap (BitVec.ofInt 64 ((m:Nat):Int) &&& BitVec.ofInt 64 127).toNat)) ||| BitVec.ofInt 8 128).toNat]) = (pre ++ [UInt8.ofNat (m % 128 + 128)]):=by rw [qjY m (by omega)]
  have aB:=congrArg (brow ab ac 5) al
  obtain ⟨aC,aD⟩:=ag.rowEq 0 [brow ab ac 5 (pre ++ [UInt8.ofNat (m % 128 + 128)])] aB
  rw [al] at ah
  have aE:Int.fdiv ((m:Nat):Int) 128 = ((m / 128:Nat):Int):=qkU m
  rw [aE] at ah
  exact ⟨m / 128,by omega,ab,ac,pre ++ [UInt8.ofNat (m % 128 + 128)],m / 128,rfl,by rw [← hp,qd5 (show 128 ≤ m by omega)]; simp,by omega,ah.pk,aC,(((ao.trans ar).trans ax).trans aD)⟩
 have aO:=of_decide_eq_false af
 refine wp_exit (qau (qau (qaL (qab (qae [0,1,2,3,4,5] kz ?_)))))
 refine qaj [0,1,2] [3,4,5] [(15,.v (.slice A pre.length c)),(17,.v (.int .u8 (IntKind.u8.wrap ((m:Nat):Int))))] aa ae fun aX aF=>?_
 refine qcI aa aF (k:=0) (e:=5) (size:=1) (len:=1) (cs:=[.int .u8 (IntKind.u8.wrap ((m:Nat):Int))]) (d1:=18) (d:=19) kz (t:=22) (bytes:=1) kz (fun _=>by kernel_rfl) rfl kz (by have h1_:=qes x hx; rw [← hp,List.length_append] at h1_; omega) fun ai aj aY aZ aP aG ⟨_,aH⟩=>?_
 have aI:(⟨ai,aj,5,1,pre.length + 1,bc pre ++ [.int .u8 (IntKind.u8.wrap ((m:Nat):Int))]⟩:Rw) = brow ai aj 5 (pre ++ [by8 ((m:Nat):Int)]):=qb5 (by simp only [bc,List.map,qep]; try rfl) rfl
 obtain ⟨ak,aQ⟩:=aG.rowEq 0 [brow ai aj 5 (pre ++ [by8 ((m:Nat):Int)])] aI
 have aJ:=EnvOk.pick aH (ks:=[15,17,19]) (env':=[(15,.v (.slice A pre.length c)),(17,.v (.int .u8 (IntKind.u8.wrap ((m:Nat):Int)))),(19,.v (.slice ai (pre.length + 1) aj))]) kz
 have aK:=aJ.cast (env':=[(15,.v (.slice A pre.length c)),(17,.v (.int .u8 (IntKind.u8.wrap ((m:Nat):Int)))),(19,.v (.slice ai ((pre ++ [by8 ((m:Nat):Int)]).length) aj))]) (by simp only [List.length_append,List.length_cons,List.length_nil,Nat.zero_add])
 refine qaj [5] [] [(2,.v (.slice ai ((pre ++ [by8 ((m:Nat):Int)]).length) aj))] ak aK fun ba aL=>?_
 refine qaf (qab ?_)
 refine wp_ret (qaM aL ak.cells (v:=.slice ai ((pre ++ [by8 ((m:Nat):Int)]).length) aj) kz ?_)
 exact qbk ak (k:=0) rfl (by rw [← hp,qcL (show m < 128 by omega),qiQ])
theorem qdZ (flex null:Bool) (m sz:Nat) (hm:m ≤ 1099511627776) (hsz:sz ≤ 8) (w:World) :
  Calls Tryz.prog 106 #[.bool flex,.bool null,.int .i64 ((m:Nat):Int),.int .i64 ((sz:Nat):Int)] w (qd3 w 5 (qav flex null m sz)):=by
 refine enter (n:=28) Tryz.func106 rfl Tryz.ntmps106 kz fun a hE=>?_
 have hW:=WOk.start w Nil
 refine qar [(0,.v (.bool flex)),(1,.v (.bool null)),(2,.v (.int .i64 ((m:Nat):Int))),(3,.v (.int .i64 ((sz:Nat):Int)))] hW hE fun a1 hE2=>?_
 refine wp_seq (wp_block (qae [0,1,2,3,4] kz ?_))
 refine qaj [0,1] [2,3,4] [(0,.v (.bool flex)),(1,.v (.bool null)),(2,.v (.int .i64 ((m:Nat):Int))),(3,.v (.int .i64 ((sz:Nat):Int))),(11,.v (.bool flex))] hW hE2 fun a3 hE4=>?_
 refine (Bool.eq_false_or_eq_true (flex)).elim (fun hc5=>?_) (fun hc5=>?_)
 ·
  have hE7:=hE4.cast (env':=[(0,.v (.bool true)),(1,.v (.bool null)),(2,.v (.int .i64 ((m:Nat):Int))),(3,.v (.int .i64 ((sz:Nat):Int))),(11,.v (.bool true))]) (by rw [hc5])
  refine qaj [2,3,4] [] [(0,.v (.bool true)),(1,.v (.bool null)),(2,.v (.int .i64 ((m:Nat):Int))),(3,.v (.int .i64 ((sz:Nat):Int))),(9,.v (.bool null))] hW hE7 fun a8 hE9=>?_
  refine qaf (qab ?_)
  refine qaw hE9 (b:=null) kz (fun aa=>?_) (fun aa=>?_)
  ·
   refine qae [0,1] kz ?_
   refine qal (qbq hW hE9 (e:=5) (size:=1) (len:=1) (cs:=[.int .u8 0]) (d:=14) kz kz fun ab bf bg aV aW aX am ao=>?_)
   have ap:(⟨some ⟨ab,0,none⟩,1,5,1,1,[.int .u8 0]⟩:Rw) = brow (some ⟨ab,0,none⟩) 1 5 [by8 0]:=by first | rfl | (simp only [brow,bc,List.map,qep]; try rfl)
   obtain ⟨ac,aY⟩:=am.rowEq 0 [brow (some ⟨ab,0,none⟩) 1 5 [by8 0]] ap
   have ar:=EnvOk.pick ao (ks:=[0,1,2,3,9,14]) (env':=[(0,.v (.bool true)),(1,.v (.bool null)),(2,.v (.int .i64 ((m:Nat):Int))),(3,.v (.int .i64 ((sz:Nat):Int))),(9,.v (.bool null)),(14,.v (.slice (some ⟨ab,0,none⟩) 1 1))]) kz
   have au:=ar.cast (env':=[(0,.v (.bool true)),(1,.v (.bool null)),(2,.v (.int .i64 ((m:Nat):Int))),(3,.v (.int .i64 ((sz:Nat):Int))),(9,.v (.bool null)),(14,.v (.slice (some ⟨ab,0,none⟩) ([by8 0].length) 1))]) rfl
   refine qaj [1] [] [(8,.v (.slice (some ⟨ab,0,none⟩) ([by8 0].length) 1))] ac au fun bh av=>?_
   refine qaf (qab ?_)
   refine wp_ret (qay (qat (qaM av ac.cells (v:=.slice (some ⟨ab,0,none⟩) ([by8 0].length) 1) kz ?_)))
   exact qbk ac (k:=0) rfl (by simp [qav,hc5,aa]; try rfl)
  refine qar [(1,.v (.bool null)),(2,.v (.int .i64 ((m:Nat):Int))),(3,.v (.int .i64 ((sz:Nat):Int))),(15,.v (.bool true))] hW hE9 fun bi aj=>?_
  refine qa4 aj (b:=true) kz rfl ?_
  refine qae [0,1,2,3,4] kz ?_
  refine qaj [0,1,2] [3,4] [(19,.v (.int .u64 (IntKind.u64.wrap ((IntKind.u64.wrap ((m:Nat):Int)) + 1))))] hW aj fun bj aw=>?_
  have ax:IntKind.u64.wrap ((IntKind.u64.wrap ((m:Nat):Int)) + 1) = ((m + 1:Nat):Int):=by simp only [qcR,qaz,qbH,IntKind.wrap_i64,IntKind.wrap_i32]; omega
  have ay:=EnvOk.pick aw (ks:=[19]) (env':=[(19,.v (.int .u64 (IntKind.u64.wrap ((IntKind.u64.wrap ((m:Nat):Int)) + 1))))]) kz
  have az:=ay
  rw [ax] at az
  refine qal (qak az (f:=69) (vs:=[.int .u64 ((m + 1:Nat):Int)]) (d:=20) kz Tryz.call69 (qdY (m + 1) (by omega) _) ?_)
  rintro e_ bk ⟨aA,aB,rfl,aC,aD⟩
  refine ⟨_,rfl,fun bn aE=>?_⟩
  obtain ⟨ae,aZ⟩:=hW.frFresh aD (brow aA aB 5 (uv (m + 1))) (Nat.le_refl _) aC
  refine qaj [4] [] [(8,.v (.slice aA ((uv (m + 1)).length) aB))] ae aE fun bo aF=>?_
  refine qaf (qab ?_)
  refine wp_ret (qay (qat (qaM aF ae.cells (v:=.slice aA ((uv (m + 1)).length) aB) kz ?_)))
  exact qbk ae (k:=0) rfl (by simp [qav,hc5,aa]; try rfl)
 have aG:=hE4.cast (env':=[(0,.v (.bool false)),(1,.v (.bool null)),(2,.v (.int .i64 ((m:Nat):Int))),(3,.v (.int .i64 ((sz:Nat):Int))),(11,.v (.bool false))]) (by rw [hc5])
 refine qaj [2,3,4] [] [(0,.v (.bool false)),(1,.v (.bool null)),(2,.v (.int .i64 ((m:Nat):Int))),(3,.v (.int .i64 ((sz:Nat):Int))),(9,.v (.bool false))] hW aG fun bp ak=>?_
 refine qaf (qab ?_)
 refine qam ak (b:=false) kz rfl ?_
 refine qar [(1,.v (.bool null)),(2,.v (.int .i64 ((m:Nat):Int))),(3,.v (.int .i64 ((sz:Nat):Int))),(15,.v (.bool false))] hW ak fun bq al=>?_
 refine qam al (b:=false) kz rfl ?_
 refine qar [(2,.v (.int .i64 ((m:Nat):Int))),(3,.v (.int .i64 ((sz:Nat):Int))),(21,.v (.bool null))] hW al fun bt af=>?_
 refine qaw af (b:=null) kz (fun ag=>?_) (fun ag=>?_)
 ·
  refine qae [0,1,2] kz ?_
  refine qaj [0] [1,2] [(23,.v (.int .i64 ((sz:Nat):Int)))] hW af fun bu aH=>?_
  refine qal (qak aH (f:=70) (vs:=[.int .i64 (-1),.int .i64 ((sz:Nat):Int)]) (d:=24) kz Tryz.call70 (qfD (-1) sz (by first | decide | exact qbE _ | omega) _) ?_)
  rintro e_ bw ⟨aI,aJ,rfl,aK,aL⟩
  refine ⟨_,rfl,fun bx aM=>?_⟩
  obtain ⟨ah,ba⟩:=hW.frFresh aL (brow aI aJ 5 (be sz (-1))) (Nat.le_refl _) aK
  refine qaj [2] [] [(8,.v (.slice aI ((be sz (-1)).length) aJ))] ah aM fun bz aN=>?_
  refine qaf (qab ?_)
  refine wp_ret (qay (qat (qaM aN ah.cells (v:=.slice aI ((be sz (-1)).length) aJ) kz ?_)))
  exact qbk ah (k:=0) rfl (by simp [qav,hc5,ag]; try rfl)
 refine wp_skip (qas (qab (qae [0,1,2,3] kz ?_)))
 refine qaj [0,1] [2,3] [(25,.v (.int .i64 ((m:Nat):Int))),(26,.v (.int .i64 ((sz:Nat):Int)))] hW af fun bA aO=>?_
 refine qal (qak aO (f:=70) (vs:=[.int .i64 ((m:Nat):Int),.int .i64 ((sz:Nat):Int)]) (d:=27) kz Tryz.call70 (qfD ((m:Nat):Int) sz (by first | decide | exact qbE _ | omega) _) ?_)
 rintro e_ bB ⟨aP,aQ,rfl,aR,aS⟩
 refine ⟨_,rfl,fun bC aT=>?_⟩
 obtain ⟨ai,bd⟩:=hW.frFresh aS (brow aP aQ 5 (be sz ((m:Nat):Int))) (Nat.le_refl _) aR
 refine qaj [3] [] [(8,.v (.slice aP ((be sz ((m:Nat):Int)).length) aQ))] ai aT fun bD aU=>?_
 refine qaf (qab ?_)
 refine wp_ret (qaM aU ai.cells (v:=.slice aP ((be sz ((m:Nat):Int)).length) aQ) kz ?_)
 exact qbk ai (k:=0) rfl (by simp [qav,hc5,ag]; try rfl)
abbrev z16 :=([.int .i64 0,.int .i64 0,.int .i64 0,.int .i64 0,.int .i64 0,.int .i64 0,.int .i64 0,.slice none 0 0]:List Value)
theorem qkz (A:Option Addr) (c:Nat) (l:List Fld) (w:World) (F:Nat → Nat → Prop) (hl:FldsR w F A c l) :
  Calls Tryz.prog 68 #[.slice A l.length c] w (qcu w (.int .u32 (qaB l))):=by
 obtain ⟨xfs,h1,h2⟩:=hl.ex
 have hsm:=h1.small
 refine enter (n:=23) Tryz.func68 rfl Tryz.ntmps68 kz fun a hE=>?_
 have hW:=WOk.start w Nil
 refine qar [(0,.v (.slice A l.length c))] hW hE fun a1 hE2=>?_
 refine qar [(0,.v (.slice A l.length c)),(3,.v (.int .u32 0))] hW hE2 fun a3 hE4=>?_
 refine wp_seq (qar [(3,.v (.int .u32 0)),(6,.v (.slice A l.length c)),(7,.v (.int .i64 ((l.length:Nat):Int))),(8,.v (.int .i64 0))] hW hE4 fun a5 hE6=>?_)
 refine wp_block (wp_loop_ghost (fun n_ a_ w_=>∃ (k:Nat),n_ = l.length - k ∧ k ≤ l.length ∧ LInv hW 23 [] [] [(3,.v (.int .u32 (qaB (l.take k)))),(6,.v (.slice A l.length c)),(7,.v (.int .i64 ((l.length:Nat):Int))),(8,.v (.int .i64 ((k:Nat):Int)))] a_ w_) (l.length) ⟨0,by omega,by omega,hE6.pk,hW,Fr.refl _ _ _⟩ ?_)
 rintro n7 a8 w9 ⟨k,ba,bd,av,aa,ao⟩
 refine qar [(3,.v (.int .u32 (qaB (l.take k)))),(6,.v (.slice A l.length c)),(7,.v (.int .i64 ((l.length:Nat):Int))),(8,.v (.int .i64 ((k:Nat):Int))),(9,.v (.bool (decide (((k:Nat):Int) < ((l.length:Nat):Int)))))] aa av fun bt ag=>?_
 refine wp_seq (qaw ag (b:=decide (((k:Nat):Int) < ((l.length:Nat):Int))) kz (fun ah=>?_) (fun ah=>?_))
 ·
  have bf:=of_decide_eq_true ah
  refine wp_skip (qab (wp_seq (wp_block (qae [0,1,2,3] kz ?_))))
  obtain ⟨bg,bh,aw,bi,ae⟩:=Slots.get h1 (i:=k) (by omega)
  obtain ⟨bj,ai⟩:∃ x,l[k]? = some x:=⟨_,List.getElem?_eq_getElem (by omega)⟩
  have ap:=h2 k bj ai
  obtain ⟨ax,ay,az,aA,ab,aB,aC,aD,aE,aF,bk,rfl,af,bn,bu⟩:=ap.open_
  rw [af] at ap
  have aZ:=bn.small
  rw [af] at ae
  refine qal (qax ag (t:=29) (A:=A) (m:=l.length) (q:=((k:Nat):Int)) (d:=10) kz (e:=51) (size:=8) (bytes:=80) kz aw rfl (by omega) fun bw aG=>?_)
  refine qal (qaU aG (t:=51) (b:=bg) (o:=bh + k * 8) (d:=11) kz (cs:=(z4 ax ay az aA ab aB aC aE aD.length aF)) (v:=.agg #[.int .i64 ax,.int .i64 ay,.int .i64 az,.int .i64 aA,.int .i64 ab,.int .i64 aB,.int .i64 aC,.slice aE aD.length aF]) kz (AtF.move ae aa.step nilM qbb).at_ fun bx aH=>?_)
  refine qal (qaS aa aH (d:=5) (cs:=z16) kz fun bz bA bB bo bp ar aI aJ=>?_)
  refine qal (qap aI aJ (oi:=0) (cs:=(z4 ax ay az aA ab aB aC aE aD.length aF)) kz fun bC au ac aK=>?_)
  refine qaf (qab ?_)
  refine qar [(3,.v (.int .u32 (qaB (l.take k)))),(5,.p 0 0),(6,.v (.slice A l.length c)),(7,.v (.int .i64 ((l.length:Nat):Int))),(8,.v (.int .i64 ((k:Nat):Int))),(14,.v (.bool (decide (ab ≥ 0))))] ac aK fun bD aj=>?_
  refine qaw aj (b:=decide (ab ≥ 0)) kz (fun ak=>?_) (fun ak=>?_)
  ·
   have aL:=of_decide_eq_true ak
   refine qaq [0,1,2,3,4,5,6] kz ?_
   refine qaj [0,1,2,3,4,5,6] [] [(3,.v (.int .u32 (if IntKind.u32.wrap ((IntKind.u32.wrap ab) + 1) > qaB (l.take k) then IntKind.u32.wrap ((IntKind.u32.wrap ab) + 1) else qaB (l.take k)))),(6,.v (.slice A l.length c)),(7,.v (.int .i64 ((l.length:Nat):Int))),(8,.v (.int .i64 ((k:Nat):Int)))] ac aj fun bE aM=>?_
   refine qaf (qas (qab (qaq [0,1] kz ?_)))
   refine qaj [0,1] [] [(3,.v (.int .u32 (if IntKind.u32.wrap ((IntKind.u32.wrap ab) + 1) > qaB (l.take k) then IntKind.u32.wrap ((IntKind.u32.wrap ab) + 1) else qaB (l.take k)))),(6,.v (.slice A l.length c)),(7,.v (.int .i64 ((l.length:Nat):Int))),(8,.v (.int .i64 (IntKind.i64.wrap (((k:Nat):Int) + 1))))] ac aM fun bF aN=>?_
   refine qaf (qab ?_)
   obtain ⟨al,aO,aP⟩:=ac.cutB aN 0 [] [(3,.v (.int .u32 (if IntKind.u32.wrap ((IntKind.u32.wrap ab) + 1) > qaB (l.take k) then IntKind.u32.wrap ((IntKind.u32.wrap ab) + 1) else qaB (l.take k)))),(6,.v (.slice A l.length c)),(7,.v (.int .i64 ((l.length:Nat):Int))),(8,.v (.int .i64 (IntKind.i64.wrap (((k:Nat):Int) + 1))))]
   have aQ:IntKind.i64.wrap (((k:Nat):Int) + 1) = ((k + 1:Nat):Int):=qaP (by omega)
   rw [aQ] at al
   have aR:(if IntKind.u32.wrap ((IntKind.u32.wrap ab) + 1) > qaB (l.take k) then IntKind.u32.wrap ((IntKind.u32.wrap ab) + 1) else qaB (l.take k)) = qaB (l.take (k + 1)):=qiS ai aL
   rw [aR] at al
   exact ⟨l.length - (k + 1),by omega,k + 1,rfl,by omega,al.pk,aO,(((ao.trans ar).trans au).trans aP)⟩
  have aS:=of_decide_eq_false ak
  refine wp_skip (qas (qab (qaq [0,1] kz ?_)))
  refine qaj [0,1] [] [(3,.v (.int .u32 (qaB (l.take k)))),(6,.v (.slice A l.length c)),(7,.v (.int .i64 ((l.length:Nat):Int))),(8,.v (.int .i64 (IntKind.i64.wrap (((k:Nat):Int) + 1))))] ac aj fun bG aT=>?_
  refine qaf (qab ?_)
  obtain ⟨am,aU,aV⟩:=ac.cutB aT 0 [] [(3,.v (.int .u32 (qaB (l.take k)))),(6,.v (.slice A l.length c)),(7,.v (.int .i64 ((l.length:Nat):Int))),(8,.v (.int .i64 (IntKind.i64.wrap (((k:Nat):Int) + 1))))]
  have aW:IntKind.i64.wrap (((k:Nat):Int) + 1) = ((k + 1:Nat):Int):=qaP (by omega)
  rw [aW] at am
  have aX:qaB (l.take k) = qaB (l.take (k + 1)):=qiT ai aS
  rw [aX] at am
  exact ⟨l.length - (k + 1),by omega,k + 1,rfl,by omega,am.pk,aU,(((ao.trans ar).trans au).trans aV)⟩
 have bq:=of_decide_eq_false ah
 refine wp_exit (qau (qau (qaL (qab (qar [(2,.v (.int .u32 (qaB (l.take k))))] aa ag fun bH aY=>?_)))))
 refine wp_ret (qaM aY aa.cells (v:=.int .u32 (qaB (l.take k))) kz ?_)
 exact ⟨by rw [List.take_of_length_le (by omega)],aa.step⟩
def qjq (d:Nat):Prop:=∀ (A:Option Addr) (c:Nat) (l:List Fld) (v:Int) (flex:Bool) (ct:List Value) (t:Tree) (w:World) (F:Nat → Nat → Prop),FldsR w F A c l → depths l ≤ d → TreeR w F ct t → (qa7 d l v flex t).length ≤ 1099511627776 →
  Calls Tryz.prog 32 #[.slice A l.length c,.int .i64 v,.bool flex,.agg ct.toArray] w (qd3 w 5 (qa7 d l v flex t))
theorem qjr {d:Nat} (hp:qjq d) (kind:Int) (A:Option Addr) (c:Nat) (l:List Fld) (null:Bool) (v:Int) (flex:Bool) (ct:List Value) (t:Tree) (w:World) (F:Nat → Nat → Prop) (hl:FldsR w F A c l) (hd:depths l ≤ d) (ht:TreeR w F ct t) (hroom:(qa1 (qa7 d l v flex) kind null flex t).length ≤ 1099511627776) :
  Calls Tryz.prog 107 #[.int .i64 kind,.slice A l.length c,.bool null,.int .i64 v,.bool flex,.agg ct.toArray] w (qd3 w 5 (qa1 (qa7 d l v flex) kind null flex t)):=by
 obtain ⟨n1,s2,b3,l4,u5,A6,c7,A8,c9,dh,di,d9,rfl,rfl,aX,ea,fA,fB⟩:=ht.open_
 have dM:=aX.small
 have dN:=ea.small
 have hl0:=hl
 obtain ⟨xfs,h1,h2⟩:=hl.ex
 have hsm:=h1.small
 refine enter (n:=70) Tryz.func107 rfl Tryz.ntmps107 kz fun a hE=>?_
 have hW:=WOk.start w Nil
 refine qae [0,1] kz ?_
 refine qal (qbm hW hE (d:=11) (cs:=(z2 n1 A6 s2.length c7 b3 A8 l4.length c9 dh u5.length di)) kz fun fC fD fE eb ec ee aa dj=>?_)
 refine qaj [1] [] [(0,.v (.int .i64 kind)),(1,.v (.slice A l.length c)),(2,.v (.bool null)),(3,.v (.int .i64 v)),(4,.v (.bool flex)),(11,.p 0 0)] aa dj fun fF dl=>?_
 refine qaf (qab ?_)
 refine wp_seq (qar [(0,.v (.int .i64 kind)),(1,.v (.slice A l.length c)),(2,.v (.bool null)),(3,.v (.int .i64 v)),(4,.v (.bool flex)),(11,.p 0 0),(16,.v (.int .i64 kind))] aa dl fun fG dp=>?_)
 refine wp_block (qar [(0,.v (.int .i64 kind)),(1,.v (.slice A l.length c)),(2,.v (.bool null)),(3,.v (.int .i64 v)),(4,.v (.bool flex)),(11,.p 0 0),(16,.v (.int .i64 kind)),(17,.v (.bool (kind == 0)))] aa dp fun fH bk=>?_)
 refine qaw bk (b:=kind == 0) kz (fun ac=>?_) (fun ac=>?_)
 ·
  have dq:kind = 0:=by simpa using ac
  refine qae [0,1,2,3,4,5] kz ?_
  refine qaj [0,1,2,3] [4,5] [(22,.v (.int .u8 (IntKind.u8.wrap (IntKind.i64.wrap (BitVec.ofInt 64 n1 &&& BitVec.ofInt 64 1).toNat))))] aa bk fun fI dr=>?_
  refine qal (qbq aa dr (e:=5) (size:=1) (len:=1) (cs:=[.int .u8 (IntKind.u8.wrap (IntKind.i64.wrap (BitVec.ofInt 64 n1 &&& BitVec.ofInt 64 1).toNat))]) (d:=23) kz kz fun bn fJ fK ef eg eh dt du=>?_)
  have dv:(⟨some ⟨bn,0,none⟩,1,5,1,1,[.int .u8 (IntKind.u8.wrap (IntKind.i64.wrap (BitVec.ofInt 64 n1 &&& BitVec.ofInt 64 1).toNat))]⟩:Rw) = brow (some ⟨bn,0,none⟩) 1 5 [by8 (IntKind.i64.wrap (BitVec.ofInt 64 n1 &&& BitVec.ofInt 64 1).toNat)]:=by first | rfl | (simp only [brow,bc,List.map,qep]; try rfl)
  obtain ⟨bo,ei⟩:=dt.rowEq 0 [brow (some ⟨bn,0,none⟩) 1 5 [by8 (IntKind.i64.wrap (BitVec.ofInt 64 n1 &&& BitVec.ofInt 64 1).toNat)]] dv
  have dw:=EnvOk.pick du (ks:=[22,23]) (env':=[(22,.v (.int .u8 (IntKind.u8.wrap (IntKind.i64.wrap (BitVec.ofInt 64 n1 &&& BitVec.ofInt 64 1).toNat)))),(23,.v (.slice (some ⟨bn,0,none⟩) 1 1))]) kz
  have dx:=dw.cast (env':=[(22,.v (.int .u8 (IntKind.u8.wrap (IntKind.i64.wrap (BitVec.ofInt 64 n1 &&& BitVec.ofInt 64 1).toNat)))),(23,.v (.slice (some ⟨bn,0,none⟩) ([by8 (IntKind.i64.wrap (BitVec.ofInt 64 n1 &&& BitVec.ofInt 64 1).toNat)].length) 1))]) rfl
  refine qaj [5] [] [(12,.v (.slice (some ⟨bn,0,none⟩) ([by8 (IntKind.i64.wrap (BitVec.ofInt 64 n1 &&& BitVec.ofInt 64 1).toNat)].length) 1))] bo dx fun fL dy=>?_
  refine qaf (qab ?_)
  refine wp_ret (qay (qat (qaM dy bo.cells (v:=.slice (some ⟨bn,0,none⟩) ([by8 (IntKind.i64.wrap (BitVec.ofInt 64 n1 &&& BitVec.ofInt 64 1).toNat)].length) 1) kz ?_)))
  exact qbk bo (k:=0) rfl (by (try simp only [and1]); simp [qa1,Tree.S,Tree.N,dq,ac])
 have ak:kind ≠ 0:=by simpa using ac
 refine qar [(0,.v (.int .i64 kind)),(1,.v (.slice A l.length c)),(2,.v (.bool null)),(3,.v (.int .i64 v)),(4,.v (.bool flex)),(11,.p 0 0),(16,.v (.int .i64 kind)),(24,.v (.bool (kind == 7)))] aa bk fun fM bp=>?_
 refine qaw bp (b:=kind == 7) kz (fun ae=>?_) (fun ae=>?_)
 ·
  have dz:kind = 7:=by simpa using ae
  refine qae [0,1] kz ?_
  refine qal (qcJ aa bp (d:=26) (j:=16) (t:=22) (e:=5) (bytes:=1) (z:=.int .u8 0) kz kz kz kz (rfl) (rfl) (by omega) fun aB fN fO ej ek em aC dA=>?_)
  refine qaj [1] [] [(11,.p 0 0),(13,.v (.slice (some ⟨aB,0,none⟩) 16 16))] aC dA fun fP dB=>?_
  refine qaf (qab ?_)
  refine qae [0,1,2,3] kz ?_
  refine qaj [0,1,2] [3] [(13,.v (.slice (some ⟨aB,0,none⟩) 16 16)),(27,.v (.slice (some ⟨aB,0,none⟩) 16 16)),(29,.v (.slice A6 s2.length c7))] aC dB fun fQ dC=>?_
  refine qal (qcT aC dC (k:=0) (d:=30) (t:=22) (u:=22) (e:=5) (bytes:=1) (A:=(some ⟨aB,0,none⟩)) (As:=A6) (m:=s2.length) (cs:=c7) (m0:=16) (c:=16) (xs:=(List.replicate 16 (.int .u8 0))) (news:=bc s2) kz kz rfl (aX.move aC.step nilM aC.imm).src fun fR fS eo dD dE=>?_)
  have dF:(⟨(some ⟨aB,0,none⟩),16,5,1,16,qbn (List.replicate 16 (.int .u8 0)) 0 ((bc s2).take (min s2.length 16))⟩:Rw) = brow (some ⟨aB,0,none⟩) 16 5 (qbs s2):=qdM _ _ _
  obtain ⟨bq,ep⟩:=dD.rowEq 0 [brow (some ⟨aB,0,none⟩) 16 5 (qbs s2)] dF
  have dG:=EnvOk.pick dE (ks:=[13,27,29,30]) (env':=[(13,.v (.slice (some ⟨aB,0,none⟩) 16 16)),(27,.v (.slice (some ⟨aB,0,none⟩) 16 16)),(29,.v (.slice A6 s2.length c7)),(30,.v (.int .i64 ((min s2.length 16:Nat):Int)))]) kz
  have dH:=dG.cast (env':=[(13,.v (.slice (some ⟨aB,0,none⟩) ((qbs s2).length) 16)),(27,.v (.slice (some ⟨aB,0,none⟩) ((qbs s2).length) 16)),(29,.v (.slice A6 s2.length c7)),(30,.v (.int .i64 ((min s2.length 16:Nat):Int)))]) (by rw [qbi _])
  refine qaf (qab ?_)
  refine qar [(12,.v (.slice (some ⟨aB,0,none⟩) ((qbs s2).length) 16))] bq dH fun fT dI=>?_
  refine wp_ret (qay (qat (qaM dI bq.cells (v:=.slice (some ⟨aB,0,none⟩) ((qbs s2).length) 16) kz ?_)))
  exact qbk bq (k:=0) rfl (by (try simp only [and1]); simp [qa1,Tree.S,Tree.N,ak,dz,ac,ae])
 have am:kind ≠ 7:=by simpa using ae
 refine qar [(0,.v (.int .i64 kind)),(1,.v (.slice A l.length c)),(2,.v (.bool null)),(3,.v (.int .i64 v)),(4,.v (.bool flex)),(11,.p 0 0),(16,.v (.int .i64 kind)),(32,.v (.bool (kind == 8)))] aa bp fun fU bt=>?_
 refine qaw bt (b:=kind == 8) kz (fun ag=>?_) (fun ag=>?_)
 ·
  have bA:kind = 8:=by simpa using ag
  refine qae [0,1,2,3] kz ?_
  refine qaj [0,1] [2,3] [(2,.v (.bool null)),(4,.v (.bool flex)),(35,.v (.slice A6 s2.length c7))] aa bt fun fV dJ=>?_
  have dO:=qbh s2
  refine qal (qak dJ (f:=40) (vs:=[.slice A6 s2.length c7]) (d:=36) kz Tryz.call40 (qdD _ _ s2 (aX.move aa.step nilM aa.imm).le _) ?_)
  rintro e_ fW ⟨rfl,bB⟩
  refine ⟨_,rfl,fun fX dK=>?_⟩
  have ao:=aa.next_nil bB
  have eu:=aa.frN bB
  refine qaj [3] [] [(2,.v (.bool null)),(4,.v (.bool flex)),(14,.v (.slice A6 ((qaI s2).length) c7))] ao dK fun fY bC=>?_
  refine qaf (qab ?_)
  refine wp_seq (qar [(2,.v (.bool null)),(4,.v (.bool flex)),(14,.v (.slice A6 ((qaI s2).length) c7)),(37,.v (.bool null))] ao bC fun ev aD=>?_)
  refine qaw aD (b:=null) kz (fun aE=>?_) (fun aE=>?_)
  ·
   refine qaq [0] kz ?_
   refine qaj [0] [] [(2,.v (.bool null)),(4,.v (.bool flex)),(14,.v (.slice none 0 0))] ao aD fun ew bD=>?_
   refine qaf (qab ?_)
   refine qae [0,1,2,3,4,5,6,7] kz ?_
   refine qaj [0,1,2,3] [4,5,6,7] [(14,.v (.slice none 0 0)),(38,.v (.bool flex)),(39,.v (.bool null)),(41,.v (.int .i64 0))] ao bD fun ey bE=>?_
   refine qal (qak bE (f:=106) (vs:=[.bool flex,.bool null,.int .i64 0,.int .i64 2]) (d:=42) kz Tryz.call106 (qdZ flex null 0 2 (by first | omega | exact Nat.le_trans (qbh _) (by decide) | exact Nat.le_trans (qcZ _) (by decide) | (simp; done) | (have:=hroom; omega)) (by first | decide | omega) _) ?_)
   rintro e_ ez ⟨aF,aG,rfl,bF,bG⟩
   refine ⟨_,rfl,fun eB bH=>?_⟩
   obtain ⟨aY,dP⟩:=ao.frFresh bG (brow aF aG 5 (qav flex null 0 2)) (Nat.le_refl _) bF
   refine qaj [5] [6,7] [(42,.v (.slice aF ((qav flex null 0 2).length) aG)),(43,.v (.slice none 0 0))] aY bH fun eC bI=>?_
   refine qal (qaT aY bI (k:=0) (d:=44) (t:=22) (e:=5) (size:=1) (bytes:=1) (A:=aF) (As:=none) (m0:=((qav flex null 0 2).length)) (c:=aG) (m:=0) (cs:=0) (xs:=(bc (qav flex null 0 2))) (news:=bc ([]:Bs)) kz kz rfl (Octs.nil _ (fun _ _=>True)).src (fun _=>rfl) (by first | exact qdB (by omega) (by decide) (by omega) | exact qdB (Nat.le_trans (qbh _) (by decide)) (by decide) (Nat.le_trans (qbh _) (by decide)) | (simp; done)) fun ap ar eD eE dQ bJ bK=>?_)
   have bL:(⟨ap,ar,5,1,(qav flex null 0 2).length + 0,bc (qav flex null 0 2) ++ bc ([]:Bs)⟩:Rw) = brow ap ar 5 (qav flex null 0 2 ++ ([]:Bs)):=qb5 (rfl) rfl
   obtain ⟨aH,dR⟩:=bJ.rowEq 0 [brow ap ar 5 (qav flex null 0 2 ++ ([]:Bs))] bL
   have bM:=EnvOk.pick bK (ks:=[42,43,44]) (env':=[(42,.v (.slice aF ((qav flex null 0 2).length) aG)),(43,.v (.slice none 0 0)),(44,.v (.slice ap ((qav flex null 0 2).length + 0) ar))]) kz
   have bN:=bM.cast (env':=[(42,.v (.slice aF ((qav flex null 0 2).length) aG)),(43,.v (.slice none 0 0)),(44,.v (.slice ap ((qav flex null 0 2 ++ ([]:Bs)).length) ar))]) (by simp only [List.length_append,List.length_cons,List.length_nil,Nat.zero_add])
   refine qaj [7] [] [(12,.v (.slice ap ((qav flex null 0 2 ++ ([]:Bs)).length) ar))] aH bN fun eF bO=>?_
   refine qaf (qab ?_)
   refine wp_ret (qay (qat (qaM bO aH.cells (v:=.slice ap ((qav flex null 0 2 ++ ([]:Bs)).length) ar) kz ?_)))
   exact qbk aH (k:=0) rfl (by (try simp only [and1]); simp [qa1,Tree.S,Tree.N,ak,am,bA,ac,ae,ag,aE])
  refine wp_skip (qab (qae [0,1,2,3,4,5,6,7] kz ?_))
  refine qaj [0,1,2,3] [4,5,6,7] [(14,.v (.slice A6 ((qaI s2).length) c7)),(38,.v (.bool flex)),(39,.v (.bool null)),(41,.v (.int .i64 (((qaI s2).length:Nat):Int)))] ao aD fun eG bP=>?_
  refine qal (qak bP (f:=106) (vs:=[.bool flex,.bool null,.int .i64 (((qaI s2).length:Nat):Int),.int .i64 2]) (d:=42) kz Tryz.call106 (qdZ flex null ((qaI s2).length) 2 (by first | omega | exact Nat.le_trans (qbh _) (by decide) | exact Nat.le_trans (qcZ _) (by decide) | (simp; done) | (have:=hroom; omega)) (by first | decide | omega) _) ?_)
  rintro e_ eH ⟨aI,aJ,rfl,bQ,bR⟩
  refine ⟨_,rfl,fun eI bS=>?_⟩
  obtain ⟨ah,dS⟩:=ao.frFresh bR (brow aI aJ 5 (qav flex null ((qaI s2).length) 2)) (Nat.le_refl _) bQ
  refine qaj [5] [6,7] [(42,.v (.slice aI ((qav flex null ((qaI s2).length) 2).length) aJ)),(43,.v (.slice A6 ((qaI s2).length) c7))] ah bS fun eJ bT=>?_
  refine qal (qaT ah bT (k:=0) (d:=44) (t:=22) (e:=5) (size:=1) (bytes:=1) (A:=aI) (As:=A6) (m0:=((qav flex null ((qaI s2).length) 2).length)) (c:=aJ) (m:=((qaI s2).length)) (cs:=c7) (xs:=(bc (qav flex null ((qaI s2).length) 2))) (news:=bc (qaI s2)) kz kz rfl ((aX.take 32767).move ah.step nilM ah.imm).src ((aX.take 32767).move ah.step nilM ah.imm).cap (by first | exact qdB (by omega) (by decide) (by omega) | exact qdB (Nat.le_trans (qbh _) (by decide)) (by decide) (Nat.le_trans (qbh _) (by decide)) | (simp; done)) fun au av eK eL dT bU bV=>?_)
  have bW:(⟨au,av,5,1,(qav flex null ((qaI s2).length) 2).length + (qaI s2).length,bc (qav flex null ((qaI s2).length) 2) ++ bc (qaI s2)⟩:Rw) = brow au av 5 (qav flex null ((qaI s2).length) 2 ++ (qaI s2)):=qb5 (rfl) rfl
  obtain ⟨aK,dU⟩:=bU.rowEq 0 [brow au av 5 (qav flex null ((qaI s2).length) 2 ++ (qaI s2))] bW
  have bX:=EnvOk.pick bV (ks:=[42,43,44]) (env':=[(42,.v (.slice aI ((qav flex null ((qaI s2).length) 2).length) aJ)),(43,.v (.slice A6 ((qaI s2).length) c7)),(44,.v (.slice au ((qav flex null ((qaI s2).length) 2).length + (qaI s2).length) av))]) kz
  have bY:=bX.cast (env':=[(42,.v (.slice aI ((qav flex null ((qaI s2).length) 2).length) aJ)),(43,.v (.slice A6 ((qaI s2).length) c7)),(44,.v (.slice au ((qav flex null ((qaI s2).length) 2 ++ (qaI s2)).length) av))]) (by simp only [List.length_append,List.length_cons,List.length_nil,Nat.zero_add])
  refine qaj [7] [] [(12,.v (.slice au ((qav flex null ((qaI s2).length) 2 ++ (qaI s2)).length) av))] aK bY fun eM bZ=>?_
  refine qaf (qab ?_)
  refine wp_ret (qay (qat (qaM bZ aK.cells (v:=.slice au ((qav flex null ((qaI s2).length) 2 ++ (qaI s2)).length) av) kz ?_)))
  exact qbk aK (k:=0) rfl (by (try simp only [and1]); simp [qa1,Tree.S,Tree.N,ak,am,bA,ac,ae,ag,aE])
 have al:kind ≠ 8:=by simpa using ag
 refine qar [(0,.v (.int .i64 kind)),(1,.v (.slice A l.length c)),(2,.v (.bool null)),(3,.v (.int .i64 v)),(4,.v (.bool flex)),(11,.p 0 0),(16,.v (.int .i64 kind)),(45,.v (.bool (kind == 9)))] aa bt fun eN aL=>?_
 refine qaw aL (b:=kind == 9) kz (fun ab=>?_) (fun ab=>?_)
 ·
  have aZ:kind = 9:=by simpa using ab
  refine qae [0,1,2,3] kz ?_
  refine qaj [0,1] [2,3] [(2,.v (.bool null)),(4,.v (.bool flex)),(48,.v (.slice A6 s2.length c7))] aa aL fun eO b8=>?_
  have dL:=qbh s2
  refine qal (qak b8 (f:=40) (vs:=[.slice A6 s2.length c7]) (d:=49) kz Tryz.call40 (qdD _ _ s2 (aX.move aa.step nilM aa.imm).le _) ?_)
  rintro e_ eP ⟨rfl,ba⟩
  refine ⟨_,rfl,fun eQ cd=>?_⟩
  have af:=aa.next_nil ba
  have dV:=aa.frN ba
  refine qaj [3] [] [(2,.v (.bool null)),(4,.v (.bool flex)),(15,.v (.slice A6 ((qaI s2).length) c7))] af cd fun eR ce=>?_
  refine qaf (qab ?_)
  refine wp_seq (qar [(2,.v (.bool null)),(4,.v (.bool flex)),(15,.v (.slice A6 ((qaI s2).length) c7)),(50,.v (.bool null))] af ce fun eS aM=>?_)
  refine qaw aM (b:=null) kz (fun aN=>?_) (fun aN=>?_)
  ·
   refine qaq [0] kz ?_
   refine qaj [0] [] [(2,.v (.bool null)),(4,.v (.bool flex)),(15,.v (.slice none 0 0))] af aM fun eU cm=>?_
   refine qaf (qab ?_)
   refine qae [0,1,2,3,4,5,6,7] kz ?_
   refine qaj [0,1,2,3] [4,5,6,7] [(15,.v (.slice none 0 0)),(51,.v (.bool flex)),(52,.v (.bool null)),(54,.v (.int .i64 0))] af cm fun eV cq=>?_
   refine qal (qak cq (f:=106) (vs:=[.bool flex,.bool null,.int .i64 0,.int .i64 4]) (d:=55) kz Tryz.call106 (qdZ flex null 0 4 (by first | omega | exact Nat.le_trans (qbh _) (by decide) | exact Nat.le_trans (qcZ _) (by decide) | (simp; done) | (have:=hroom; omega)) (by first | decide | omega) _) ?_)
   rintro e_ eW ⟨aO,aP,rfl,cr,cu⟩
   refine ⟨_,rfl,fun eX cw=>?_⟩
   obtain ⟨bd,dW⟩:=af.frFresh cu (brow aO aP 5 (qav flex null 0 4)) (Nat.le_refl _) cr
   refine qaj [5] [6,7] [(55,.v (.slice aO ((qav flex null 0 4).length) aP)),(56,.v (.slice none 0 0))] bd cw fun eY cz=>?_
   refine qal (qaT bd cz (k:=0) (d:=57) (t:=22) (e:=5) (size:=1) (bytes:=1) (A:=aO) (As:=none) (m0:=((qav flex null 0 4).length)) (c:=aP) (m:=0) (cs:=0) (xs:=(bc (qav flex null 0 4))) (news:=bc ([]:Bs)) kz kz rfl (Octs.nil _ (fun _ _=>True)).src (fun _=>rfl) (by first | exact qdB (by omega) (by decide) (by omega) | exact qdB (Nat.le_trans (qbh _) (by decide)) (by decide) (Nat.le_trans (qbh _) (by decide)) | (simp; done)) fun aw ax eZ e9 dX cA cB=>?_)
   have cC:(⟨aw,ax,5,1,(qav flex null 0 4).length + 0,bc (qav flex null 0 4) ++ bc ([]:Bs)⟩:Rw) = brow aw ax 5 (qav flex null 0 4 ++ ([]:Bs)):=qb5 (rfl) rfl
   obtain ⟨aQ,dY⟩:=cA.rowEq 0 [brow aw ax 5 (qav flex null 0 4 ++ ([]:Bs))] cC
   have cD:=EnvOk.pick cB (ks:=[55,56,57]) (env':=[(55,.v (.slice aO ((qav flex null 0 4).length) aP)),(56,.v (.slice none 0 0)),(57,.v (.slice aw ((qav flex null 0 4).length + 0) ax))]) kz
   have cE:=cD.cast (env':=[(55,.v (.slice aO ((qav flex null 0 4).length) aP)),(56,.v (.slice none 0 0)),(57,.v (.slice aw ((qav flex null 0 4 ++ ([]:Bs)).length) ax))]) (by simp only [List.length_append,List.length_cons,List.length_nil,Nat.zero_add])
   refine qaj [7] [] [(12,.v (.slice aw ((qav flex null 0 4 ++ ([]:Bs)).length) ax))] aQ cE fun fa cG=>?_
   refine qaf (qab ?_)
   refine wp_ret (qay (qat (qaM cG aQ.cells (v:=.slice aw ((qav flex null 0 4 ++ ([]:Bs)).length) ax) kz ?_)))
   exact qbk aQ (k:=0) rfl (by (try simp only [and1]); simp [qa1,Tree.S,Tree.N,ak,am,al,aZ,ac,ae,ag,ab,aN])
  refine wp_skip (qab (qae [0,1,2,3,4,5,6,7] kz ?_))
  refine qaj [0,1,2,3] [4,5,6,7] [(15,.v (.slice A6 ((qaI s2).length) c7)),(51,.v (.bool flex)),(52,.v (.bool null)),(54,.v (.int .i64 (((qaI s2).length:Nat):Int)))] af aM fun fb cH=>?_
  refine qal (qak cH (f:=106) (vs:=[.bool flex,.bool null,.int .i64 (((qaI s2).length:Nat):Int),.int .i64 4]) (d:=55) kz Tryz.call106 (qdZ flex null ((qaI s2).length) 4 (by first | omega | exact Nat.le_trans (qbh _) (by decide) | exact Nat.le_trans (qcZ _) (by decide) | (simp; done) | (have:=hroom; omega)) (by first | decide | omega) _) ?_)
  rintro e_ fe ⟨aR,aS,rfl,cI,cJ⟩
  refine ⟨_,rfl,fun ff cK=>?_⟩
  obtain ⟨ai,dZ⟩:=af.frFresh cJ (brow aR aS 5 (qav flex null ((qaI s2).length) 4)) (Nat.le_refl _) cI
  refine qaj [5] [6,7] [(55,.v (.slice aR ((qav flex null ((qaI s2).length) 4).length) aS)),(56,.v (.slice A6 ((qaI s2).length) c7))] ai cK fun fg cL=>?_
  refine qal (qaT ai cL (k:=0) (d:=57) (t:=22) (e:=5) (size:=1) (bytes:=1) (A:=aR) (As:=A6) (m0:=((qav flex null ((qaI s2).length) 4).length)) (c:=aS) (m:=((qaI s2).length)) (cs:=c7) (xs:=(bc (qav flex null ((qaI s2).length) 4))) (news:=bc (qaI s2)) kz kz rfl ((aX.take 32767).move ai.step nilM ai.imm).src ((aX.take 32767).move ai.step nilM ai.imm).cap (by first | exact qdB (by omega) (by decide) (by omega) | exact qdB (Nat.le_trans (qbh _) (by decide)) (by decide) (Nat.le_trans (qbh _) (by decide)) | (simp; done)) fun ay az fh fi d5 cM cN=>?_)
  have cO:(⟨ay,az,5,1,(qav flex null ((qaI s2).length) 4).length + (qaI s2).length,bc (qav flex null ((qaI s2).length) 4) ++ bc (qaI s2)⟩:Rw) = brow ay az 5 (qav flex null ((qaI s2).length) 4 ++ (qaI s2)):=qb5 (rfl) rfl
  obtain ⟨aT,d6⟩:=cM.rowEq 0 [brow ay az 5 (qav flex null ((qaI s2).length) 4 ++ (qaI s2))] cO
  have cP:=EnvOk.pick cN (ks:=[55,56,57]) (env':=[(55,.v (.slice aR ((qav flex null ((qaI s2).length) 4).length) aS)),(56,.v (.slice A6 ((qaI s2).length) c7)),(57,.v (.slice ay ((qav flex null ((qaI s2).length) 4).length + (qaI s2).length) az))]) kz
  have cQ:=cP.cast (env':=[(55,.v (.slice aR ((qav flex null ((qaI s2).length) 4).length) aS)),(56,.v (.slice A6 ((qaI s2).length) c7)),(57,.v (.slice ay ((qav flex null ((qaI s2).length) 4 ++ (qaI s2)).length) az))]) (by simp only [List.length_append,List.length_cons,List.length_nil,Nat.zero_add])
  refine qaj [7] [] [(12,.v (.slice ay ((qav flex null ((qaI s2).length) 4 ++ (qaI s2)).length) az))] aT cQ fun fj cR=>?_
  refine qaf (qab ?_)
  refine wp_ret (qay (qat (qaM cR aT.cells (v:=.slice ay ((qav flex null ((qaI s2).length) 4 ++ (qaI s2)).length) az) kz ?_)))
  exact qbk aT (k:=0) rfl (by (try simp only [and1]); simp [qa1,Tree.S,Tree.N,ak,am,al,aZ,ac,ae,ag,ab,aN])
 have aU:kind ≠ 9:=by simpa using ab
 refine qar [(0,.v (.int .i64 kind)),(1,.v (.slice A l.length c)),(3,.v (.int .i64 v)),(4,.v (.bool flex)),(11,.p 0 0),(58,.v (.bool (kind == 10)))] aa aL fun fk aV=>?_
 refine qaw aV (b:=kind == 10) kz (fun aj=>?_) (fun aj=>?_)
 ·
  have bf:kind = 10:=by simpa using aj
  refine qae [0,1,2,3,4,5] kz ?_
  refine qaj [0,1,2,3] [4,5] [(60,.v (.slice A l.length c)),(61,.v (.int .i64 v)),(62,.v (.bool flex)),(63,.v (.agg #[.int .i64 n1,.slice A6 s2.length c7,.bool b3,.slice A8 l4.length c9,.slice dh u5.length di]))] aa aV fun fm cS=>?_
  refine qal (qak cS (f:=32) (vs:=[.slice A l.length c,.int .i64 v,.bool flex,.agg #[.int .i64 n1,.slice A6 s2.length c7,.bool b3,.slice A8 l4.length c9,.slice dh u5.length di]]) (d:=64) kz Tryz.call32 (hp _ _ l v flex _ (Tree.mk n1 s2 b3 l4 u5) _ _ ⟨xfs,(h1.move aa.step nilM aa.imm),(fun i_ x_ h_=>((h2 i_ x_ h_).move aa.step nilM aa.imm))⟩ hd (ht.move aa.step nilM aa.imm) (by simpa [qa1,ak,am,al,aU,bf,ac,ae,ag,ab,aj] using hroom)) ?_)
  rintro e_ fo ⟨bu,bw,rfl,cT,cU⟩
  refine ⟨_,rfl,fun fq cV=>?_⟩
  obtain ⟨aW,d7⟩:=aa.frFresh cU (brow bu bw 5 (qa7 d l v flex (Tree.mk n1 s2 b3 l4 u5))) (Nat.le_refl _) cT
  refine qaj [5] [] [(12,.v (.slice bu ((qa7 d l v flex (Tree.mk n1 s2 b3 l4 u5)).length) bw))] aW cV fun fr cW=>?_
  refine qaf (qab ?_)
  refine wp_ret (qay (qat (qaM cW aW.cells (v:=.slice bu ((qa7 d l v flex (Tree.mk n1 s2 b3 l4 u5)).length) bw) kz ?_)))
  exact qbk aW (k:=0) rfl (by (try simp only [and1]); simp [qa1,Tree.S,Tree.N,ak,am,al,aU,bf,ac,ae,ag,ab,aj])
 have cX:kind ≠ 10:=by simpa using aj
 refine wp_skip (qas (qab (qaE 5 kz aa fun ft d8 bg cY=>?_)))
 refine qaD [0,1,2] [(66,.v (.int .i64 n1)),(67,.v (.int .i64 kind))] 3 (qaa qad) (fun _ h=>h.cells) cY aV fun fu cZ=>?_
 refine qan (i:=3) kz (qak cZ (f:=71) (vs:=[.int .i64 kind]) (d:=68) kz Tryz.call71 (qjp kind _) ?_)
 rintro e_ fv ⟨rfl,bh⟩
 refine ⟨_,rfl,fun fw c5=>?_⟩
 have bi:=bg.next_nil bh
 have bj:=bg.frN bh
 have c6:=TT.ofW bj bi
 refine ⟨fun _=>c6,?_⟩
 refine qan (i:=4) kz (qak c5 (f:=70) (vs:=[.int .i64 n1,.int .i64 ((qbA kind:Nat):Int)]) (d:=69) kz Tryz.call70 (qfD n1 (qbA kind) (by first | decide | exact qbE _ | omega) _) ?_)
 rintro e_ fx ⟨bx,bz,rfl,da,db⟩
 refine ⟨_,rfl,fun fy dc=>?_⟩
 obtain ⟨aA,de⟩:=bi.frFresh db (brow bx bz 5 (be (qbA kind) n1)) (Nat.le_refl _) da
 have df:=TT.ofW (bj.trans de) aA
 refine ⟨fun _=>df,?_⟩
 refine qan (i:=5) kz (qbd [12] aA.cells dc (env':=[(12,.v (.slice bx ((be (qbA kind) n1).length) bz))]) kz fun fz dg=>?_)
 refine ⟨fun h=>absurd rfl h,?_⟩
 refine qaC kz ?_ _
 refine qab (wp_ret (qaM dg aA.cells (v:=.slice bx ((be (qbA kind) n1).length) bz) kz ?_))
 exact qbk aA (k:=0) rfl (by (try simp only [and1]); simp [qa1,Tree.S,Tree.N,ak,am,al,aU,cX,ac,ae,ag,ab,aj])
theorem qlw {d:Nat} (hp:qjq d) (cf:List Value) (f:Fld) (v:Int) (flex:Bool) (ct:List Value) (t:Tree) (w:World) (F:Nat → Nat → Prop) (hf:FldR w F cf f) (hd:depths f.sub ≤ d) (ht:TreeR w F ct t) (hroom:(qcX d f v flex t).length ≤ 1099511627776) :
  Calls Tryz.prog 67 #[.agg cf.toArray,.int .i64 v,.bool flex,.agg ct.toArray] w (qd3 w 5 (qcX d f v flex t)):=by
 obtain ⟨n1,s2,b3,l4,u5,A6,c7,A8,c9,aK,aL,eY,rfl,rfl,eZ,dW,e9,gn⟩:=ht.open_
 have ev:=eZ.small
 have ew:=dW.small
 obtain ⟨ac,af,ag,ae,ah,ai,ab,aa,ay,az,bw,rfl,rfl,b8,dV⟩:=hf.open_
 have ey:=b8.small
 refine enter (n:=76) Tryz.func67 rfl Tryz.ntmps67 kz fun a hE=>?_
 have hW:=WOk.start w Nil
 refine qae [0,1,2] kz ?_
 refine qal (qbm hW hE (d:=4) (cs:=(z4 ac af ag ae ah ai ab ay aa.length az)) kz fun ez gp gq fa fb fe dX dY=>?_)
 refine qal (qbm dX dY (d:=7) (cs:=(z2 n1 A6 s2.length c7 b3 A8 l4.length c9 aK u5.length aL)) kz fun eB gt gv ff fg fh bx dZ=>?_)
 refine qaj [2] [] [(1,.v (.int .i64 v)),(2,.v (.bool flex)),(4,.p 0 0),(7,.p 1 0)] bx dZ fun gw d5=>?_
 refine qaf (qab ?_)
 refine qae [0,1,2,3,4] kz ?_
 refine qaj [0,1,2] [3,4] [(1,.v (.int .i64 v)),(2,.v (.bool flex)),(4,.p 0 0),(7,.p 1 0),(13,.v (.agg #[.int .i64 ac,.int .i64 af,.int .i64 ag,.int .i64 ae,.int .i64 ah,.int .i64 ai,.int .i64 ab,.slice ay aa.length az])),(14,.v (.int .i64 v)),(15,.v (.agg #[.int .i64 n1,.slice A6 s2.length c7,.bool b3,.slice A8 l4.length c9,.slice aK u5.length aL]))] bx d5 fun gx d6=>?_
 refine qal (qak d6 (f:=72) (vs:=[.agg #[.int .i64 ac,.int .i64 af,.int .i64 ag,.int .i64 ae,.int .i64 ah,.int .i64 ai,.int .i64 ab,.slice ay aa.length az],.int .i64 v,.agg #[.int .i64 n1,.slice A6 s2.length c7,.bool b3,.slice A8 l4.length c9,.slice aK u5.length aL]]) (d:=16) kz Tryz.call72 (qk3 ac af ag ae ah ai ab aa _ _ v n1 s2 b3 l4 u5 _ _ _ _ _ _ _) ?_)
 rintro e_ gy ⟨rfl,cd⟩
 refine ⟨_,rfl,fun gz d7=>?_⟩
 have aj:=bx.next_nil cd
 have fi:=bx.frN cd
 refine qaj [4] [] [(1,.v (.int .i64 v)),(2,.v (.bool flex)),(4,.p 0 0),(7,.p 1 0),(9,.v (.bool (z3 ac af ag ae ah ai ab aa v n1 s2 b3 l4 u5)))] aj d7 fun gA d8=>?_
 refine qaf (qab ?_)
 refine wp_seq (qar [(1,.v (.int .i64 v)),(2,.v (.bool flex)),(4,.p 0 0),(7,.p 1 0),(9,.v (.bool (z3 ac af ag ae ah ai ab aa v n1 s2 b3 l4 u5))),(19,.v (.bool (ac == 11)))] aj d8 fun gB bM=>?_)
 refine qaw bM (b:=ac == 11) kz (fun bN=>?_) (fun bN=>?_)
 ·
  have fj:ac = 11:=by simpa using bN
  refine qae [0,1,2,3] kz ?_
  refine qaj [0,1] [2,3] [(1,.v (.int .i64 v)),(2,.v (.bool flex)),(4,.p 0 0),(9,.v (.bool (z3 ac af ag ae ah ai ab aa v n1 s2 b3 l4 u5))),(21,.v (.slice A8 l4.length c9))] aj bM fun gC d9=>?_
  refine qal (qak d9 (f:=73) (vs:=[.slice A8 l4.length c9]) (d:=22) kz Tryz.call73 (qgo _ _ l4 (dW.move aj.step nilM aj.imm).le _) ?_)
  rintro e_ gD ⟨rfl,ce⟩
  refine ⟨_,rfl,fun gE ea=>?_⟩
  have aB:=aj.next_nil ce
  have fk:=aj.frN ce
  refine qaj [3] [] [(1,.v (.int .i64 v)),(2,.v (.bool flex)),(4,.p 0 0),(9,.v (.bool (z3 ac af ag ae ah ai ab aa v n1 s2 b3 l4 u5))),(10,.v (.slice A8 ((qao l4).length) c9))] aB ea fun gF eb=>?_
  refine qaf (qab ?_)
  refine wp_seq (qar [(1,.v (.int .i64 v)),(2,.v (.bool flex)),(4,.p 0 0),(9,.v (.bool (z3 ac af ag ae ah ai ab aa v n1 s2 b3 l4 u5))),(10,.v (.slice A8 ((qao l4).length) c9)),(23,.v (.bool (z3 ac af ag ae ah ai ab aa v n1 s2 b3 l4 u5)))] aB eb fun gG bO=>?_)
  refine qaw bO (b:=Fld.nul (Fld.mk ac af ag ae ah ai ab aa) v (Tree.mk n1 s2 b3 l4 u5)) kz (fun ec=>?_) (fun ec=>?_)
  ·
   refine qaq [0] kz ?_
   refine qaj [0] [] [(1,.v (.int .i64 v)),(2,.v (.bool flex)),(4,.p 0 0),(9,.v (.bool (z3 ac af ag ae ah ai ab aa v n1 s2 b3 l4 u5))),(10,.v (.slice none 0 0))] aB bO fun gH ee=>?_
   refine qaf (qab ?_)
   refine qae [0,1,2,3,4,5] kz ?_
   refine qaj [0,1,2,3] [4,5] [(1,.v (.int .i64 v)),(2,.v (.bool flex)),(4,.p 0 0),(10,.v (.slice none 0 0)),(24,.v (.bool flex)),(25,.v (.bool (z3 ac af ag ae ah ai ab aa v n1 s2 b3 l4 u5))),(27,.v (.int .i64 0))] aB ee fun gI ef=>?_
   refine qal (qak ef (f:=106) (vs:=[.bool flex,.bool (Fld.nul (Fld.mk ac af ag ae ah ai ab aa) v (Tree.mk n1 s2 b3 l4 u5)),.int .i64 0,.int .i64 4]) (d:=28) kz Tryz.call106 (qdZ flex (Fld.nul (Fld.mk ac af ag ae ah ai ab aa) v (Tree.mk n1 s2 b3 l4 u5)) 0 4 (by first | omega | exact Nat.le_trans (qbh _) (by decide) | exact Nat.le_trans (qcZ _) (by decide) | (simp; done) | (have:=hroom; omega)) (by first | decide | omega) _) ?_)
   rintro e_ gJ ⟨bY,bZ,rfl,eg,eh⟩
   refine ⟨_,rfl,fun gK ei=>?_⟩
   obtain ⟨bP,fm⟩:=aB.frFresh eh (brow bY bZ 5 (qav flex (z3 ac af ag ae ah ai ab aa v n1 s2 b3 l4 u5) 0 4)) (Nat.le_refl _) eg
   refine qaj [5] [] [(1,.v (.int .i64 v)),(2,.v (.bool flex)),(4,.p 0 0),(10,.v (.slice none 0 0)),(11,.v (.slice bY ((qav flex (z3 ac af ag ae ah ai ab aa v n1 s2 b3 l4 u5) 0 4).length) bZ))] bP ei fun gL ej=>?_
   refine qaf (qab ?_)
   refine wp_seq (qar [(1,.v (.int .i64 v)),(2,.v (.bool flex)),(4,.p 0 0),(10,.v (.slice none 0 0)),(11,.v (.slice bY ((qav flex (z3 ac af ag ae ah ai ab aa v n1 s2 b3 l4 u5) 0 4).length) bZ)),(30,.v (.int .i64 0)),(31,.v (.int .i64 0))] bP ej fun gM cm=>?_)
   refine wp_block ?_
   have hr2:(qav flex (Fld.nul (Fld.mk ac af ag ae ah ai ab aa) v (Tree.mk n1 s2 b3 l4 u5)) 0 4 ++ ([]:List Tree).flatMap (qa1 (qa7 d aa v flex) ab false flex)).length ≤ 1099511627776:=by have h_:=hroom; rw [qfW ‹_› ‹_›] at h_; exact h_
   rw [List.length_append] at hr2
   have hr3:=qc0 ([]:List Tree) (qa1 (qa7 d aa v flex) ab false flex)
   have cq:(qav flex (Fld.nul (Fld.mk ac af ag ae ah ai ab aa) v (Tree.mk n1 s2 b3 l4 u5)) 0 4) = (qav flex (Fld.nul (Fld.mk ac af ag ae ah ai ab aa) v (Tree.mk n1 s2 b3 l4 u5)) 0 4 ++ (([]:List Tree).take 0).flatMap (qa1 (qa7 d aa v flex) ab false flex)):=by simp
   have cr:=congrArg (brow bY bZ 5) cq
   obtain ⟨bB,eC⟩:=bP.rowEq 0 [brow bY bZ 5 (qav flex (z3 ac af ag ae ah ai ab aa v n1 s2 b3 l4 u5) 0 4 ++ (([]:List Tree).take 0).flatMap (qa1 (qa7 d aa v flex) ab false flex))] cr
   rw [cq] at cm
   refine wp_loop_ghost (fun n_ a_ w_=>∃ (k:Nat) (A_:Option Addr) (c_:Nat),n_ = 0 - k ∧ k ≤ 0 ∧ LInv bB 76 [⟨ez,0,[.int .i64 ac,.int .i64 af,.int .i64 ag,.int .i64 ae,.int .i64 ah,.int .i64 ai,.int .i64 ab,.slice ay aa.length az],true⟩,⟨eB,0,[.int .i64 n1,.slice A6 s2.length c7,.bool b3,.slice A8 l4.length c9,.slice aK u5.length aL],true⟩] [brow A_ c_ 5 (qav flex (Fld.nul (Fld.mk ac af ag ae ah ai ab aa) v (Tree.mk n1 s2 b3 l4 u5)) 0 4 ++ (([]:List Tree).take k).flatMap (qa1 (qa7 d aa v flex) ab false flex))] [(1,.v (.int .i64 v)),(2,.v (.bool flex)),(4,.p 0 0),(10,.v (.slice none 0 0)),(11,.v (.slice A_ ((qav flex (Fld.nul (Fld.mk ac af ag ae ah ai ab aa) v (Tree.mk n1 s2 b3 l4 u5)) 0 4 ++ (([]:List Tree).take k).flatMap (qa1 (qa7 d aa v flex) ab false flex)).length) c_)),(30,.v (.int .i64 0)),(31,.v (.int .i64 ((k:Nat):Int)))] a_ w_) (0) ⟨0,bY,bZ,by omega,by omega,cm.pk,bB,Fr.refl _ _ _⟩ ?_
   rintro fo fq fr ⟨k,A_,c_,eD,eE,cu,aE,eF⟩
   refine qar [(1,.v (.int .i64 v)),(2,.v (.bool flex)),(4,.p 0 0),(10,.v (.slice none 0 0)),(11,.v (.slice A_ ((qav flex (z3 ac af ag ae ah ai ab aa v n1 s2 b3 l4 u5) 0 4 ++ (([]:List Tree).take k).flatMap (qa1 (qa7 d aa v flex) ab false flex)).length) c_)),(30,.v (.int .i64 0)),(31,.v (.int .i64 ((k:Nat):Int))),(32,.v (.bool (decide (((k:Nat):Int) < 0))))] aE cu fun ft bC=>?_
   refine wp_seq (qam bC (b:=decide (((k:Nat):Int) < 0)) kz (decide_eq_false (by omega)) ?_)
   refine wp_exit (qau (qau (qaL (qab (qar [(8,.v (.slice A_ ((qav flex (z3 ac af ag ae ah ai ab aa v n1 s2 b3 l4 u5) 0 4 ++ (([]:List Tree).take k).flatMap (qa1 (qa7 d aa v flex) ab false flex)).length) c_))] aE bC fun fu cw=>?_)))))
   refine wp_ret (qat (qaM cw aE.cells (v:=.slice A_ ((qav flex (z3 ac af ag ae ah ai ab aa v n1 s2 b3 l4 u5) 0 4 ++ (([]:List Tree).take k).flatMap (qa1 (qa7 d aa v flex) ab false flex)).length) c_) kz ?_))
   exact qbk aE (k:=0) rfl (by rw [qfW ‹_› ‹_›]; simp)
  refine wp_skip (qab (qae [0,1,2,3,4,5] kz ?_))
  refine qaj [0,1,2,3] [4,5] [(1,.v (.int .i64 v)),(2,.v (.bool flex)),(4,.p 0 0),(10,.v (.slice A8 ((qao l4).length) c9)),(24,.v (.bool flex)),(25,.v (.bool (z3 ac af ag ae ah ai ab aa v n1 s2 b3 l4 u5))),(27,.v (.int .i64 (((qao l4).length:Nat):Int)))] aB bO fun fv cz=>?_
  refine qal (qak cz (f:=106) (vs:=[.bool flex,.bool (Fld.nul (Fld.mk ac af ag ae ah ai ab aa) v (Tree.mk n1 s2 b3 l4 u5)),.int .i64 (((qao l4).length:Nat):Int),.int .i64 4]) (d:=28) kz Tryz.call106 (qdZ flex (Fld.nul (Fld.mk ac af ag ae ah ai ab aa) v (Tree.mk n1 s2 b3 l4 u5)) ((qao l4).length) 4 (by first | omega | exact Nat.le_trans (qbh _) (by decide) | exact Nat.le_trans (qcZ _) (by decide) | (simp; done) | (have:=hroom; omega)) (by first | decide | omega) _) ?_)
  rintro e_ fw ⟨aM,aN,rfl,cA,cB⟩
  refine ⟨_,rfl,fun fx cC=>?_⟩
  obtain ⟨aO,eG⟩:=aB.frFresh cB (brow aM aN 5 (qav flex (z3 ac af ag ae ah ai ab aa v n1 s2 b3 l4 u5) ((qao l4).length) 4)) (Nat.le_refl _) cA
  refine qaj [5] [] [(1,.v (.int .i64 v)),(2,.v (.bool flex)),(4,.p 0 0),(10,.v (.slice A8 ((qao l4).length) c9)),(11,.v (.slice aM ((qav flex (z3 ac af ag ae ah ai ab aa v n1 s2 b3 l4 u5) ((qao l4).length) 4).length) aN))] aO cC fun fy cD=>?_
  refine qaf (qab ?_)
  refine wp_seq (qar [(1,.v (.int .i64 v)),(2,.v (.bool flex)),(4,.p 0 0),(10,.v (.slice A8 ((qao l4).length) c9)),(11,.v (.slice aM ((qav flex (z3 ac af ag ae ah ai ab aa v n1 s2 b3 l4 u5) ((qao l4).length) 4).length) aN)),(30,.v (.int .i64 (((qao l4).length:Nat):Int))),(31,.v (.int .i64 0))] aO cD fun fz bD=>?_)
  refine wp_block ?_
  have hr2:(qav flex (Fld.nul (Fld.mk ac af ag ae ah ai ab aa) v (Tree.mk n1 s2 b3 l4 u5)) ((qao l4).length) 4 ++ (qao l4).flatMap (qa1 (qa7 d aa v flex) ab false flex)).length ≤ 1099511627776:=by have h_:=hroom; rw [qgL ‹_› ‹_›] at h_; exact h_
  rw [List.length_append] at hr2
  have hr3:=qc0 (qao l4) (qa1 (qa7 d aa v flex) ab false flex)
  have hsm3:(qao l4).length ≤ 32767:=by simp only [qao,List.length_take]; omega
  have bE:(qav flex (Fld.nul (Fld.mk ac af ag ae ah ai ab aa) v (Tree.mk n1 s2 b3 l4 u5)) ((qao l4).length) 4) = (qav flex (Fld.nul (Fld.mk ac af ag ae ah ai ab aa) v (Tree.mk n1 s2 b3 l4 u5)) ((qao l4).length) 4 ++ ((qao l4).take 0).flatMap (qa1 (qa7 d aa v flex) ab false flex)):=by simp
  have cE:=congrArg (brow aM aN 5) bE
  obtain ⟨bF,eH⟩:=aO.rowEq 0 [brow aM aN 5 (qav flex (z3 ac af ag ae ah ai ab aa v n1 s2 b3 l4 u5) ((qao l4).length) 4 ++ ((qao l4).take 0).flatMap (qa1 (qa7 d aa v flex) ab false flex))] cE
  rw [bE] at bD
  refine wp_loop_ghost (fun n_ a_ w_=>∃ (k:Nat) (A_:Option Addr) (c_:Nat),n_ = (qao l4).length - k ∧ k ≤ (qao l4).length ∧ LInv bF 76 [⟨ez,0,[.int .i64 ac,.int .i64 af,.int .i64 ag,.int .i64 ae,.int .i64 ah,.int .i64 ai,.int .i64 ab,.slice ay aa.length az],true⟩,⟨eB,0,[.int .i64 n1,.slice A6 s2.length c7,.bool b3,.slice A8 l4.length c9,.slice aK u5.length aL],true⟩] [brow A_ c_ 5 (qav flex (Fld.nul (Fld.mk ac af ag ae ah ai ab aa) v (Tree.mk n1 s2 b3 l4 u5)) ((qao l4).length) 4 ++ ((qao l4).take k).flatMap (qa1 (qa7 d aa v flex) ab false flex))] [(1,.v (.int .i64 v)),(2,.v (.bool flex)),(4,.p 0 0),(10,.v (.slice A8 ((qao l4).length) c9)),(11,.v (.slice A_ ((qav flex (Fld.nul (Fld.mk ac af ag ae ah ai ab aa) v (Tree.mk n1 s2 b3 l4 u5)) ((qao l4).length) 4 ++ ((qao l4).take k).flatMap (qa1 (qa7 d aa v flex) ab false flex)).length) c_)),(30,.v (.int .i64 (((qao l4).length:Nat):Int))),(31,.v (.int .i64 ((k:Nat):Int)))] a_ w_) ((qao l4).length) ⟨0,aM,aN,by omega,by omega,bD.pk,bF,Fr.refl _ _ _⟩ ?_
  rintro fA fB fC ⟨k,A_,c_,eI,eJ,cG,ax,cH⟩
  refine qar [(1,.v (.int .i64 v)),(2,.v (.bool flex)),(4,.p 0 0),(10,.v (.slice A8 ((qao l4).length) c9)),(11,.v (.slice A_ ((qav flex (z3 ac af ag ae ah ai ab aa v n1 s2 b3 l4 u5) ((qao l4).length) 4 ++ ((qao l4).take k).flatMap (qa1 (qa7 d aa v flex) ab false flex)).length) c_)),(30,.v (.int .i64 (((qao l4).length:Nat):Int))),(31,.v (.int .i64 ((k:Nat):Int))),(32,.v (.bool (decide (((k:Nat):Int) < (((qao l4).length:Nat):Int)))))] ax cG fun fD aP=>?_
  refine wp_seq (qaw aP (b:=decide (((k:Nat):Int) < (((qao l4).length:Nat):Int))) kz (fun aQ=>?_) (fun aQ=>?_))
  ·
   have eK:=of_decide_eq_true aQ
   refine wp_skip (qab (wp_seq (wp_block (qar [(1,.v (.int .i64 v)),(2,.v (.bool flex)),(4,.p 0 0),(10,.v (.slice A8 ((qao l4).length) c9)),(11,.v (.slice A_ ((qav flex (z3 ac af ag ae ah ai ab aa v n1 s2 b3 l4 u5) ((qao l4).length) 4 ++ ((qao l4).take k).flatMap (qa1 (qa7 d aa v flex) ab false flex)).length) c_)),(12,.v (.int .i64 ((k:Nat):Int))),(30,.v (.int .i64 (((qao l4).length:Nat):Int))),(31,.v (.int .i64 ((k:Nat):Int)))] ax aP fun fE cI=>?_))))
   refine qcr 13 kz ax fun fF cJ ar aR=>?_
   refine qaD [0,1,2,3,4,5,6,7,8] [(1,.v (.int .i64 v)),(2,.v (.bool flex)),(4,.p 0 0),(10,.v (.slice A8 ((qao l4).length) c9)),(11,.v (.slice A_ ((qav flex (z3 ac af ag ae ah ai ab aa v n1 s2 b3 l4 u5) ((qao l4).length) 4 ++ ((qao l4).take k).flatMap (qa1 (qa7 d aa v flex) ab false flex)).length) c_)),(30,.v (.int .i64 (((qao l4).length:Nat):Int))),(31,.v (.int .i64 ((k:Nat):Int))),(34,.v (.slice A_ ((qav flex (z3 ac af ag ae ah ai ab aa v n1 s2 b3 l4 u5) ((qao l4).length) 4 ++ ((qao l4).take k).flatMap (qa1 (qa7 d aa v flex) ab false flex)).length) c_)),(36,.v (.int .i64 ab)),(38,.v (.slice ay aa.length az)),(39,.v (.int .i64 v)),(40,.v (.bool flex)),(41,.v (.slice A8 ((qao l4).length) c9)),(42,.v (.int .i64 ((k:Nat):Int)))] 5 (qac (qaa (qaa (qac (qaa (qaa qad)))))) (fun _ h=>h.cells) aR cI fun fG cK=>?_
   obtain ⟨bQ,bR,cL,eL,aS⟩:=Slots.get (qc2 dW) (i:=k) (by omega)
   obtain ⟨ek,aF⟩:∃ x,(qao l4)[k]? = some x:=⟨_,List.getElem?_eq_getElem (by omega)⟩
   have aT:=(qdk e9) k ek aF
   obtain ⟨ak,al,am,ao,ap,aU,aV,aW,aX,aY,aZ,eM,rfl,ba,em,eo,fH,fI⟩:=aT.open_
   rw [ba] at aT
   have ep:=em.small
   have eu:=eo.small
   rw [ba] at aS
   refine qaJ cK (i:=9) (t:=23) (A:=A8) (m:=((qao l4).length)) (q:=((k:Nat):Int)) (d:=43) kz (e:=26) (size:=5) (bytes:=88) kz cL rfl (by omega) kz kz (qac (qaa (qaa (qac (qaa (qaa qad)))))) aR fun fJ cM=>?_
   refine qa6 cM (i:=10) (t:=26) (b:=bQ) (o:=bR + k * 5) (d:=44) kz (cs:=(z2 ak aU al.length aV am aW ao.length aX aY ap.length aZ)) (v:=.agg #[.int .i64 ak,.slice aU al.length aV,.bool am,.slice aW ao.length aX,.slice aY ap.length aZ]) kz (fun w' h'=>(AtF.move aS (TT.step0 ar h') nilM qbb).at_) kz kz (qac (qaa (qaa (qac (qaa (qaa qad)))))) aR fun fK cN=>?_
   refine qan (i:=11) kz (qak cN (f:=107) (vs:=[.int .i64 ab,.slice ay aa.length az,.bool false,.int .i64 v,.bool flex,.agg #[.int .i64 ak,.slice aU al.length aV,.bool am,.slice aW ao.length aX,.slice aY ap.length aZ]]) (d:=45) kz Tryz.call107 (qjr hp ab _ _ aa false v flex _ (Tree.mk ak al am ao ap) _ _ ⟨bw,(b8.move ar.step nilM ar.imm),(fun i_ x_ h_=>((dV i_ x_ h_).move ar.step nilM ar.imm))⟩ hd (aT.move ar.step nilM ar.imm) (by have:=qfV (g:=qa1 (qa7 d aa v flex) ab false flex) aF; omega)) ?_)
   rintro e_ fL ⟨bd,bf,rfl,cO,cP⟩
   refine ⟨_,rfl,fun fM cQ=>?_⟩
   obtain ⟨aG,bg⟩:=ar.frFresh cP (brow bd bf 5 (qa1 (qa7 d aa v flex) ab false flex (Tree.mk ak al am ao ap))) (Nat.le_refl _) cO
   have cR:=TT.ofW bg aG
   refine ⟨fun _=>cR,?_⟩
   refine qan (i:=12) kz (qaT aG cQ (k:=0) (d:=46) (t:=22) (e:=5) (size:=1) (bytes:=1) (A:=A_) (As:=bd) (m0:=((qav flex (Fld.nul (Fld.mk ac af ag ae ah ai ab aa) v (Tree.mk n1 s2 b3 l4 u5)) ((qao l4).length) 4 ++ ((qao l4).take k).flatMap (qa1 (qa7 d aa v flex) ab false flex)).length)) (c:=c_) (m:=((qa1 (qa7 d aa v flex) ab false flex (Tree.mk ak al am ao ap)).length)) (cs:=bf) (xs:=(bc (qav flex (Fld.nul (Fld.mk ac af ag ae ah ai ab aa) v (Tree.mk n1 s2 b3 l4 u5)) ((qao l4).length) 4 ++ ((qao l4).take k).flatMap (qa1 (qa7 d aa v flex) ab false flex)))) (news:=bc (qa1 (qa7 d aa v flex) ab false flex (Tree.mk ak al am ao ap))) kz kz rfl (qbu (aG.own 1 _ rfl) (qdq _)) (qbz (aG.own 1 _ rfl)) (by rw [List.length_append]; have h8_:=hr3 k; have h9_:=qfV (g:=qa1 (qa7 d aa v flex) ab false flex) aF; omega) fun av aw fN fO bG cS cT=>?_)
   have cU:(⟨av,aw,5,1,(qav flex (z3 ac af ag ae ah ai ab aa v n1 s2 b3 l4 u5) ((qao l4).length) 4 ++ ((qao l4).take k).flatMap (qa1 (qa7 d aa v flex) ab false flex)).length + (qa1 (qa7 d aa v flex) ab false flex (Tree.mk ak al am ao ap)).length,bc (qav flex (z3 ac af ag ae ah ai ab aa v n1 s2 b3 l4 u5) ((qao l4).length) 4 ++ ((qao l4).take k).flatMap (qa1 (qa7 d aa v flex) ab false flex)) ++ bc (qa1 (qa7 d aa v flex) ab false flex (Tree.mk ak al am ao ap))⟩:Rw) = brow av aw 5 (qav flex (z3 ac af ag ae ah ai ab aa v n1 s2 b3 l4 u5) ((qao l4).length) 4 ++ ((qao l4).take k).flatMap (qa1 (qa7 d aa v flex) ab false flex) ++ (qa1 (qa7 d aa v flex) ab false flex (Tree.mk ak al am ao ap))):=qb5 (rfl) rfl
   obtain ⟨aH,bH⟩:=cS.rowEq 0 [brow av aw 5 (qav flex (z3 ac af ag ae ah ai ab aa v n1 s2 b3 l4 u5) ((qao l4).length) 4 ++ ((qao l4).take k).flatMap (qa1 (qa7 d aa v flex) ab false flex) ++ (qa1 (qa7 d aa v flex) ab false flex (Tree.mk ak al am ao ap))),brow bd bf 5 (qa1 (qa7 d aa v flex) ab false flex (Tree.mk ak al am ao ap))] cU
   have cV:=EnvOk.pick cT (ks:=[1,2,4,10,11,30,31,34,36,38,39,40,41,42,43,44,45,46]) (env':=[(1,.v (.int .i64 v)),(2,.v (.bool flex)),(4,.p 0 0),(10,.v (.slice A8 ((qao l4).length) c9)),(11,.v (.slice A_ ((qav flex (z3 ac af ag ae ah ai ab aa v n1 s2 b3 l4 u5) ((qao l4).length) 4 ++ ((qao l4).take k).flatMap (qa1 (qa7 d aa v flex) ab false flex)).length) c_)),(30,.v (.int .i64 (((qao l4).length:Nat):Int))),(31,.v (.int .i64 ((k:Nat):Int))),(34,.v (.slice A_ ((qav flex (z3 ac af ag ae ah ai ab aa v n1 s2 b3 l4 u5) ((qao l4).length) 4 ++ ((qao l4).take k).flatMap (qa1 (qa7 d aa v flex) ab false flex)).length) c_)),(36,.v (.int .i64 ab)),(38,.v (.slice ay aa.length az)),(39,.v (.int .i64 v)),(40,.v (.bool flex)),(41,.v (.slice A8 ((qao l4).length) c9)),(42,.v (.int .i64 ((k:Nat):Int))),(43,.v (.pointer (some ⟨bQ,bR + k * 5,none⟩))),(44,.v (.agg #[.int .i64 ak,.slice aU al.length aV,.bool am,.slice aW ao.length aX,.slice aY ap.length aZ])),(45,.v (.slice bd ((qa1 (qa7 d aa v flex) ab false flex (Tree.mk ak al am ao ap)).length) bf)),(46,.v (.slice av ((qav flex (z3 ac af ag ae ah ai ab aa v n1 s2 b3 l4 u5) ((qao l4).length) 4 ++ ((qao l4).take k).flatMap (qa1 (qa7 d aa v flex) ab false flex)).length + (qa1 (qa7 d aa v flex) ab false flex (Tree.mk ak al am ao ap)).length) aw))]) kz
   have cW:=cV.cast (env':=[(1,.v (.int .i64 v)),(2,.v (.bool flex)),(4,.p 0 0),(10,.v (.slice A8 ((qao l4).length) c9)),(11,.v (.slice A_ ((qav flex (Fld.nul (Fld.mk ac af ag ae ah ai ab aa) v (Tree.mk n1 s2 b3 l4 u5)) ((qao l4).length) 4 ++ ((qao l4).take k).flatMap (qa1 (qa7 d aa v flex) ab false flex)).length) c_)),(30,.v (.int .i64 (((qao l4).length:Nat):Int))),(31,.v (.int .i64 ((k:Nat):Int))),(34,.v (.slice A_ ((qav flex (Fld.nul (Fld.mk ac af ag ae ah ai ab aa) v (Tree.mk n1 s2 b3 l4 u5)) ((qao l4).length) 4 ++ ((qao l4).take k).flatMap (qa1 (qa7 d aa v flex) ab false flex)).length) c_)),(36,.v (.int .i64 ab)),(38,.v (.slice ay aa.length az)),(39,.v (.int .i64 v)),(40,.v (.bool flex)),(41,.v (.slice A8 ((qao l4).length) c9)),(42,.v (.int .i64 ((k:Nat):Int))),(43,.v (.pointer (some ⟨bQ,bR + k * 5,none⟩))),(44,.v (.agg #[.int .i64 ak,.slice aU al.length aV,.bool am,.slice aW ao.length aX,.slice aY ap.length aZ])),(45,.v (.slice bd ((qa1 (qa7 d aa v flex) ab false flex (Tree.mk ak al am ao ap)).length) bf)),(46,.v (.slice av ((qav flex (Fld.nul (Fld.mk ac af ag ae ah ai ab aa) v (Tree.mk n1 s2 b3 l4 u5)) ((qao l4).length) 4 ++ ((qao l4).take k).flatMap (qa1 (qa7 d aa v flex) ab false flex) ++ (qa1 (qa7 d aa v flex) ab false flex (Tree.mk ak al am ao ap))).length) aw))]) (by simp only [List.length_append,List.length_cons,List.length_nil,Nat.zero_add])
   have cX:=TT.ofW ((bg.trans bG).trans bH) aH
   refine ⟨fun _=>cX,?_⟩
   refine qan (i:=13) kz (qbd [1,2,4,10,11,30,31] aH.cells cW (env':=[(1,.v (.int .i64 v)),(2,.v (.bool flex)),(4,.p 0 0),(10,.v (.slice A8 ((qao l4).length) c9)),(11,.v (.slice av ((qav flex (z3 ac af ag ae ah ai ab aa v n1 s2 b3 l4 u5) ((qao l4).length) 4 ++ ((qao l4).take k).flatMap (qa1 (qa7 d aa v flex) ab false flex) ++ (qa1 (qa7 d aa v flex) ab false flex (Tree.mk ak al am ao ap))).length) aw)),(30,.v (.int .i64 (((qao l4).length:Nat):Int))),(31,.v (.int .i64 ((k:Nat):Int)))]) kz fun fP cY=>?_)
   refine ⟨fun h=>absurd rfl h,?_⟩
   refine qaC kz ?_ _
   refine qas (qab (qaq [0,1] kz ?_))
   refine qaj [0,1] [] [(1,.v (.int .i64 v)),(2,.v (.bool flex)),(4,.p 0 0),(10,.v (.slice A8 ((qao l4).length) c9)),(11,.v (.slice av ((qav flex (z3 ac af ag ae ah ai ab aa v n1 s2 b3 l4 u5) ((qao l4).length) 4 ++ ((qao l4).take k).flatMap (qa1 (qa7 d aa v flex) ab false flex) ++ (qa1 (qa7 d aa v flex) ab false flex (Tree.mk ak al am ao ap))).length) aw)),(30,.v (.int .i64 (((qao l4).length:Nat):Int))),(31,.v (.int .i64 (IntKind.i64.wrap (((k:Nat):Int) + 1))))] aH cY fun fQ bh=>?_
   refine qaf (qab ?_)
   obtain ⟨cZ,c5⟩:=aH.cutR 1 [brow av aw 5 (qav flex (z3 ac af ag ae ah ai ab aa v n1 s2 b3 l4 u5) ((qao l4).length) 4 ++ ((qao l4).take k).flatMap (qa1 (qa7 d aa v flex) ab false flex) ++ (qa1 (qa7 d aa v flex) ab false flex (Tree.mk ak al am ao ap)))]
   have bI:(qav flex (Fld.nul (Fld.mk ac af ag ae ah ai ab aa) v (Tree.mk n1 s2 b3 l4 u5)) ((qao l4).length) 4 ++ ((qao l4).take k).flatMap (qa1 (qa7 d aa v flex) ab false flex) ++ (qa1 (qa7 d aa v flex) ab false flex (Tree.mk ak al am ao ap))) = (qav flex (Fld.nul (Fld.mk ac af ag ae ah ai ab aa) v (Tree.mk n1 s2 b3 l4 u5)) ((qao l4).length) 4 ++ ((qao l4).take (k + 1)).flatMap (qa1 (qa7 d aa v flex) ab false flex)):=by rw [qdd aF,List.append_assoc]
   have c6:=congrArg (brow av aw 5) bI
   obtain ⟨da,db⟩:=cZ.rowEq 0 [brow av aw 5 (qav flex (z3 ac af ag ae ah ai ab aa v n1 s2 b3 l4 u5) ((qao l4).length) 4 ++ ((qao l4).take (k + 1)).flatMap (qa1 (qa7 d aa v flex) ab false flex))] c6
   rw [bI] at bh
   have dc:IntKind.i64.wrap (((k:Nat):Int) + 1) = ((k + 1:Nat):Int):=qaP (by omega)
   rw [dc] at bh
   exact ⟨(qao l4).length - (k + 1),by omega,k + 1,av,aw,rfl,by omega,bh.pk,da,((((((cH.trans cJ).trans bg).trans bG).trans bH).trans c5).trans db)⟩
  have eN:=of_decide_eq_false aQ
  refine wp_exit (qau (qau (qaL (qab (qar [(8,.v (.slice A_ ((qav flex (z3 ac af ag ae ah ai ab aa v n1 s2 b3 l4 u5) ((qao l4).length) 4 ++ ((qao l4).take k).flatMap (qa1 (qa7 d aa v flex) ab false flex)).length) c_))] ax aP fun fR de=>?_)))))
  refine wp_ret (qat (qaM de ax.cells (v:=.slice A_ ((qav flex (z3 ac af ag ae ah ai ab aa v n1 s2 b3 l4 u5) ((qao l4).length) 4 ++ ((qao l4).take k).flatMap (qa1 (qa7 d aa v flex) ab false flex)).length) c_) kz ?_))
  have hkk:(qao l4).take k = qao l4:=List.take_of_length_le (by omega)
  exact qbk ax (k:=0) rfl (by rw [hkk,qgL ‹_› ‹_›]; rfl)
 have eO:ac ≠ 11:=by simpa using bN
 refine wp_skip (qab (wp_seq (qae [0,1,2,3,4,5,6,7] kz ?_)))
 refine qaj [0,1,2,3] [4,5,6,7] [(1,.v (.int .i64 v)),(2,.v (.bool flex)),(4,.p 0 0),(7,.p 1 0),(9,.v (.bool (z3 ac af ag ae ah ai ab aa v n1 s2 b3 l4 u5))),(52,.v (.bool (ac == 10)))] aj bM fun fS bJ=>?_
 refine (Bool.eq_false_or_eq_true (ac == 10)).elim (fun aA=>?_) (fun aA=>?_)
 ·
  have eP:ac = 10:=by simpa using aA
  have df:=bJ
  rw [aA] at df
  refine qaj [4,5,6,7] [] [(1,.v (.int .i64 v)),(2,.v (.bool flex)),(4,.p 0 0),(7,.p 1 0),(9,.v (.bool (z3 ac af ag ae ah ai ab aa v n1 s2 b3 l4 u5))),(56,.v (.bool (decide (ae ≥ 0))))] aj df fun fT bi=>?_
  refine qaf (qab ?_)
  refine qaw bi (b:=decide (ae ≥ 0)) kz (fun bj=>?_) (fun bj=>?_)
  ·
   have eQ:=of_decide_eq_true bj
   refine wp_seq (qar [(1,.v (.int .i64 v)),(2,.v (.bool flex)),(4,.p 0 0),(7,.p 1 0),(57,.v (.bool (z3 ac af ag ae ah ai ab aa v n1 s2 b3 l4 u5)))] aj bi fun fU bk=>?_)
   refine qaw bk (b:=Fld.nul (Fld.mk ac af ag ae ah ai ab aa) v (Tree.mk n1 s2 b3 l4 u5)) kz (fun dg=>?_) (fun dg=>?_)
   ·
    refine qae [0,1] kz ?_
    refine qal (qak bk (f:=70) (vs:=[.int .i64 (-1),.int .i64 1]) (d:=58) kz Tryz.call70 (qfD (-1) 1 (by first | decide | exact qbE _ | omega) _) ?_)
    rintro e_ fV ⟨bS,bT,rfl,dh,di⟩
    refine ⟨_,rfl,fun fW dj=>?_⟩
    obtain ⟨bn,eR⟩:=aj.frFresh di (brow bS bT 5 (be 1 (-1))) (Nat.le_refl _) dh
    refine qaj [1] [] [(8,.v (.slice bS ((be 1 (-1)).length) bT))] bn dj fun fX dl=>?_
    refine qaf (qab ?_)
    refine wp_ret (qat (qat (qaM dl bn.cells (v:=.slice bS ((be 1 (-1)).length) bT) kz ?_)))
    exact qbk bn (k:=0) rfl (by first | rw [qdP ‹_› ‹_›] | rw [qdO ‹_› ‹_› ‹_›] | rw [qde ‹_› ‹_› ‹_› ‹_›] | rw [qdN ‹_› ‹_› ‹_› ‹_›])
   refine wp_skip (qab (qaE 8 kz aj fun fY eS dp dq=>?_))
   refine qaD [1,2,3,4,5] [(61,.v (.slice ay aa.length az)),(62,.v (.int .i64 v)),(63,.v (.bool flex)),(64,.v (.agg #[.int .i64 n1,.slice A6 s2.length c7,.bool b3,.slice A8 l4.length c9,.slice aK u5.length aL]))] 4 (qaa (qaa qad)) (fun _ h=>h.cells) dq bk fun fZ dr=>?_
   refine qan (i:=0) kz (qak dr (f:=70) (vs:=[.int .i64 1,.int .i64 1]) (d:=59) kz Tryz.call70 (qfD 1 1 (by first | decide | exact qbE _ | omega) _) ?_)
   rintro e_ f5 ⟨bz,bA,rfl,dt,du⟩
   refine ⟨_,rfl,fun f7 dv=>?_⟩
   obtain ⟨au,bo⟩:=dp.frFresh du (brow bz bA 5 (be 1 1)) (Nat.le_refl _) dt
   have dw:=TT.ofW bo au
   refine ⟨fun _=>dw,?_⟩
   refine qan (i:=6) kz (qak dv (f:=32) (vs:=[.slice ay aa.length az,.int .i64 v,.bool flex,.agg #[.int .i64 n1,.slice A6 s2.length c7,.bool b3,.slice A8 l4.length c9,.slice aK u5.length aL]]) (d:=65) kz Tryz.call32 (hp _ _ aa v flex _ (Tree.mk n1 s2 b3 l4 u5) _ _ ⟨bw,(b8.move au.step nilM au.imm),(fun i_ x_ h_=>((dV i_ x_ h_).move au.step nilM au.imm))⟩ hd (ht.move au.step nilM au.imm) (by have h9_:=hroom; rw [qde ‹_› ‹_› ‹_› ‹_›,List.length_append] at h9_; omega)) ?_)
   rintro e_ f8 ⟨bp,bq,rfl,dx,dy⟩
   refine ⟨_,rfl,fun f9 dz=>?_⟩
   obtain ⟨aI,bK⟩:=au.frFresh dy (brow bp bq 5 (qa7 d aa v flex (Tree.mk n1 s2 b3 l4 u5))) (Nat.le_refl _) dx
   have dA:=TT.ofW (bo.trans bK) aI
   refine ⟨fun _=>dA,?_⟩
   refine qan (i:=7) kz (qaT aI dz (k:=0) (d:=66) (t:=22) (e:=5) (size:=1) (bytes:=1) (A:=bz) (As:=bp) (m0:=((be 1 1).length)) (c:=bA) (m:=((qa7 d aa v flex (Tree.mk n1 s2 b3 l4 u5)).length)) (cs:=bq) (xs:=(bc (be 1 1))) (news:=bc (qa7 d aa v flex (Tree.mk n1 s2 b3 l4 u5))) kz kz rfl (qbu (aI.own 1 _ rfl) (qdq _)) (qbz (aI.own 1 _ rfl)) (by have h9_:=hroom; rw [qde ‹_› ‹_› ‹_› ‹_›,List.length_append] at h9_; omega) fun aC aD ga gb dB dC dD=>?_)
   have dE:(⟨aC,aD,5,1,(be 1 1).length + (qa7 d aa v flex (Tree.mk n1 s2 b3 l4 u5)).length,bc (be 1 1) ++ bc (qa7 d aa v flex (Tree.mk n1 s2 b3 l4 u5))⟩:Rw) = brow aC aD 5 (be 1 1 ++ (qa7 d aa v flex (Tree.mk n1 s2 b3 l4 u5))):=qb5 (rfl) rfl
   obtain ⟨aJ,dF⟩:=dC.rowEq 0 [brow aC aD 5 (be 1 1 ++ (qa7 d aa v flex (Tree.mk n1 s2 b3 l4 u5))),brow bp bq 5 (qa7 d aa v flex (Tree.mk n1 s2 b3 l4 u5))] dE
   have dG:=EnvOk.pick dD (ks:=[61,62,63,64,59,65,66]) (env':=[(61,.v (.slice ay aa.length az)),(62,.v (.int .i64 v)),(63,.v (.bool flex)),(64,.v (.agg #[.int .i64 n1,.slice A6 s2.length c7,.bool b3,.slice A8 l4.length c9,.slice aK u5.length aL])),(59,.v (.slice bz ((be 1 1).length) bA)),(65,.v (.slice bp ((qa7 d aa v flex (Tree.mk n1 s2 b3 l4 u5)).length) bq)),(66,.v (.slice aC ((be 1 1).length + (qa7 d aa v flex (Tree.mk n1 s2 b3 l4 u5)).length) aD))]) kz
   have dH:=dG.cast (env':=[(61,.v (.slice ay aa.length az)),(62,.v (.int .i64 v)),(63,.v (.bool flex)),(64,.v (.agg #[.int .i64 n1,.slice A6 s2.length c7,.bool b3,.slice A8 l4.length c9,.slice aK u5.length aL])),(59,.v (.slice bz ((be 1 1).length) bA)),(65,.v (.slice bp ((qa7 d aa v flex (Tree.mk n1 s2 b3 l4 u5)).length) bq)),(66,.v (.slice aC ((be 1 1 ++ (qa7 d aa v flex (Tree.mk n1 s2 b3 l4 u5))).length) aD))]) (by simp only [List.length_append,List.length_cons,List.length_nil,Nat.zero_add])
   have dI:=TT.ofW (((bo.trans bK).trans dB).trans dF) aJ
   refine ⟨fun _=>dI,?_⟩
   refine qan (i:=8) kz (qbd [8] aJ.cells dH (env':=[(8,.v (.slice aC ((be 1 1 ++ (qa7 d aa v flex (Tree.mk n1 s2 b3 l4 u5))).length) aD))]) kz fun gc dJ=>?_)
   refine ⟨fun h=>absurd rfl h,?_⟩
   refine qaC kz ?_ _
   refine qab (wp_ret (qat (qaM dJ aJ.cells (v:=.slice aC ((be 1 1 ++ (qa7 d aa v flex (Tree.mk n1 s2 b3 l4 u5))).length) aD) kz ?_)))
   exact qbk aJ (k:=0) rfl (by first | rw [qdP ‹_› ‹_›] | rw [qdO ‹_› ‹_› ‹_›] | rw [qde ‹_› ‹_› ‹_› ‹_›] | rw [qdN ‹_› ‹_› ‹_› ‹_›])
  have eU:=of_decide_eq_false bj
  refine wp_skip (qab (qae [0,1,2,3,4,5,6,7,8,9] kz ?_))
  refine qaj [0,1,2,3,4,5,6,7] [8,9] [(68,.v (.int .i64 ac)),(70,.v (.slice ay aa.length az)),(71,.v (.bool (z3 ac af ag ae ah ai ab aa v n1 s2 b3 l4 u5))),(72,.v (.int .i64 v)),(73,.v (.bool flex)),(74,.v (.agg #[.int .i64 n1,.slice A6 s2.length c7,.bool b3,.slice A8 l4.length c9,.slice aK u5.length aL]))] aj bi fun gd dK=>?_
  refine qal (qak dK (f:=107) (vs:=[.int .i64 ac,.slice ay aa.length az,.bool (Fld.nul (Fld.mk ac af ag ae ah ai ab aa) v (Tree.mk n1 s2 b3 l4 u5)),.int .i64 v,.bool flex,.agg #[.int .i64 n1,.slice A6 s2.length c7,.bool b3,.slice A8 l4.length c9,.slice aK u5.length aL]]) (d:=75) kz Tryz.call107 (qjr hp ac _ _ aa (Fld.nul (Fld.mk ac af ag ae ah ai ab aa) v (Tree.mk n1 s2 b3 l4 u5)) v flex _ (Tree.mk n1 s2 b3 l4 u5) _ _ ⟨bw,(b8.move aj.step nilM aj.imm),(fun i_ x_ h_=>((dV i_ x_ h_).move aj.step nilM aj.imm))⟩ hd (ht.move aj.step nilM aj.imm) (by have h_:=hroom; (first | rw [qdP ‹_› ‹_›] at h_ | rw [qdO ‹_› ‹_› ‹_›] at h_); exact h_)) ?_)
  rintro e_ ge ⟨bU,bV,rfl,dL,dM⟩
  refine ⟨_,rfl,fun gg dN=>?_⟩
  obtain ⟨bt,eV⟩:=aj.frFresh dM (brow bU bV 5 (qa1 (qa7 d aa v flex) ac (z3 ac af ag ae ah ai ab aa v n1 s2 b3 l4 u5) flex (Tree.mk n1 s2 b3 l4 u5))) (Nat.le_refl _) dL
  refine qaj [9] [] [(8,.v (.slice bU ((qa1 (qa7 d aa v flex) ac (z3 ac af ag ae ah ai ab aa v n1 s2 b3 l4 u5) flex (Tree.mk n1 s2 b3 l4 u5)).length) bV))] bt dN fun gh dO=>?_
  refine qaf (qab ?_)
  refine wp_ret (qaM dO bt.cells (v:=.slice bU ((qa1 (qa7 d aa v flex) ac (z3 ac af ag ae ah ai ab aa v n1 s2 b3 l4 u5) flex (Tree.mk n1 s2 b3 l4 u5)).length) bV) kz ?_)
  exact qbk bt (k:=0) rfl (by first | rw [qdP ‹_› ‹_›] | rw [qdO ‹_› ‹_› ‹_›] | rw [qde ‹_› ‹_› ‹_› ‹_›] | rw [qdN ‹_› ‹_› ‹_› ‹_›])
 have eW:ac ≠ 10:=by simpa using aA
 have dP:=bJ.cast (env':=[(1,.v (.int .i64 v)),(2,.v (.bool flex)),(4,.p 0 0),(7,.p 1 0),(9,.v (.bool (Fld.nul (Fld.mk ac af ag ae ah ai ab aa) v (Tree.mk n1 s2 b3 l4 u5)))),(52,.v (.bool false))]) (by rw [aA])
 refine qaj [4,5,6,7] [] [(1,.v (.int .i64 v)),(2,.v (.bool flex)),(4,.p 0 0),(7,.p 1 0),(9,.v (.bool (z3 ac af ag ae ah ai ab aa v n1 s2 b3 l4 u5))),(56,.v (.bool false))] aj dP fun gi bL=>?_
 refine qaf (qab ?_)
 refine qam bL (b:=false) kz rfl ?_
 refine wp_skip (qab (qae [0,1,2,3,4,5,6,7,8,9] kz ?_))
 refine qaj [0,1,2,3,4,5,6,7] [8,9] [(68,.v (.int .i64 ac)),(70,.v (.slice ay aa.length az)),(71,.v (.bool (z3 ac af ag ae ah ai ab aa v n1 s2 b3 l4 u5))),(72,.v (.int .i64 v)),(73,.v (.bool flex)),(74,.v (.agg #[.int .i64 n1,.slice A6 s2.length c7,.bool b3,.slice A8 l4.length c9,.slice aK u5.length aL]))] aj bL fun gj dQ=>?_
 refine qal (qak dQ (f:=107) (vs:=[.int .i64 ac,.slice ay aa.length az,.bool (Fld.nul (Fld.mk ac af ag ae ah ai ab aa) v (Tree.mk n1 s2 b3 l4 u5)),.int .i64 v,.bool flex,.agg #[.int .i64 n1,.slice A6 s2.length c7,.bool b3,.slice A8 l4.length c9,.slice aK u5.length aL]]) (d:=75) kz Tryz.call107 (qjr hp ac _ _ aa (Fld.nul (Fld.mk ac af ag ae ah ai ab aa) v (Tree.mk n1 s2 b3 l4 u5)) v flex _ (Tree.mk n1 s2 b3 l4 u5) _ _ ⟨bw,(b8.move aj.step nilM aj.imm),(fun i_ x_ h_=>((dV i_ x_ h_).move aj.step nilM aj.imm))⟩ hd (ht.move aj.step nilM aj.imm) (by have h_:=hroom; (first | rw [qdP ‹_› ‹_›] at h_ | rw [qdO ‹_› ‹_› ‹_›] at h_); exact h_)) ?_)
 rintro e_ gk ⟨bW,bX,rfl,dR,dS⟩
 refine ⟨_,rfl,fun gl dT=>?_⟩
 obtain ⟨bu,eX⟩:=aj.frFresh dS (brow bW bX 5 (qa1 (qa7 d aa v flex) ac (z3 ac af ag ae ah ai ab aa v n1 s2 b3 l4 u5) flex (Tree.mk n1 s2 b3 l4 u5))) (Nat.le_refl _) dR
 refine qaj [9] [] [(8,.v (.slice bW ((qa1 (qa7 d aa v flex) ac (z3 ac af ag ae ah ai ab aa v n1 s2 b3 l4 u5) flex (Tree.mk n1 s2 b3 l4 u5)).length) bX))] bu dT fun gm dU=>?_
 refine qaf (qab ?_)
 refine wp_ret (qaM dU bu.cells (v:=.slice bW ((qa1 (qa7 d aa v flex) ac (z3 ac af ag ae ah ai ab aa v n1 s2 b3 l4 u5) flex (Tree.mk n1 s2 b3 l4 u5)).length) bX) kz ?_)
 exact qbk bu (k:=0) rfl (by first | rw [qdP ‹_› ‹_›] | rw [qdO ‹_› ‹_› ‹_›] | rw [qde ‹_› ‹_› ‹_› ‹_›] | rw [qdN ‹_› ‹_› ‹_› ‹_›])
abbrev z61 (x0) (x1) (x2) (x3):=([.int .u32 x0,.slice x1 x2 x3]:List Value)
theorem qgp (Af:Option Addr) (cf:Nat) (l:List Fld) (A:Option Addr) (c:Nat) (u:List (Int × Bs)) (w:World) (F:Nat → Nat → Prop) (hl:FldsR w F Af cf l) (hu:TagsR w F A c u) :
  Calls Tryz.prog 38 #[.slice Af l.length cf,.slice A u.length c] w (qkt w F (qai l u)):=by
 obtain ⟨xf,hf1,hf2⟩:=hl.ex
 obtain ⟨xu,hu1,hu2⟩:=hu.ex
 have hsmu:=hu1.small
 have hule:(u.take 32767).length ≤ 32767:=by rw [List.length_take]; omega
 refine enter (n:=85) Tryz.func38 rfl Tryz.ntmps38 kz fun a hE=>?_
 have hW:=WOk.start w Nil
 refine qar [(0,.v (.slice Af l.length cf)),(1,.v (.slice A u.length c))] hW hE fun a1 hE2=>?_
 refine qae [0,1,2] kz ?_
 refine qaj [0] [1,2] [(1,.v (.slice A u.length c)),(11,.v (.slice Af l.length cf))] hW hE2 fun a3 hE4=>?_
 refine qal (qak hE4 (f:=68) (vs:=[.slice Af l.length cf]) (d:=12) kz Tryz.call68 (qkz _ _ l _ _ ⟨xf,(hf1.move hW.step nilM hW.imm),(fun i_ x_ h_=>((hf2 i_ x_ h_).move hW.step nilM hW.imm))⟩) ?_)
 rintro e_ w6 ⟨rfl,hs5⟩
 refine ⟨_,rfl,fun a7 hE8=>?_⟩
 have hW9:=hW.next_nil hs5
 have fC:=hW.frN hs5
 refine qaj [2] [] [(1,.v (.slice A u.length c)),(5,.v (.int .u32 (qaB l)))] hW9 hE8 fun hZ eF=>?_
 refine qaf (qab ?_)
 refine qar [(1,.v (.slice A u.length c)),(5,.v (.int .u32 (qaB l))),(6,.v (.slice none 0 0))] hW9 eF fun ia eG=>?_
 refine wp_seq (qae [0,1,2,3,4,5,6] kz ?_)
 refine qaj [0,1,2,3] [4,5,6] [(5,.v (.int .u32 (qaB l))),(6,.v (.slice none 0 0)),(13,.v (.slice A u.length c)),(16,.v (.int .i64 (if 32767 < ((u.length:Nat):Int) then 32767 else ((u.length:Nat):Int))))] hW9 eG fun ib eH=>?_
 refine qal (qdj eH (t:=24) (A:=A) (m:=u.length) (cp:=c) (q:=(if 32767 < ((u.length:Nat):Int) then 32767 else ((u.length:Nat):Int))) (d:=17) (j:=(u.take 32767).length) kz (e:=66) (size:=2) (bytes:=32) kz (by simpa using qhe u.length) (by rw [List.length_take]; have:=hu1.le; omega) fun ic eI=>?_)
 refine qaj [5,6] [] [(5,.v (.int .u32 (qaB l))),(6,.v (.slice none 0 0)),(17,.v (.slice A ((u.take 32767).length) c)),(18,.v (.int .i64 (((u.take 32767).length:Nat):Int))),(19,.v (.int .i64 0))] hW9 eI fun ig eJ=>?_
 refine qaf (qab ?_)
 refine wp_block ?_
 have cK:=hW9.addNil 66 2
 have fD:=hW9.frNil 66 2
 refine wp_loop_ghost (fun n_ a_ w_=>∃ (k:Nat) (A_:Option Addr) (c_:Nat) (out:List (Int × Bs)) (css:List (List Value)),n_ = (u.take 32767).length - k ∧ k ≤ (u.take 32767).length ∧ (TagsE w_ (Imm F w w_ [] [⟨A_,c_,66,2,out.length,css.flatten⟩]) out css) ∧ (out = ((u.take 32767).take k).foldl (qbY (qaB l)) []) ∧ (out.length ≤ k) ∧ LInv cK 85 [] [⟨A_,c_,66,2,out.length,css.flatten⟩] [(5,.v (.int .u32 (qaB l))),(6,.v (.slice A_ out.length c_)),(17,.v (.slice A ((u.take 32767).length) c)),(18,.v (.int .i64 (((u.take 32767).length:Nat):Int))),(19,.v (.int .i64 ((k:Nat):Int)))] a_ w_) ((u.take 32767).length) ⟨0,none,0,[],[],by omega,by omega,TagsE.nil _ _,rfl,Nat.zero_le _,eJ.pk,cK,Fr.refl _ _ _⟩ ?_
 rintro ii ij ik ⟨k,A_,c_,out,css,fE,fF,hT,hout,hlen,eK,aO,aR⟩
 refine qar [(5,.v (.int .u32 (qaB l))),(6,.v (.slice A_ out.length c_)),(17,.v (.slice A ((u.take 32767).length) c)),(18,.v (.int .i64 (((u.take 32767).length:Nat):Int))),(19,.v (.int .i64 ((k:Nat):Int))),(20,.v (.bool (decide (((k:Nat):Int) < (((u.take 32767).length:Nat):Int)))))] aO eK fun il cC=>?_
 refine wp_seq (qaw cC (b:=decide (((k:Nat):Int) < (((u.take 32767).length:Nat):Int))) kz (fun cD=>?_) (fun cD=>?_))
 ·
  have fG:=of_decide_eq_true cD
  refine wp_skip (qab (wp_seq (wp_block (qae [0,1,2,3] kz ?_))))
  obtain ⟨fH,fI,eL,fJ,bF⟩:=Slots.get (qft hu1 32767) (i:=k) (by omega)
  obtain ⟨⟨al,ax⟩,aP⟩:∃ x,(u.take 32767)[k]? = some x:=⟨_,List.getElem?_eq_getElem (by omega)⟩
  obtain ⟨⟨aI,aJ,cL,cM⟩,fb,fe⟩:=(qfN hu2 32767) k al ax aP
  rw [cL] at bF
  refine qal (qax cC (t:=24) (A:=A) (m:=((u.take 32767).length)) (q:=((k:Nat):Int)) (d:=21) kz (e:=66) (size:=2) (bytes:=32) kz eL rfl (by omega) fun im eM=>?_)
  refine qal (qaU eM (t:=66) (b:=fH) (o:=fI + k * 2) (d:=22) kz (cs:=(z61 al aI ax.length aJ)) (v:=.agg #[.int .u32 al,.slice aI ax.length aJ]) kz (AtF.move bF aO.step nilM qbb).at_ fun io eN=>?_)
  refine qal (qaS aO eN (d:=8) (cs:=[.int .u32 0,.slice none 0 0]) kz fun eO ip iq fK fL ac eP eQ=>?_)
  refine qal (qap eP eQ (oi:=0) (cs:=(z61 al aI ax.length aJ)) kz fun ir ae cE eR=>?_)
  refine qaf (qab ?_)
  refine qar [(5,.v (.int .u32 (qaB l))),(6,.v (.slice A_ out.length c_)),(8,.p 0 0),(9,.v (.int .i64 0)),(17,.v (.slice A ((u.take 32767).length) c)),(18,.v (.int .i64 (((u.take 32767).length:Nat):Int))),(19,.v (.int .i64 ((k:Nat):Int)))] cE eR fun iu eS=>?_
  refine wp_seq (wp_block (wp_loop_ghost (fun n_ a_ w_=>∃ (i:Nat),n_ = out.length - i ∧ (i ≤ out.length) ∧ (∀ q,q < i → (out.getD q (0,[])).1 < al) ∧ LInv cE 85 [⟨eO,0,[.int .u32 al,.slice aI ax.length aJ],true⟩] [⟨A_,c_,66,2,out.length,css.flatten⟩] [(5,.v (.int .u32 (qaB l))),(6,.v (.slice A_ out.length c_)),(8,.p 0 0),(9,.v (.int .i64 ((i:Nat):Int))),(17,.v (.slice A ((u.take 32767).length) c)),(18,.v (.int .i64 (((u.take 32767).length:Nat):Int))),(19,.v (.int .i64 ((k:Nat):Int)))] a_ w_) (out.length - 0) ⟨0,rfl,Nat.zero_le _,fun q h_=>absurd h_ (Nat.not_lt_zero q),eS.pk,cE,Fr.refl _ _ _⟩ ?_))
  rintro iv iw ix ⟨i,fM,hi,hlt,eU,eV,aa⟩
  refine wp_seq (qcb kz eV fun iy ab aB=>?_)
  refine qaD [0,1,2,3,4] [(5,.v (.int .u32 (qaB l))),(6,.v (.slice A_ out.length c_)),(8,.p 0 0),(9,.v (.int .i64 ((i:Nat):Int))),(17,.v (.slice A ((u.take 32767).length) c)),(18,.v (.int .i64 (((u.take 32767).length:Nat):Int))),(19,.v (.int .i64 ((k:Nat):Int))),(27,.v (.bool (decide (((i:Nat):Int) < ((out.length:Nat):Int)))))] 9 (qaa (qaa (qaa (qac (qaa (qac (qaa (qaa (qac (qaa qad)))))))))) (fun _ h=>h ▸ aB.cells) rfl eU fun iz cN=>?_
  refine (Bool.eq_false_or_eq_true (decide (((i:Nat):Int) < ((out.length:Nat):Int)))).elim (fun aN=>?_) (fun aN=>?_)
  ·
   have fN:=of_decide_eq_true aN
   have eW:=cN
   rw [aN] at eW
   refine qaD [5,6,10,11] [(5,.v (.int .u32 (qaB l))),(6,.v (.slice A_ out.length c_)),(8,.p 0 0),(9,.v (.int .i64 ((i:Nat):Int))),(17,.v (.slice A ((u.take 32767).length) c)),(18,.v (.int .i64 (((u.take 32767).length:Nat):Int))),(19,.v (.int .i64 ((k:Nat):Int))),(27,.v (.bool true)),(28,.v (.slice A_ out.length c_)),(29,.v (.int .i64 ((i:Nat):Int))),(34,.v (.int .u32 al))] 5 (qaa (qaa (qaa (qac (qaa (qac (qaa (qaa (qac (qaa qad)))))))))) (fun _ h=>h ▸ aB.cells) rfl eW fun iA eX=>?_
   obtain ⟨eY,cO⟩:=qbS (aB.own 0 _ rfl) (show 0 < out.length by omega)
   obtain ⟨⟨eE,iB⟩,bu⟩:∃ x,out[i]? = some x:=⟨_,List.getElem?_eq_getElem (by omega)⟩
   obtain ⟨iC,iD,eZ,fO,iE,iF⟩:=TagsE.get2 (hT.move (((ac.trans ae).trans aa).trans ab).step immM (((ac.trans ae).trans aa).trans ab).to') bu
   have cP:=qhC (aB.own 0 _ rfl) cO (qdS (hT.move (((ac.trans ae).trans aa).trans ab).step immM (((ac.trans ae).trans aa).trans ab).to').two eZ)
   refine qaJ eX (i:=7) (t:=24) (A:=A_) (m:=out.length) (q:=((i:Nat):Int)) (d:=30) kz (e:=66) (size:=2) (bytes:=32) kz (b:=eY) (o:=0) (j:=i) cO (rfl) (by omega) kz kz (qaa (qaa (qaa (qac (qaa (qac (qaa (qaa (qac (qaa qad)))))))))) rfl fun iG e9=>?_
   refine qaD [8] [(5,.v (.int .u32 (qaB l))),(6,.v (.slice A_ out.length c_)),(8,.p 0 0),(9,.v (.int .i64 ((i:Nat):Int))),(17,.v (.slice A ((u.take 32767).length) c)),(18,.v (.int .i64 (((u.take 32767).length:Nat):Int))),(19,.v (.int .i64 ((k:Nat):Int))),(27,.v (.bool true)),(31,.v (.pointer (some ⟨eY,0 + i * 2,none⟩))),(34,.v (.int .u32 al))] 3 (qaa (qaa (qaa (qac (qaa (qac (qaa (qaa (qac (qaa qad)))))))))) (fun _ h=>h ▸ aB.cells) rfl e9 fun iH fa=>?_
   refine qa6 fa (i:=9) (t:=64) (b:=eY) (o:=0 + i * 2) (d:=32) kz (cs:=[.int .u32 eE]) (v:=.int .u32 eE) kz (fun w' h'=>h' ▸ (At.drop cP 0 1)) kz kz (qaa (qaa (qaa (qac (qaa (qac (qaa (qaa (qac (qaa qad)))))))))) rfl fun fP cQ=>?_
   refine qaD [12,13] [(5,.v (.int .u32 (qaB l))),(6,.v (.slice A_ out.length c_)),(8,.p 0 0),(9,.v (.int .i64 ((i:Nat):Int))),(17,.v (.slice A ((u.take 32767).length) c)),(18,.v (.int .i64 (((u.take 32767).length:Nat):Int))),(19,.v (.int .i64 ((k:Nat):Int))),(36,.v (.bool (decide (eE < al))))] 0 (qaa (qaa (qaa (qac (qaa (qac (qaa (qaa (qac (qaa qad)))))))))) (fun _ h=>h ▸ aB.cells) rfl cQ fun fQ aS=>?_
   refine qaC kz ?_ _
   refine qab (qaw aS (b:=decide (eE < al)) kz (fun aT=>?_) (fun aT=>?_))
   ·
    have ff:=of_decide_eq_true aT
    refine wp_skip (qab (wp_block (qaq [0,1,2] kz ?_)))
    refine qaj [0,1,2] [] [(5,.v (.int .u32 (qaB l))),(6,.v (.slice A_ out.length c_)),(8,.p 0 0),(9,.v (.int .i64 (IntKind.i64.wrap (((i:Nat):Int) + 1)))),(17,.v (.slice A ((u.take 32767).length) c)),(18,.v (.int .i64 (((u.take 32767).length:Nat):Int))),(19,.v (.int .i64 ((k:Nat):Int)))] aB aS fun fR bG=>?_
    refine qaf (qas (qab ?_))
    have cR:IntKind.i64.wrap (((i:Nat):Int) + 1) = ((i + 1:Nat):Int):=qaP (by omega)
    rw [cR] at bG
    exact ⟨out.length - (i + 1),by omega,(i + 1),rfl,by omega,fun q hq=>by rcases Nat.lt_succ_iff_lt_or_eq.1 hq with h_ | h_; exact hlt q h_; rw [h_,qi1 bu]; assumption,bG.pk,aB,(aa.trans ab)⟩
   have fg:=of_decide_eq_false aT
   refine wp_exit (qau (qau (qaL (qab (wp_seq (qcb kz aB fun fS af ap=>?_))))))
   refine qaD [0,1,2,3,4] [(5,.v (.int .u32 (qaB l))),(6,.v (.slice A_ out.length c_)),(8,.p 0 0),(9,.v (.int .i64 ((i:Nat):Int))),(17,.v (.slice A ((u.take 32767).length) c)),(18,.v (.int .i64 (((u.take 32767).length:Nat):Int))),(19,.v (.int .i64 ((k:Nat):Int))),(43,.v (.bool (decide (al < (qaB l)))))] 15 (qaa (qaa (qac (qaa (qaa (qac (qaa qad))))))) (fun _ h=>h ▸ ap.cells) rfl aS fun fT bH=>?_
   refine (Bool.eq_false_or_eq_true (decide (al < (qaB l)))).elim (fun aK=>?_) (fun aK=>?_)
   ·
    have fh:=of_decide_eq_true aK
    have cS:=bH
    rw [aK] at cS
    refine qaD [5,6,7,8,9,10,11,12,13,14,15,16,17,18,19] [(5,.v (.int .u32 (qaB l))),(6,.v (.slice A_ out.length c_)),(8,.p 0 0),(9,.v (.int .i64 ((i:Nat):Int))),(17,.v (.slice A ((u.take 32767).length) c)),(18,.v (.int .i64 (((u.take 32767).length:Nat):Int))),(19,.v (.int .i64 ((k:Nat):Int))),(58,.v (.bool true))] 0 (qaa (qaa (qac (qaa (qaa (qac (qaa qad))))))) (fun _ h=>h ▸ ap.cells) rfl cS fun fU bI=>?_
    refine qaC kz ?_ _
    refine qab (qa4 bI (b:=true) kz rfl ?_)
    refine wp_exit (qau (qaL (qab (qaq [0,1] kz ?_))))
    refine qaj [0,1] [] [(5,.v (.int .u32 (qaB l))),(6,.v (.slice A_ out.length c_)),(17,.v (.slice A ((u.take 32767).length) c)),(18,.v (.int .i64 (((u.take 32767).length:Nat):Int))),(19,.v (.int .i64 (IntKind.i64.wrap (((k:Nat):Int) + 1))))] ap bI fun fV cT=>?_
    refine qaf (qab ?_)
    obtain ⟨bJ,cU,aU⟩:=ap.cutB cT 0 [] [(5,.v (.int .u32 (qaB l))),(6,.v (.slice A_ out.length c_)),(17,.v (.slice A ((u.take 32767).length) c)),(18,.v (.int .i64 (((u.take 32767).length:Nat):Int))),(19,.v (.int .i64 (IntKind.i64.wrap (((k:Nat):Int) + 1))))]
    have cV:IntKind.i64.wrap (((k:Nat):Int) + 1) = ((k + 1:Nat):Int):=qaP (by omega)
    rw [cV] at bJ
    exact ⟨(u.take 32767).length - (k + 1),by omega,k + 1,A_,c_,out,css,rfl,by omega,(hT.move (((((ac.trans ae).trans aa).trans ab).trans af).trans aU).step immM (((((ac.trans ae).trans aa).trans ab).trans af).trans aU).to'),by rw [qcc aP,← hout]; exact (qi2 ‹_›).symm,by omega,bJ.pk,cU,((((((aR.trans ac).trans ae).trans aa).trans ab).trans af).trans aU)⟩
   have fi:=of_decide_eq_false aK
   have cW:=bH
   rw [aK] at cW
   refine qaD [5,6,7,8,9] [(5,.v (.int .u32 (qaB l))),(6,.v (.slice A_ out.length c_)),(8,.p 0 0),(9,.v (.int .i64 ((i:Nat):Int))),(17,.v (.slice A ((u.take 32767).length) c)),(18,.v (.int .i64 (((u.take 32767).length:Nat):Int))),(19,.v (.int .i64 ((k:Nat):Int))),(43,.v (.bool false)),(48,.v (.bool (decide (((i:Nat):Int) < ((out.length:Nat):Int)))))] 10 (qaa (qaa (qac (qaa (qaa (qac (qaa qad))))))) (fun _ h=>h ▸ ap.cells) rfl cW fun fW cX=>?_
   have cY:(decide (((i:Nat):Int) < ((out.length:Nat):Int))) = true:=aN
   have cZ:=cX
   rw [cY] at cZ
   refine qaD [10,11,15,16] [(5,.v (.int .u32 (qaB l))),(6,.v (.slice A_ out.length c_)),(8,.p 0 0),(9,.v (.int .i64 ((i:Nat):Int))),(17,.v (.slice A ((u.take 32767).length) c)),(18,.v (.int .i64 (((u.take 32767).length:Nat):Int))),(19,.v (.int .i64 ((k:Nat):Int))),(43,.v (.bool false)),(48,.v (.bool true)),(49,.v (.slice A_ out.length c_)),(50,.v (.int .i64 ((i:Nat):Int))),(55,.v (.int .u32 al))] 6 (qaa (qaa (qac (qaa (qaa (qac (qaa qad))))))) (fun _ h=>h ▸ ap.cells) rfl cZ fun fX c5=>?_
   obtain ⟨cG,bK⟩:=qbS (ap.own 0 _ rfl) (show 0 < out.length by omega)
   obtain ⟨⟨aQ,fY⟩,aL⟩:∃ x,out[i]? = some x:=⟨_,List.getElem?_eq_getElem (by omega)⟩
   obtain ⟨fZ,f5,c6,fj,f7,f8⟩:=TagsE.get2 (hT.move ((((ac.trans ae).trans aa).trans ab).trans af).step immM ((((ac.trans ae).trans aa).trans ab).trans af).to') aL
   have cH:=qhC (ap.own 0 _ rfl) bK (qdS (hT.move ((((ac.trans ae).trans aa).trans ab).trans af).step immM ((((ac.trans ae).trans aa).trans ab).trans af).to').two c6)
   refine qaJ c5 (i:=12) (t:=24) (A:=A_) (m:=out.length) (q:=((i:Nat):Int)) (d:=51) kz (e:=66) (size:=2) (bytes:=32) kz (b:=cG) (o:=0) (j:=i) bK (rfl) (by omega) kz kz (qaa (qaa (qac (qaa (qaa (qac (qaa qad))))))) rfl fun f9 da=>?_
   refine qaD [13] [(5,.v (.int .u32 (qaB l))),(6,.v (.slice A_ out.length c_)),(8,.p 0 0),(9,.v (.int .i64 ((i:Nat):Int))),(17,.v (.slice A ((u.take 32767).length) c)),(18,.v (.int .i64 (((u.take 32767).length:Nat):Int))),(19,.v (.int .i64 ((k:Nat):Int))),(43,.v (.bool false)),(48,.v (.bool true)),(52,.v (.pointer (some ⟨cG,0 + i * 2,none⟩))),(55,.v (.int .u32 al))] 4 (qaa (qaa (qac (qaa (qaa (qac (qaa qad))))))) (fun _ h=>h ▸ ap.cells) rfl da fun ga db=>?_
   refine qa6 db (i:=14) (t:=64) (b:=cG) (o:=0 + i * 2) (d:=53) kz (cs:=[.int .u32 aQ]) (v:=.int .u32 aQ) kz (fun w' h'=>h' ▸ (At.drop cH 0 1)) kz kz (qaa (qaa (qac (qaa (qaa (qac (qaa qad))))))) rfl fun gb dc=>?_
   refine qaD [17,18,19] [(5,.v (.int .u32 (qaB l))),(6,.v (.slice A_ out.length c_)),(8,.p 0 0),(9,.v (.int .i64 ((i:Nat):Int))),(17,.v (.slice A ((u.take 32767).length) c)),(18,.v (.int .i64 (((u.take 32767).length:Nat):Int))),(19,.v (.int .i64 ((k:Nat):Int))),(58,.v (.bool (aQ == al)))] 0 (qaa (qaa (qac (qaa (qaa (qac (qaa qad))))))) (fun _ h=>h ▸ ap.cells) rfl dc fun gc aV=>?_
   refine qaC kz ?_ _
   refine qab (qaw aV (b:=aQ == al) kz (fun aW=>?_) (fun aW=>?_))
   ·
    have fk:aQ = al:=by simpa using aW
    refine wp_exit (qau (qaL (qab (qaq [0,1] kz ?_))))
    refine qaj [0,1] [] [(5,.v (.int .u32 (qaB l))),(6,.v (.slice A_ out.length c_)),(17,.v (.slice A ((u.take 32767).length) c)),(18,.v (.int .i64 (((u.take 32767).length:Nat):Int))),(19,.v (.int .i64 (IntKind.i64.wrap (((k:Nat):Int) + 1))))] ap aV fun gd de=>?_
    refine qaf (qab ?_)
    obtain ⟨bL,df,aX⟩:=ap.cutB de 0 [] [(5,.v (.int .u32 (qaB l))),(6,.v (.slice A_ out.length c_)),(17,.v (.slice A ((u.take 32767).length) c)),(18,.v (.int .i64 (((u.take 32767).length:Nat):Int))),(19,.v (.int .i64 (IntKind.i64.wrap (((k:Nat):Int) + 1))))]
    have dg:IntKind.i64.wrap (((k:Nat):Int) + 1) = ((k + 1:Nat):Int):=qaP (by omega)
    rw [dg] at bL
    exact ⟨(u.take 32767).length - (k + 1),by omega,k + 1,A_,c_,out,css,rfl,by omega,(hT.move (((((ac.trans ae).trans aa).trans ab).trans af).trans aX).step immM (((((ac.trans ae).trans aa).trans ab).trans af).trans aX).to'),by rw [qcc aP,← hout]; exact (qj2 (qfs hi hlt (fun _=>by rw [qdT aL]; omega)) (by omega) (by rw [qdT aL]; omega)).symm,by omega,bL.pk,df,((((((aR.trans ac).trans ae).trans aa).trans ab).trans af).trans aX)⟩
   have fm:aQ ≠ al:=by simpa using aW
   refine wp_skip (qab (qae [0,1,2,3,4] kz ?_))
   refine qaj [0,1] [2,3,4] [(5,.v (.int .u32 (qaB l))),(8,.p 0 0),(9,.v (.int .i64 ((i:Nat):Int))),(17,.v (.slice A ((u.take 32767).length) c)),(18,.v (.int .i64 (((u.take 32767).length:Nat):Int))),(19,.v (.int .i64 ((k:Nat):Int))),(59,.v (.slice A_ out.length c_)),(60,.v (.agg #[.int .u32 0,.slice none 0 0]))] ap aV fun ge dh=>?_
   refine qcI ap dh (k:=0) (e:=66) (size:=2) (len:=1) (cs:=[.int .u32 0,.slice none 0 0]) (d1:=61) (d:=62) kz (t:=24) (bytes:=32) kz (fun _=>by kernel_rfl) rfl kz (by omega) fun ag ai gg gh am aY ⟨_,di⟩=>?_
   refine qaj [4] [] [(5,.v (.int .u32 (qaB l))),(6,.v (.slice ag (out.length + 1) ai)),(8,.p 0 0),(9,.v (.int .i64 ((i:Nat):Int))),(17,.v (.slice A ((u.take 32767).length) c)),(18,.v (.int .i64 (((u.take 32767).length:Nat):Int))),(19,.v (.int .i64 ((k:Nat):Int)))] aY di fun gi dj=>?_
   refine qaf (qab ?_)
   refine wp_seq (qar [(5,.v (.int .u32 (qaB l))),(6,.v (.slice ag (out.length + 1) ai)),(8,.p 0 0),(9,.v (.int .i64 ((i:Nat):Int))),(10,.v (.int .i64 (IntKind.i64.wrap (((out.length + 1:Nat):Int) - 1)))),(17,.v (.slice A ((u.take 32767).length) c)),(18,.v (.int .i64 (((u.take 32767).length:Nat):Int))),(19,.v (.int .i64 ((k:Nat):Int)))] aY dj fun gj bM=>?_)
   refine wp_block ?_
   have hcl0:=(hT.move (((((ac.trans ae).trans aa).trans ab).trans af).trans am).step immM (((((ac.trans ae).trans aa).trans ab).trans af).trans am).to').len
   have dl:(⟨ag,ai,66,2,out.length + 1,css.flatten ++ [.int .u32 0,.slice none 0 0]⟩:Rw) = ⟨ag,ai,66,2,out.length + 1,(qbX css [.int .u32 0,.slice none 0 0] out.length).flatten⟩:=by rw [qhD hcl0]
   obtain ⟨bN,av⟩:=aY.rowEq 0 [⟨ag,ai,66,2,out.length + 1,(qbX css [.int .u32 0,.slice none 0 0] out.length).flatten⟩] dl
   have dp:IntKind.i64.wrap (((out.length + 1:Nat):Int) - 1) = ((out.length:Nat):Int):=by rw [wrap_i64 (by omega) (by omega)]; omega
   rw [dp] at bM
   refine wp_loop_ghost (fun n_ a_ w_=>∃ (j:Nat),n_ = j ∧ (i ≤ j) ∧ (j ≤ out.length) ∧ LInv bN 85 [⟨eO,0,[.int .u32 al,.slice aI ax.length aJ],true⟩] [⟨ag,ai,66,2,out.length + 1,(qbX css [.int .u32 0,.slice none 0 0] j).flatten⟩] [(5,.v (.int .u32 (qaB l))),(6,.v (.slice ag (out.length + 1) ai)),(8,.p 0 0),(9,.v (.int .i64 ((i:Nat):Int))),(10,.v (.int .i64 ((j:Nat):Int))),(17,.v (.slice A ((u.take 32767).length) c)),(18,.v (.int .i64 (((u.take 32767).length:Nat):Int))),(19,.v (.int .i64 ((k:Nat):Int)))] a_ w_) (out.length) ⟨out.length,rfl,hi,Nat.le_refl _,bM.pk,bN,Fr.refl _ _ _⟩ ?_
   rintro gk gl gm ⟨j,fo,hij,hjl,dq,ay,ar⟩
   refine wp_seq (qar [(5,.v (.int .u32 (qaB l))),(6,.v (.slice ag (out.length + 1) ai)),(8,.p 0 0),(9,.v (.int .i64 ((i:Nat):Int))),(10,.v (.int .i64 ((j:Nat):Int))),(17,.v (.slice A ((u.take 32767).length) c)),(18,.v (.int .i64 (((u.take 32767).length:Nat):Int))),(19,.v (.int .i64 ((k:Nat):Int))),(68,.v (.bool (decide (((j:Nat):Int) > ((i:Nat):Int)))))] ay dq fun gn aZ=>?_)
   refine qaw aZ (b:=decide (((j:Nat):Int) > ((i:Nat):Int))) kz (fun ba=>?_) (fun ba=>?_)
   ·
    have fq:=of_decide_eq_true ba
    refine wp_skip (qab (wp_seq (wp_block (qaq [0,1,2,3,4,5,6,7,8] kz ?_))))
    refine qaj [0,1,2,3,4] [5,6,7,8] [(5,.v (.int .u32 (qaB l))),(6,.v (.slice ag (out.length + 1) ai)),(8,.p 0 0),(9,.v (.int .i64 ((i:Nat):Int))),(10,.v (.int .i64 ((j:Nat):Int))),(17,.v (.slice A ((u.take 32767).length) c)),(18,.v (.int .i64 (((u.take 32767).length:Nat):Int))),(19,.v (.int .i64 ((k:Nat):Int))),(71,.v (.slice ag (out.length + 1) ai)),(72,.v (.int .i64 ((j:Nat):Int))),(73,.v (.slice ag (out.length + 1) ai)),(75,.v (.int .i64 (IntKind.i64.wrap (((j:Nat):Int) - 1))))] ay aZ fun gp dr=>?_
    obtain ⟨dt,bO⟩:=qbS (ay.own 0 _ rfl) (show 0 < out.length + 1 by omega)
    obtain ⟨⟨bw,bx⟩,du⟩:∃ x,out[j - 1]? = some x:=⟨_,List.getElem?_eq_getElem (by omega)⟩
    obtain ⟨bz,bA,bP,fr,gq,gt⟩:=TagsE.get2 (hT.move (((((((ac.trans ae).trans aa).trans ab).trans af).trans am).trans av).trans ar).step immM (((((((ac.trans ae).trans aa).trans ab).trans af).trans am).trans av).trans ar).to') du
    have cI:=qhC (ay.own 0 _ rfl) bO (qdS (qeu (hT.move (((((((ac.trans ae).trans aa).trans ab).trans af).trans am).trans av).trans ar).step immM (((((((ac.trans ae).trans aa).trans ab).trans af).trans am).trans av).trans ar).to').two rfl j) (qgQ (show j - 1 < j by omega) bP))
    refine qal (qax dr (t:=24) (A:=ag) (m:=(out.length + 1)) (q:=(IntKind.i64.wrap (((j:Nat):Int) - 1))) (d:=76) kz (e:=66) (size:=2) (bytes:=32) kz (b:=dt) (o:=0) (j:=(j - 1)) bO (by rw [wrap_i64 (by omega) (by omega)]; omega) (by omega) fun gv dv=>?_)
    refine qal (qaU dv (t:=66) (b:=dt) (o:=0 + (j - 1) * 2) (d:=77) kz (cs:=(z61 bw bz bx.length bA)) (v:=.agg #[.int .u32 bw,.slice bz bx.length bA]) kz cI fun gw dw=>?_)
    obtain ⟨dx,bQ⟩:=qbS (ay.own 0 _ rfl) (show 0 < out.length + 1 by omega)
    refine qal (qax dw (t:=24) (A:=ag) (m:=(out.length + 1)) (q:=((j:Nat):Int)) (d:=78) kz (e:=66) (size:=2) (bytes:=32) kz (b:=dx) (o:=0) (j:=j) bQ (rfl) (by omega) fun gx dy=>?_)
    refine qal (qbK ay dy (k:=0) (g:=dx) (o:=j * 2) (c:=ai) (m:=(out.length + 1)) (size:=2) (e:=66) (A:=ag) (xs:=((qbX css [.int .u32 0,.slice none 0 0] j).flatten)) (vs:=[.int .u32 bw,.slice bz bx.length bA]) kz rfl bQ (by simp only [List.length_cons,List.length_nil]; omega) fun gy bd bR dz=>?_)
    refine qaf (qas (qab (qaq [0,1,2] kz ?_)))
    refine qaj [0,1,2] [] [(5,.v (.int .u32 (qaB l))),(6,.v (.slice ag (out.length + 1) ai)),(8,.p 0 0),(9,.v (.int .i64 ((i:Nat):Int))),(10,.v (.int .i64 (IntKind.i64.wrap (((j:Nat):Int) - 1)))),(17,.v (.slice A ((u.take 32767).length) c)),(18,.v (.int .i64 (((u.take 32767).length:Nat):Int))),(19,.v (.int .i64 ((k:Nat):Int)))] bR dz fun gz bS=>?_
    refine qaf (qab ?_)
    have dA:(⟨ag,ai,66,2,out.length + 1,qbn ((qbX css [.int .u32 0,.slice none 0 0] j).flatten) (j * 2) [.int .u32 bw,.slice bz bx.length bA]⟩:Rw) = ⟨ag,ai,66,2,out.length + 1,(qbX css [.int .u32 0,.slice none 0 0] (j - 1)).flatten⟩:=by rw [qgR (hT.move ((((((((ac.trans ae).trans aa).trans ab).trans af).trans am).trans av).trans ar).trans bd).step immM ((((((((ac.trans ae).trans aa).trans ab).trans af).trans am).trans av).trans ar).trans bd).to').two rfl (by omega) (by omega) bP]
    obtain ⟨dB,dC⟩:=bR.rowEq 0 [⟨ag,ai,66,2,out.length + 1,(qbX css [.int .u32 0,.slice none 0 0] (j - 1)).flatten⟩] dA
    have dD:IntKind.i64.wrap (((j:Nat):Int) - 1) = ((j - 1:Nat):Int):=by rw [wrap_i64 (by omega) (by omega)]; omega
    rw [dD] at bS
    exact ⟨(j - 1),by omega,(j - 1),rfl,by omega,by omega,bS.pk,dB,((ar.trans bd).trans dC)⟩
   have ft:=of_decide_eq_false ba
   refine wp_exit (qau (qau (qaL (qab (qaq [0,1,2,3,4] kz ?_)))))
   refine qaj [0,1,2] [3,4] [(5,.v (.int .u32 (qaB l))),(6,.v (.slice ag (out.length + 1) ai)),(17,.v (.slice A ((u.take 32767).length) c)),(18,.v (.int .i64 (((u.take 32767).length:Nat):Int))),(19,.v (.int .i64 ((k:Nat):Int))),(79,.v (.slice ag (out.length + 1) ai)),(80,.v (.int .i64 ((i:Nat):Int))),(81,.v (.agg #[.int .u32 al,.slice aI ax.length aJ]))] ay aZ fun gA dE=>?_
   have hji:j = i:=by omega
   have dF:(⟨ag,ai,66,2,out.length + 1,(qbX css [.int .u32 0,.slice none 0 0] j).flatten⟩:Rw) = ⟨ag,ai,66,2,out.length + 1,(qbX css [.int .u32 0,.slice none 0 0] i).flatten⟩:=by rw [hji]
   obtain ⟨bT,aC⟩:=ay.rowEq 0 [⟨ag,ai,66,2,out.length + 1,(qbX css [.int .u32 0,.slice none 0 0] i).flatten⟩] dF
   obtain ⟨dG,bU⟩:=qbS (bT.own 0 _ rfl) (show 0 < out.length + 1 by omega)
   refine qal (qax dE (t:=24) (A:=ag) (m:=(out.length + 1)) (q:=((i:Nat):Int)) (d:=82) kz (e:=66) (size:=2) (bytes:=32) kz (b:=dG) (o:=0) (j:=i) bU (rfl) (by omega) fun gB dH=>?_)
   refine qal (qbK bT dH (k:=0) (g:=dG) (o:=i * 2) (c:=ai) (m:=(out.length + 1)) (size:=2) (e:=66) (A:=ag) (xs:=((qbX css [.int .u32 0,.slice none 0 0] i).flatten)) (vs:=[.int .u32 al,.slice aI ax.length aJ]) kz rfl bU (by simp only [List.length_cons,List.length_nil]; omega) fun gC aD bV dI=>?_)
   refine qaf (qas (qab (qaq [0,1] kz ?_)))
   refine qaj [0,1] [] [(5,.v (.int .u32 (qaB l))),(6,.v (.slice ag (out.length + 1) ai)),(17,.v (.slice A ((u.take 32767).length) c)),(18,.v (.int .i64 (((u.take 32767).length:Nat):Int))),(19,.v (.int .i64 (IntKind.i64.wrap (((k:Nat):Int) + 1))))] bV dI fun gD dJ=>?_
   refine qaf (qab ?_)
   obtain ⟨bf,dK,aE⟩:=bV.cutB dJ 0 [] [(5,.v (.int .u32 (qaB l))),(6,.v (.slice ag (out.length + 1) ai)),(17,.v (.slice A ((u.take 32767).length) c)),(18,.v (.int .i64 (((u.take 32767).length:Nat):Int))),(19,.v (.int .i64 (IntKind.i64.wrap (((k:Nat):Int) + 1))))]
   have hcl:=(hT.move ((((((((((ac.trans ae).trans aa).trans ab).trans af).trans am).trans av).trans ar).trans aC).trans aD).trans aE).step immM ((((((((((ac.trans ae).trans aa).trans ab).trans af).trans am).trans av).trans ar).trans aC).trans aD).trans aE).to').len
   have dL:(⟨ag,ai,66,2,out.length + 1,qbn ((qbX css [.int .u32 0,.slice none 0 0] i).flatten) (i * 2) [.int .u32 al,.slice aI ax.length aJ]⟩:Rw) = ⟨ag,ai,66,2,(out.take i ++ (al,ax) :: out.drop i).length,(css.take i ++ [.int .u32 al,.slice aI ax.length aJ] :: css.drop i).flatten⟩:=by rw [qgS (hT.move ((((((((((ac.trans ae).trans aa).trans ab).trans af).trans am).trans av).trans ar).trans aC).trans aD).trans aE).step immM ((((((((((ac.trans ae).trans aa).trans ab).trans af).trans am).trans av).trans ar).trans aC).trans aD).trans aE).to').two rfl (by omega) rfl,qcU (al,ax) hi]
   obtain ⟨bg,bh⟩:=dK.rowEq 0 [⟨ag,ai,66,2,(out.take i ++ (al,ax) :: out.drop i).length,(css.take i ++ (z61 al aI ax.length aJ) :: css.drop i).flatten⟩] dL
   have dM:IntKind.i64.wrap (((k:Nat):Int) + 1) = ((k + 1:Nat):Int):=qaP (by omega)
   rw [dM] at bf
   have dN:out.length + 1 = (out.take i ++ (al,ax) :: out.drop i).length:=qcU (al,ax) hi
   rw [dN] at bf
   exact ⟨(u.take 32767).length - (k + 1),by omega,k + 1,ag,ai,(out.take i ++ (al,ax) :: out.drop i),(css.take i ++ [.int .u32 al,.slice aI ax.length aJ] :: css.drop i),rfl,by omega,(hT.move (((((((((((ac.trans ae).trans aa).trans ab).trans af).trans am).trans av).trans ar).trans aC).trans aD).trans aE).trans bh).step immM (((((((((((ac.trans ae).trans aa).trans ab).trans af).trans am).trans av).trans ar).trans aC).trans aD).trans aE).trans bh).to').ins ⟨⟨aI,aJ,rfl,(cM.move bg.step nilM bg.imm)⟩,fb,fe⟩ hi,by rw [qcc aP,← hout]; exact (qi3 (qfs hi hlt (fun _=>by first | (rw [qdT bu]; omega) | (rw [qdT aL]; omega))) ‹_› (fun _=>by first | (rw [qdT bu]; omega) | (rw [qdT aL]; omega))).symm,by rw [← qcU (al,ax) hi]; omega,bf.pk,bg,((((((((((((aR.trans ac).trans ae).trans aa).trans ab).trans af).trans am).trans av).trans ar).trans aC).trans aD).trans aE).trans bh)⟩
  have fu:=of_decide_eq_false aN
  have dO:=cN.cast (env':=[(5,.v (.int .u32 (qaB l))),(6,.v (.slice A_ out.length c_)),(8,.p 0 0),(9,.v (.int .i64 ((i:Nat):Int))),(17,.v (.slice A ((u.take 32767).length) c)),(18,.v (.int .i64 (((u.take 32767).length:Nat):Int))),(19,.v (.int .i64 ((k:Nat):Int))),(27,.v (.bool false))]) (by rw [aN])
  refine qaD [5,6,7,8,9,10,11,12,13] [(5,.v (.int .u32 (qaB l))),(6,.v (.slice A_ out.length c_)),(8,.p 0 0),(9,.v (.int .i64 ((i:Nat):Int))),(17,.v (.slice A ((u.take 32767).length) c)),(18,.v (.int .i64 (((u.take 32767).length:Nat):Int))),(19,.v (.int .i64 ((k:Nat):Int))),(36,.v (.bool false))] 0 (qaa (qaa (qaa (qac (qaa (qac (qaa (qaa (qac (qaa qad)))))))))) (fun _ h=>h ▸ aB.cells) rfl dO fun gE bW=>?_
  refine qaC kz ?_ _
  refine qab (qam bW (b:=false) kz rfl ?_)
  refine wp_exit (qau (qau (qaL (qab (wp_seq (qcb kz aB fun gF ak az=>?_))))))
  refine qaD [0,1,2,3,4] [(5,.v (.int .u32 (qaB l))),(6,.v (.slice A_ out.length c_)),(8,.p 0 0),(9,.v (.int .i64 ((i:Nat):Int))),(17,.v (.slice A ((u.take 32767).length) c)),(18,.v (.int .i64 (((u.take 32767).length:Nat):Int))),(19,.v (.int .i64 ((k:Nat):Int))),(43,.v (.bool (decide (al < (qaB l)))))] 15 (qaa (qaa (qac (qaa (qaa (qac (qaa qad))))))) (fun _ h=>h ▸ az.cells) rfl bW fun gG bX=>?_
  refine (Bool.eq_false_or_eq_true (decide (al < (qaB l)))).elim (fun aM=>?_) (fun aM=>?_)
  ·
   have fv:=of_decide_eq_true aM
   have dP:=bX
   rw [aM] at dP
   refine qaD [5,6,7,8,9,10,11,12,13,14,15,16,17,18,19] [(5,.v (.int .u32 (qaB l))),(6,.v (.slice A_ out.length c_)),(8,.p 0 0),(9,.v (.int .i64 ((i:Nat):Int))),(17,.v (.slice A ((u.take 32767).length) c)),(18,.v (.int .i64 (((u.take 32767).length:Nat):Int))),(19,.v (.int .i64 ((k:Nat):Int))),(58,.v (.bool true))] 0 (qaa (qaa (qac (qaa (qaa (qac (qaa qad))))))) (fun _ h=>h ▸ az.cells) rfl dP fun gH bY=>?_
   refine qaC kz ?_ _
   refine qab (qa4 bY (b:=true) kz rfl ?_)
   refine wp_exit (qau (qaL (qab (qaq [0,1] kz ?_))))
   refine qaj [0,1] [] [(5,.v (.int .u32 (qaB l))),(6,.v (.slice A_ out.length c_)),(17,.v (.slice A ((u.take 32767).length) c)),(18,.v (.int .i64 (((u.take 32767).length:Nat):Int))),(19,.v (.int .i64 (IntKind.i64.wrap (((k:Nat):Int) + 1))))] az bY fun gI dQ=>?_
   refine qaf (qab ?_)
   obtain ⟨bZ,dR,bi⟩:=az.cutB dQ 0 [] [(5,.v (.int .u32 (qaB l))),(6,.v (.slice A_ out.length c_)),(17,.v (.slice A ((u.take 32767).length) c)),(18,.v (.int .i64 (((u.take 32767).length:Nat):Int))),(19,.v (.int .i64 (IntKind.i64.wrap (((k:Nat):Int) + 1))))]
   have dS:IntKind.i64.wrap (((k:Nat):Int) + 1) = ((k + 1:Nat):Int):=qaP (by omega)
   rw [dS] at bZ
   exact ⟨(u.take 32767).length - (k + 1),by omega,k + 1,A_,c_,out,css,rfl,by omega,(hT.move (((((ac.trans ae).trans aa).trans ab).trans ak).trans bi).step immM (((((ac.trans ae).trans aa).trans ab).trans ak).trans bi).to'),by rw [qcc aP,← hout]; exact (qi2 ‹_›).symm,by omega,bZ.pk,dR,((((((aR.trans ac).trans ae).trans aa).trans ab).trans ak).trans bi)⟩
  have fw:=of_decide_eq_false aM
  have dT:=bX
  rw [aM] at dT
  refine qaD [5,6,7,8,9] [(5,.v (.int .u32 (qaB l))),(6,.v (.slice A_ out.length c_)),(8,.p 0 0),(9,.v (.int .i64 ((i:Nat):Int))),(17,.v (.slice A ((u.take 32767).length) c)),(18,.v (.int .i64 (((u.take 32767).length:Nat):Int))),(19,.v (.int .i64 ((k:Nat):Int))),(43,.v (.bool false)),(48,.v (.bool (decide (((i:Nat):Int) < ((out.length:Nat):Int)))))] 10 (qaa (qaa (qac (qaa (qaa (qac (qaa qad))))))) (fun _ h=>h ▸ az.cells) rfl dT fun gJ dU=>?_
  have dV:(decide (((i:Nat):Int) < ((out.length:Nat):Int))) = false:=aN
  have dW:=dU
  rw [dV] at dW
  refine qaD [10,11,12,13,14,15,16,17,18,19] [(5,.v (.int .u32 (qaB l))),(6,.v (.slice A_ out.length c_)),(8,.p 0 0),(9,.v (.int .i64 ((i:Nat):Int))),(17,.v (.slice A ((u.take 32767).length) c)),(18,.v (.int .i64 (((u.take 32767).length:Nat):Int))),(19,.v (.int .i64 ((k:Nat):Int))),(58,.v (.bool false))] 0 (qaa (qaa (qac (qaa (qaa (qac (qaa qad))))))) (fun _ h=>h ▸ az.cells) rfl dW fun gK b8=>?_
  refine qaC kz ?_ _
  refine qab (qam b8 (b:=false) kz rfl ?_)
  refine wp_skip (qab (qae [0,1,2,3,4] kz ?_))
  refine qaj [0,1] [2,3,4] [(5,.v (.int .u32 (qaB l))),(8,.p 0 0),(9,.v (.int .i64 ((i:Nat):Int))),(17,.v (.slice A ((u.take 32767).length) c)),(18,.v (.int .i64 (((u.take 32767).length:Nat):Int))),(19,.v (.int .i64 ((k:Nat):Int))),(59,.v (.slice A_ out.length c_)),(60,.v (.agg #[.int .u32 0,.slice none 0 0]))] az b8 fun gL dX=>?_
  refine qcI az dX (k:=0) (e:=66) (size:=2) (len:=1) (cs:=[.int .u32 0,.slice none 0 0]) (d1:=61) (d:=62) kz (t:=24) (bytes:=32) kz (fun _=>by kernel_rfl) rfl kz (by omega) fun ah aj gM gN ao bj ⟨_,dY⟩=>?_
  refine qaj [4] [] [(5,.v (.int .u32 (qaB l))),(6,.v (.slice ah (out.length + 1) aj)),(8,.p 0 0),(9,.v (.int .i64 ((i:Nat):Int))),(17,.v (.slice A ((u.take 32767).length) c)),(18,.v (.int .i64 (((u.take 32767).length:Nat):Int))),(19,.v (.int .i64 ((k:Nat):Int)))] bj dY fun gO dZ=>?_
  refine qaf (qab ?_)
  refine wp_seq (qar [(5,.v (.int .u32 (qaB l))),(6,.v (.slice ah (out.length + 1) aj)),(8,.p 0 0),(9,.v (.int .i64 ((i:Nat):Int))),(10,.v (.int .i64 (IntKind.i64.wrap (((out.length + 1:Nat):Int) - 1)))),(17,.v (.slice A ((u.take 32767).length) c)),(18,.v (.int .i64 (((u.take 32767).length:Nat):Int))),(19,.v (.int .i64 ((k:Nat):Int)))] bj dZ fun gP cd=>?_)
  refine wp_block ?_
  have hcl0:=(hT.move (((((ac.trans ae).trans aa).trans ab).trans ak).trans ao).step immM (((((ac.trans ae).trans aa).trans ab).trans ak).trans ao).to').len
  have d5:(⟨ah,aj,66,2,out.length + 1,css.flatten ++ [.int .u32 0,.slice none 0 0]⟩:Rw) = ⟨ah,aj,66,2,out.length + 1,(qbX css [.int .u32 0,.slice none 0 0] out.length).flatten⟩:=by rw [qhD hcl0]
  obtain ⟨ce,aw⟩:=bj.rowEq 0 [⟨ah,aj,66,2,out.length + 1,(qbX css [.int .u32 0,.slice none 0 0] out.length).flatten⟩] d5
  have d6:IntKind.i64.wrap (((out.length + 1:Nat):Int) - 1) = ((out.length:Nat):Int):=by rw [wrap_i64 (by omega) (by omega)]; omega
  rw [d6] at cd
  refine wp_loop_ghost (fun n_ a_ w_=>∃ (j:Nat),n_ = j ∧ (i ≤ j) ∧ (j ≤ out.length) ∧ LInv ce 85 [⟨eO,0,[.int .u32 al,.slice aI ax.length aJ],true⟩] [⟨ah,aj,66,2,out.length + 1,(qbX css [.int .u32 0,.slice none 0 0] j).flatten⟩] [(5,.v (.int .u32 (qaB l))),(6,.v (.slice ah (out.length + 1) aj)),(8,.p 0 0),(9,.v (.int .i64 ((i:Nat):Int))),(10,.v (.int .i64 ((j:Nat):Int))),(17,.v (.slice A ((u.take 32767).length) c)),(18,.v (.int .i64 (((u.take 32767).length:Nat):Int))),(19,.v (.int .i64 ((k:Nat):Int)))] a_ w_) (out.length) ⟨out.length,rfl,hi,Nat.le_refl _,cd.pk,ce,Fr.refl _ _ _⟩ ?_
  rintro gQ gR gS ⟨j,fx,hij,hjl,d7,aA,au⟩
  refine wp_seq (qar [(5,.v (.int .u32 (qaB l))),(6,.v (.slice ah (out.length + 1) aj)),(8,.p 0 0),(9,.v (.int .i64 ((i:Nat):Int))),(10,.v (.int .i64 ((j:Nat):Int))),(17,.v (.slice A ((u.take 32767).length) c)),(18,.v (.int .i64 (((u.take 32767).length:Nat):Int))),(19,.v (.int .i64 ((k:Nat):Int))),(68,.v (.bool (decide (((j:Nat):Int) > ((i:Nat):Int)))))] aA d7 fun gT bk=>?_)
  refine qaw bk (b:=decide (((j:Nat):Int) > ((i:Nat):Int))) kz (fun bn=>?_) (fun bn=>?_)
  ·
   have fy:=of_decide_eq_true bn
   refine wp_skip (qab (wp_seq (wp_block (qaq [0,1,2,3,4,5,6,7,8] kz ?_))))
   refine qaj [0,1,2,3,4] [5,6,7,8] [(5,.v (.int .u32 (qaB l))),(6,.v (.slice ah (out.length + 1) aj)),(8,.p 0 0),(9,.v (.int .i64 ((i:Nat):Int))),(10,.v (.int .i64 ((j:Nat):Int))),(17,.v (.slice A ((u.take 32767).length) c)),(18,.v (.int .i64 (((u.take 32767).length:Nat):Int))),(19,.v (.int .i64 ((k:Nat):Int))),(71,.v (.slice ah (out.length + 1) aj)),(72,.v (.int .i64 ((j:Nat):Int))),(73,.v (.slice ah (out.length + 1) aj)),(75,.v (.int .i64 (IntKind.i64.wrap (((j:Nat):Int) - 1))))] aA bk fun gU d8=>?_
   obtain ⟨d9,cm⟩:=qbS (aA.own 0 _ rfl) (show 0 < out.length + 1 by omega)
   obtain ⟨⟨bB,bC⟩,ea⟩:∃ x,out[j - 1]? = some x:=⟨_,List.getElem?_eq_getElem (by omega)⟩
   obtain ⟨bD,bE,cq,fz,gV,gW⟩:=TagsE.get2 (hT.move (((((((ac.trans ae).trans aa).trans ab).trans ak).trans ao).trans aw).trans au).step immM (((((((ac.trans ae).trans aa).trans ab).trans ak).trans ao).trans aw).trans au).to') ea
   have cJ:=qhC (aA.own 0 _ rfl) cm (qdS (qeu (hT.move (((((((ac.trans ae).trans aa).trans ab).trans ak).trans ao).trans aw).trans au).step immM (((((((ac.trans ae).trans aa).trans ab).trans ak).trans ao).trans aw).trans au).to').two rfl j) (qgQ (show j - 1 < j by omega) cq))
   refine qal (qax d8 (t:=24) (A:=ah) (m:=(out.length + 1)) (q:=(IntKind.i64.wrap (((j:Nat):Int) - 1))) (d:=76) kz (e:=66) (size:=2) (bytes:=32) kz (b:=d9) (o:=0) (j:=(j - 1)) cm (by rw [wrap_i64 (by omega) (by omega)]; omega) (by omega) fun gX eb=>?_)
   refine qal (qaU eb (t:=66) (b:=d9) (o:=0 + (j - 1) * 2) (d:=77) kz (cs:=(z61 bB bD bC.length bE)) (v:=.agg #[.int .u32 bB,.slice bD bC.length bE]) kz cJ fun gY ec=>?_)
   obtain ⟨ee,cr⟩:=qbS (aA.own 0 _ rfl) (show 0 < out.length + 1 by omega)
   refine qal (qax ec (t:=24) (A:=ah) (m:=(out.length + 1)) (q:=((j:Nat):Int)) (d:=78) kz (e:=66) (size:=2) (bytes:=32) kz (b:=ee) (o:=0) (j:=j) cr (rfl) (by omega) fun gZ ef=>?_)
   refine qal (qbK aA ef (k:=0) (g:=ee) (o:=j * 2) (c:=aj) (m:=(out.length + 1)) (size:=2) (e:=66) (A:=ah) (xs:=((qbX css [.int .u32 0,.slice none 0 0] j).flatten)) (vs:=[.int .u32 bB,.slice bD bC.length bE]) kz rfl cr (by simp only [List.length_cons,List.length_nil]; omega) fun g6 bo cu eg=>?_)
   refine qaf (qas (qab (qaq [0,1,2] kz ?_)))
   refine qaj [0,1,2] [] [(5,.v (.int .u32 (qaB l))),(6,.v (.slice ah (out.length + 1) aj)),(8,.p 0 0),(9,.v (.int .i64 ((i:Nat):Int))),(10,.v (.int .i64 (IntKind.i64.wrap (((j:Nat):Int) - 1)))),(17,.v (.slice A ((u.take 32767).length) c)),(18,.v (.int .i64 (((u.take 32767).length:Nat):Int))),(19,.v (.int .i64 ((k:Nat):Int)))] cu eg fun g7 cw=>?_
   refine qaf (qab ?_)
   have eh:(⟨ah,aj,66,2,out.length + 1,qbn ((qbX css [.int .u32 0,.slice none 0 0] j).flatten) (j * 2) [.int .u32 bB,.slice bD bC.length bE]⟩:Rw) = ⟨ah,aj,66,2,out.length + 1,(qbX css [.int .u32 0,.slice none 0 0] (j - 1)).flatten⟩:=by rw [qgR (hT.move ((((((((ac.trans ae).trans aa).trans ab).trans ak).trans ao).trans aw).trans au).trans bo).step immM ((((((((ac.trans ae).trans aa).trans ab).trans ak).trans ao).trans aw).trans au).trans bo).to').two rfl (by omega) (by omega) cq]
   obtain ⟨ei,ej⟩:=cu.rowEq 0 [⟨ah,aj,66,2,out.length + 1,(qbX css [.int .u32 0,.slice none 0 0] (j - 1)).flatten⟩] eh
   have ek:IntKind.i64.wrap (((j:Nat):Int) - 1) = ((j - 1:Nat):Int):=by rw [wrap_i64 (by omega) (by omega)]; omega
   rw [ek] at cw
   exact ⟨(j - 1),by omega,(j - 1),rfl,by omega,by omega,cw.pk,ei,((au.trans bo).trans ej)⟩
  have fA:=of_decide_eq_false bn
  refine wp_exit (qau (qau (qaL (qab (qaq [0,1,2,3,4] kz ?_)))))
  refine qaj [0,1,2] [3,4] [(5,.v (.int .u32 (qaB l))),(6,.v (.slice ah (out.length + 1) aj)),(17,.v (.slice A ((u.take 32767).length) c)),(18,.v (.int .i64 (((u.take 32767).length:Nat):Int))),(19,.v (.int .i64 ((k:Nat):Int))),(79,.v (.slice ah (out.length + 1) aj)),(80,.v (.int .i64 ((i:Nat):Int))),(81,.v (.agg #[.int .u32 al,.slice aI ax.length aJ]))] aA bk fun g8 em=>?_
  have hji:j = i:=by omega
  have eo:(⟨ah,aj,66,2,out.length + 1,(qbX css [.int .u32 0,.slice none 0 0] j).flatten⟩:Rw) = ⟨ah,aj,66,2,out.length + 1,(qbX css [.int .u32 0,.slice none 0 0] i).flatten⟩:=by rw [hji]
  obtain ⟨cz,aF⟩:=aA.rowEq 0 [⟨ah,aj,66,2,out.length + 1,(qbX css [.int .u32 0,.slice none 0 0] i).flatten⟩] eo
  obtain ⟨ep,cA⟩:=qbS (cz.own 0 _ rfl) (show 0 < out.length + 1 by omega)
  refine qal (qax em (t:=24) (A:=ah) (m:=(out.length + 1)) (q:=((i:Nat):Int)) (d:=82) kz (e:=66) (size:=2) (bytes:=32) kz (b:=ep) (o:=0) (j:=i) cA (rfl) (by omega) fun g9 eu=>?_)
  refine qal (qbK cz eu (k:=0) (g:=ep) (o:=i * 2) (c:=aj) (m:=(out.length + 1)) (size:=2) (e:=66) (A:=ah) (xs:=((qbX css [.int .u32 0,.slice none 0 0] i).flatten)) (vs:=[.int .u32 al,.slice aI ax.length aJ]) kz rfl cA (by simp only [List.length_cons,List.length_nil]; omega) fun hC aG cB ev=>?_)
  refine qaf (qas (qab (qaq [0,1] kz ?_)))
  refine qaj [0,1] [] [(5,.v (.int .u32 (qaB l))),(6,.v (.slice ah (out.length + 1) aj)),(17,.v (.slice A ((u.take 32767).length) c)),(18,.v (.int .i64 (((u.take 32767).length:Nat):Int))),(19,.v (.int .i64 (IntKind.i64.wrap (((k:Nat):Int) + 1))))] cB ev fun hJ ew=>?_
  refine qaf (qab ?_)
  obtain ⟨bp,ey,aH⟩:=cB.cutB ew 0 [] [(5,.v (.int .u32 (qaB l))),(6,.v (.slice ah (out.length + 1) aj)),(17,.v (.slice A ((u.take 32767).length) c)),(18,.v (.int .i64 (((u.take 32767).length:Nat):Int))),(19,.v (.int .i64 (IntKind.i64.wrap (((k:Nat):Int) + 1))))]
  have hcl:=(hT.move ((((((((((ac.trans ae).trans aa).trans ab).trans ak).trans ao).trans aw).trans au).trans aF).trans aG).trans aH).step immM ((((((((((ac.trans ae).trans aa).trans ab).trans ak).trans ao).trans aw).trans au).trans aF).trans aG).trans aH).to').len
  have ez:(⟨ah,aj,66,2,out.length + 1,qbn ((qbX css [.int .u32 0,.slice none 0 0] i).flatten) (i * 2) [.int .u32 al,.slice aI ax.length aJ]⟩:Rw) = ⟨ah,aj,66,2,(out.take i ++ (al,ax) :: out.drop i).length,(css.take i ++ [.int .u32 al,.slice aI ax.length aJ] :: css.drop i).flatten⟩:=by rw [qgS (hT.move ((((((((((ac.trans ae).trans aa).trans ab).trans ak).trans ao).trans aw).trans au).trans aF).trans aG).trans aH).step immM ((((((((((ac.trans ae).trans aa).trans ab).trans ak).trans ao).trans aw).trans au).trans aF).trans aG).trans aH).to').two rfl (by omega) rfl,qcU (al,ax) hi]
  obtain ⟨bq,bt⟩:=ey.rowEq 0 [⟨ah,aj,66,2,(out.take i ++ (al,ax) :: out.drop i).length,(css.take i ++ (z61 al aI ax.length aJ) :: css.drop i).flatten⟩] ez
  have eB:IntKind.i64.wrap (((k:Nat):Int) + 1) = ((k + 1:Nat):Int):=qaP (by omega)
  rw [eB] at bp
  have eC:out.length + 1 = (out.take i ++ (al,ax) :: out.drop i).length:=qcU (al,ax) hi
  rw [eC] at bp
  exact ⟨(u.take 32767).length - (k + 1),by omega,k + 1,ah,aj,(out.take i ++ (al,ax) :: out.drop i),(css.take i ++ [.int .u32 al,.slice aI ax.length aJ] :: css.drop i),rfl,by omega,(hT.move (((((((((((ac.trans ae).trans aa).trans ab).trans ak).trans ao).trans aw).trans au).trans aF).trans aG).trans aH).trans bt).step immM (((((((((((ac.trans ae).trans aa).trans ab).trans ak).trans ao).trans aw).trans au).trans aF).trans aG).trans aH).trans bt).to').ins ⟨⟨aI,aJ,rfl,(cM.move bq.step nilM bq.imm)⟩,fb,fe⟩ hi,by rw [qcc aP,← hout]; exact (qi3 (qfs hi hlt (fun h_=>absurd h_ (by omega))) ‹_› (fun h_=>absurd h_ (by omega))).symm,by rw [← qcU (al,ax) hi]; omega,bp.pk,bq,((((((((((((aR.trans ac).trans ae).trans aa).trans ab).trans ak).trans ao).trans aw).trans au).trans aF).trans aG).trans aH).trans bt)⟩
 have fB:=of_decide_eq_false cD
 refine wp_exit (qau (qau (qaL (qab (qar [(4,.v (.slice A_ out.length c_))] aO cC fun hK eD=>?_)))))
 refine wp_ret (qaM eD aO.cells (v:=.slice A_ out.length c_) kz ?_)
 exact qhk aO (k:=0) rfl rfl rfl hT (by omega) (by rw [hout,List.take_of_length_le (by omega)]; rfl)
def qjs (d:Nat):Prop:=∀ (cf:List Value) (f:Fld) (ct:List Value) (t:Tree) (w:World) (F:Nat → Nat → Prop),FldR w F cf f → f.depth ≤ d → TreeR w F ct t →
  Calls Tryz.prog 35 #[.agg cf.toArray,.agg ct.toArray] w (qcu w (.bool (f.usual t)))
theorem qhs {d:Nat} (hu:qjs d) (cf:List Value) (f:Fld) (ct:List Value) (t:Tree) (w:World) (F:Nat → Nat → Prop) (hf:FldR w F cf f) (hd:f.depth ≤ d + 1) (ht:TreeR w F ct t) :
  Calls Tryz.prog 35 #[.agg cf.toArray,.agg ct.toArray] w (qcu w (.bool (f.usual t))):=by
 obtain ⟨k1,y2,y3,y4,y5,y6,y7,l8,A9,aA,dD,rfl,rfl,dE,em⟩:=hf.open_
 have eo:=dE.small
 obtain ⟨af,ab,aC,aK,aB,ah,ai,bS,bT,bt,bu,ff,rfl,rfl,ep,fg,gL,fh⟩:=ht.open_
 have eu:=ep.small
 have ev:=fg.small
 refine enter (n:=91) Tryz.func35 rfl Tryz.ntmps35 kz fun a hE=>?_
 have hW:=WOk.start w Nil
 refine qae [0,1,2] kz ?_
 refine qal (qbm hW hE (d:=2) (cs:=(z4 k1 y2 y3 y4 y5 y6 y7 A9 l8.length aA)) kz fun dF gM gN fi fj fk dG dH=>?_)
 refine qal (qbm dG dH (d:=3) (cs:=(z2 af ah ab.length ai aC bS aK.length bT bt aB.length bu)) kz fun dI gO gP fm fo fq aa dJ=>?_)
 refine qaj [2] [] [(2,.p 0 0),(3,.p 1 0)] aa dJ fun gQ dK=>?_
 refine qaf (qab ?_)
 refine wp_seq (qar [(2,.p 0 0),(3,.p 1 0),(10,.v (.int .i64 k1))] aa dK fun gR dL=>?_)
 refine wp_block (qar [(2,.p 0 0),(3,.p 1 0),(10,.v (.int .i64 k1)),(11,.v (.bool (k1 == 0)))] aa dL fun gS bM=>?_)
 refine qaw bM (b:=k1 == 0) kz (fun bN=>?_) (fun bN=>?_)
 ·
  have fr:k1 = 0:=by simpa using bN
  refine qar [(4,.v (.bool ((IntKind.i64.wrap (BitVec.ofInt 64 af &&& BitVec.ofInt 64 1).toNat) == y6)))] aa bM fun gT dM=>?_
  refine wp_ret (qay (qat (qaM dM aa.cells (v:=.bool ((IntKind.i64.wrap (BitVec.ofInt 64 af &&& BitVec.ofInt 64 1).toNat) == y6)) kz ?_)))
  refine ⟨congrArg (fun b_=>Ending.returned (Value.bool b_)) ?_,aa.step⟩
  first
   | (rw [qc1 ‹_›]; simp only [and1]; done)
   | (rw [qbN ‹_› ‹_›]; exact qbL hz (by omega); done)
   | (rw [qbN ‹_› ‹_›]; exact qbB (k:=k) (by omega) (by omega) ‹_›; done)
   | (rw [qcd ‹_› ‹_› (by omega) ‹_›]; done)
   | (rw [qcB ‹_› ‹_› (by omega) ‹_›]; done)
   | (rw [qcC ‹_› ‹_› ‹_› ‹_› ‹_›]; done)
   | (rw [qcs ‹_› ‹_› ‹_› ‹_› ‹_› ‹_›,huu,qbW (by omega),Bool.true_and]; done)
   | (rw [qbV ‹_› ‹_› ‹_› ‹_› ‹_› ‹_›]; done)
 have ft:k1 ≠ 0:=by simpa using bN
 refine qar [(2,.p 0 0),(3,.p 1 0),(10,.v (.int .i64 k1)),(19,.v (.bool (k1 == 7)))] aa bM fun gU bO=>?_
 refine qaw bO (b:=k1 == 7) kz (fun bP=>?_) (fun bP=>?_)
 ·
  have fu:k1 = 7:=by simpa using bP
  refine wp_seq (qar [(22,.v (.slice ah ab.length ai)),(23,.v (.int .i64 ((ab.length:Nat):Int))),(24,.v (.int .i64 0))] aa bO fun gV dN=>?_)
  refine wp_block (wp_loop_ghost (fun n_ a_ w_=>∃ (k:Nat),n_ = ab.length - k ∧ k ≤ ab.length ∧ (∀ q,q < k → q < 16 → (((ab.getD q 0).toNat:Nat):Int) = 0) ∧ LInv aa 91 [⟨dF,0,[.int .i64 k1,.int .i64 y2,.int .i64 y3,.int .i64 y4,.int .i64 y5,.int .i64 y6,.int .i64 y7,.slice A9 l8.length aA],true⟩,⟨dI,0,[.int .i64 af,.slice ah ab.length ai,.bool aC,.slice bS aK.length bT,.slice bt aB.length bu],true⟩] [] [(22,.v (.slice ah ab.length ai)),(23,.v (.int .i64 ((ab.length:Nat):Int))),(24,.v (.int .i64 ((k:Nat):Int)))] a_ w_) (ab.length) ⟨0,by omega,by omega,fun q h_=>absurd h_ (Nat.not_lt_zero q),dN.pk,aa,Fr.refl _ _ _⟩ ?_)
  rintro gW gX gY ⟨k,fv,fw,hz,dO,ae,bU⟩
  refine qar [(22,.v (.slice ah ab.length ai)),(23,.v (.int .i64 ((ab.length:Nat):Int))),(24,.v (.int .i64 ((k:Nat):Int))),(25,.v (.bool (decide (((k:Nat):Int) < ((ab.length:Nat):Int)))))] ae dO fun gZ bQ=>?_
  refine wp_seq (qaw bQ (b:=decide (((k:Nat):Int) < ((ab.length:Nat):Int))) kz (fun bR=>?_) (fun bR=>?_))
  ·
   have fx:=of_decide_eq_true bR
   refine wp_skip (qab (wp_seq (wp_block (qae [0,1,2,3,4] kz ?_))))
   refine qaj [0] [1,2,3,4] [(22,.v (.slice ah ab.length ai)),(23,.v (.int .i64 ((ab.length:Nat):Int))),(24,.v (.int .i64 ((k:Nat):Int))),(26,.v (.int .i64 ((k:Nat):Int)))] ae bQ fun g6 dP=>?_
   obtain ⟨fy,fz,dQ,fA,bV⟩:=Slots.get ep (i:=k) (by omega)
   refine qal (qax dP (t:=22) (A:=ah) (m:=ab.length) (q:=((k:Nat):Int)) (d:=27) kz (e:=5) (size:=1) (bytes:=1) kz dQ rfl (by omega) fun g7 dR=>?_)
   refine qal (qaU dR (t:=5) (b:=fy) (o:=fz + k * 1) (d:=28) kz (cs:=[.int .u8 ((ab.getD k 0).toNat:Int)]) (v:=.int .u8 ((ab.getD k 0).toNat:Int)) kz (AtF.move bV ae.step nilM qbb).at_ fun g8 dS=>?_)
   refine qaj [3,4] [] [(5,.v (.int .i64 ((k:Nat):Int))),(6,.v (.int .u8 ((ab.getD k 0).toNat:Int))),(22,.v (.slice ah ab.length ai)),(23,.v (.int .i64 ((ab.length:Nat):Int))),(24,.v (.int .i64 ((k:Nat):Int)))] ae dS fun g9 dT=>?_
   refine qaf (qab ?_)
   refine qae [0,1,2,3,4,5] kz ?_
   refine qaj [0,1,2] [3,4,5] [(6,.v (.int .u8 ((ab.getD k 0).toNat:Int))),(22,.v (.slice ah ab.length ai)),(23,.v (.int .i64 ((ab.length:Nat):Int))),(24,.v (.int .i64 ((k:Nat):Int))),(31,.v (.bool (decide (((k:Nat):Int) < 16))))] ae dT fun hC bW=>?_
   refine (Bool.eq_false_or_eq_true (decide (((k:Nat):Int) < 16))).elim (fun aL=>?_) (fun aL=>?_)
   ·
    have fB:=of_decide_eq_true aL
    have dU:=bW
    rw [aL] at dU
    refine qaj [3,4,5] [] [(22,.v (.slice ah ab.length ai)),(23,.v (.int .i64 ((ab.length:Nat):Int))),(24,.v (.int .i64 ((k:Nat):Int))),(34,.v (.bool (((ab.getD k 0).toNat:Int) != 0)))] ae dU fun hJ aM=>?_
    refine qaf (qab ?_)
    refine qaw aM (b:=((ab.getD k 0).toNat:Int) != 0) kz (fun aN=>?_) (fun aN=>?_)
    ·
     have ew:((ab.getD k 0).toNat:Int) ≠ 0:=by simpa using aN
     refine qar [(4,.v (.bool false))] ae aM fun fC bX=>?_
     refine wp_ret (qay (qat (qat (qay (qat (qay (qat (qaM bX ae.cells (v:=.bool false) kz ?_))))))))
     refine ⟨congrArg (fun b_=>Ending.returned (Value.bool b_)) ?_,ae.step⟩
     first
      | (rw [qc1 ‹_›]; simp only [and1]; done)
      | (rw [qbN ‹_› ‹_›]; exact qbL hz (by omega); done)
      | (rw [qbN ‹_› ‹_›]; exact qbB (k:=k) (by omega) (by omega) ‹_›; done)
      | (rw [qcd ‹_› ‹_› (by omega) ‹_›]; done)
      | (rw [qcB ‹_› ‹_› (by omega) ‹_›]; done)
      | (rw [qcC ‹_› ‹_› ‹_› ‹_› ‹_›]; done)
      | (rw [qcs ‹_› ‹_› ‹_› ‹_› ‹_› ‹_›,huu,qbW (by omega),Bool.true_and]; done)
      | (rw [qbV ‹_› ‹_› ‹_› ‹_› ‹_› ‹_›]; done)
    have ey:((ab.getD k 0).toNat:Int) = 0:=by simpa using aN
    refine wp_skip (qas (qab (qaq [0,1] kz ?_)))
    refine qaj [0,1] [] [(22,.v (.slice ah ab.length ai)),(23,.v (.int .i64 ((ab.length:Nat):Int))),(24,.v (.int .i64 (IntKind.i64.wrap (((k:Nat):Int) + 1))))] ae aM fun fD bw=>?_
    refine qaf (qab ?_)
    have bY:IntKind.i64.wrap (((k:Nat):Int) + 1) = ((k + 1:Nat):Int):=qaP (by omega)
    rw [bY] at bw
    exact ⟨ab.length - (k + 1),by omega,k + 1,rfl,by omega,fun q hq bZ=>by rcases Nat.lt_succ_iff_lt_or_eq.1 hq with h_ | h_; exact hz q h_ bZ; rw [h_] at bZ ⊢; first | assumption | omega,bw.pk,ae,bU⟩
   have ez:=of_decide_eq_false aL
   have b8:=bW
   rw [aL] at b8
   refine qaj [3,4,5] [] [(22,.v (.slice ah ab.length ai)),(23,.v (.int .i64 ((ab.length:Nat):Int))),(24,.v (.int .i64 ((k:Nat):Int))),(34,.v (.bool false))] ae b8 fun fE bx=>?_
   refine qaf (qab ?_)
   refine qam bx (b:=false) kz rfl ?_
   refine wp_skip (qas (qab (qaq [0,1] kz ?_)))
   refine qaj [0,1] [] [(22,.v (.slice ah ab.length ai)),(23,.v (.int .i64 ((ab.length:Nat):Int))),(24,.v (.int .i64 (IntKind.i64.wrap (((k:Nat):Int) + 1))))] ae bx fun fF bz=>?_
   refine qaf (qab ?_)
   have cd:IntKind.i64.wrap (((k:Nat):Int) + 1) = ((k + 1:Nat):Int):=qaP (by omega)
   rw [cd] at bz
   exact ⟨ab.length - (k + 1),by omega,k + 1,rfl,by omega,fun q hq bZ=>by rcases Nat.lt_succ_iff_lt_or_eq.1 hq with h_ | h_; exact hz q h_ bZ; rw [h_] at bZ ⊢; first | assumption | omega,bz.pk,ae,bU⟩
  have eB:=of_decide_eq_false bR
  refine wp_exit (qau (qau (qaL (qab (qar [(4,.v (.bool true))] ae bQ fun fG ce=>?_)))))
  refine wp_ret (qay (qat (qaM ce ae.cells (v:=.bool true) kz ?_)))
  refine ⟨congrArg (fun b_=>Ending.returned (Value.bool b_)) ?_,ae.step⟩
  first
   | (rw [qc1 ‹_›]; simp only [and1]; done)
   | (rw [qbN ‹_› ‹_›]; exact qbL hz (by omega); done)
   | (rw [qbN ‹_› ‹_›]; exact qbB (k:=k) (by omega) (by omega) ‹_›; done)
   | (rw [qcd ‹_› ‹_› (by omega) ‹_›]; done)
   | (rw [qcB ‹_› ‹_› (by omega) ‹_›]; done)
   | (rw [qcC ‹_› ‹_› ‹_› ‹_› ‹_›]; done)
   | (rw [qcs ‹_› ‹_› ‹_› ‹_› ‹_› ‹_›,huu,qbW (by omega),Bool.true_and]; done)
   | (rw [qbV ‹_› ‹_› ‹_› ‹_› ‹_› ‹_›]; done)
 have eC:k1 ≠ 7:=by simpa using bP
 refine wp_seq (qar [(2,.p 0 0),(3,.p 1 0),(10,.v (.int .i64 k1)),(36,.v (.bool (k1 == 8)))] aa bO fun fH aD=>?_)
 refine qaw aD (b:=k1 == 8) kz (fun aE=>?_) (fun aE=>?_)
 ·
  have eD:k1 = 8:=by simpa using aE
  refine wp_skip (qab (qa4 aD (b:=k1 == 8) kz (aE) ?_))
  refine wp_seq (qar [(3,.p 1 0),(41,.v (.bool (decide (y4 ≥ 0))))] aa aD fun fI aO=>?_)
  refine qaw aO (b:=decide (y4 ≥ 0)) kz (fun aP=>?_) (fun aP=>?_)
  ·
   have eE:=of_decide_eq_true aP
   refine qar [(4,.v (.bool aC))] aa aO fun fJ cm=>?_
   refine wp_ret (qat (qay (qat (qaM cm aa.cells (v:=.bool aC) kz ?_))))
   refine ⟨congrArg (fun b_=>Ending.returned (Value.bool b_)) ?_,aa.step⟩
   first
    | (rw [qc1 ‹_›]; simp only [and1]; done)
    | (rw [qbN ‹_› ‹_›]; exact qbL hz (by omega); done)
    | (rw [qbN ‹_› ‹_›]; exact qbB (k:=k) (by omega) (by omega) ‹_›; done)
    | (rw [qcd ‹_› ‹_› (by omega) ‹_›]; done)
    | (rw [qcB ‹_› ‹_› (by omega) ‹_›]; done)
    | (rw [qcC ‹_› ‹_› ‹_› ‹_› ‹_›]; done)
    | (rw [qcs ‹_› ‹_› ‹_› ‹_› ‹_› ‹_›,huu,qbW (by omega),Bool.true_and]; done)
    | (rw [qbV ‹_› ‹_› ‹_› ‹_› ‹_› ‹_›]; done)
  have eF:=of_decide_eq_false aP
  refine wp_skip (qab (qar [(4,.v (.bool (((ab.length:Nat):Int) == 0)))] aa aO fun fK cq=>?_))
  refine wp_ret (qay (qat (qaM cq aa.cells (v:=.bool (((ab.length:Nat):Int) == 0)) kz ?_)))
  refine ⟨congrArg (fun b_=>Ending.returned (Value.bool b_)) ?_,aa.step⟩
  first
   | (rw [qc1 ‹_›]; simp only [and1]; done)
   | (rw [qbN ‹_› ‹_›]; exact qbL hz (by omega); done)
   | (rw [qbN ‹_› ‹_›]; exact qbB (k:=k) (by omega) (by omega) ‹_›; done)
   | (rw [qcd ‹_› ‹_› (by omega) ‹_›]; done)
   | (rw [qcB ‹_› ‹_› (by omega) ‹_›]; done)
   | (rw [qcC ‹_› ‹_› ‹_› ‹_› ‹_›]; done)
   | (rw [qcs ‹_› ‹_› ‹_› ‹_› ‹_› ‹_›,huu,qbW (by omega),Bool.true_and]; done)
   | (rw [qbV ‹_› ‹_› ‹_› ‹_› ‹_› ‹_›]; done)
 have eG:k1 ≠ 8:=by simpa using aE
 refine qaq [0,1] kz ?_
 refine qaj [0,1] [] [(2,.p 0 0),(3,.p 1 0),(10,.v (.int .i64 k1)),(36,.v (.bool (k1 == 9)))] aa aD fun fL aQ=>?_
 refine qaf (qab ?_)
 refine qaw aQ (b:=k1 == 9) kz (fun aR=>?_) (fun aR=>?_)
 ·
  have eH:k1 = 9:=by simpa using aR
  refine wp_seq (qar [(3,.p 1 0),(41,.v (.bool (decide (y4 ≥ 0))))] aa aQ fun fM aS=>?_)
  refine qaw aS (b:=decide (y4 ≥ 0)) kz (fun aT=>?_) (fun aT=>?_)
  ·
   have eI:=of_decide_eq_true aT
   refine qar [(4,.v (.bool aC))] aa aS fun fN cr=>?_
   refine wp_ret (qat (qay (qat (qaM cr aa.cells (v:=.bool aC) kz ?_))))
   refine ⟨congrArg (fun b_=>Ending.returned (Value.bool b_)) ?_,aa.step⟩
   first
    | (rw [qc1 ‹_›]; simp only [and1]; done)
    | (rw [qbN ‹_› ‹_›]; exact qbL hz (by omega); done)
    | (rw [qbN ‹_› ‹_›]; exact qbB (k:=k) (by omega) (by omega) ‹_›; done)
    | (rw [qcd ‹_› ‹_› (by omega) ‹_›]; done)
    | (rw [qcB ‹_› ‹_› (by omega) ‹_›]; done)
    | (rw [qcC ‹_› ‹_› ‹_› ‹_› ‹_›]; done)
    | (rw [qcs ‹_› ‹_› ‹_› ‹_› ‹_› ‹_›,huu,qbW (by omega),Bool.true_and]; done)
    | (rw [qbV ‹_› ‹_› ‹_› ‹_› ‹_› ‹_›]; done)
  have eJ:=of_decide_eq_false aT
  refine wp_skip (qab (qar [(4,.v (.bool (((ab.length:Nat):Int) == 0)))] aa aS fun fO cu=>?_))
  refine wp_ret (qay (qat (qaM cu aa.cells (v:=.bool (((ab.length:Nat):Int) == 0)) kz ?_)))
  refine ⟨congrArg (fun b_=>Ending.returned (Value.bool b_)) ?_,aa.step⟩
  first
   | (rw [qc1 ‹_›]; simp only [and1]; done)
   | (rw [qbN ‹_› ‹_›]; exact qbL hz (by omega); done)
   | (rw [qbN ‹_› ‹_›]; exact qbB (k:=k) (by omega) (by omega) ‹_›; done)
   | (rw [qcd ‹_› ‹_› (by omega) ‹_›]; done)
   | (rw [qcB ‹_› ‹_› (by omega) ‹_›]; done)
   | (rw [qcC ‹_› ‹_› ‹_› ‹_› ‹_›]; done)
   | (rw [qcs ‹_› ‹_› ‹_› ‹_› ‹_› ‹_›,huu,qbW (by omega),Bool.true_and]; done)
   | (rw [qbV ‹_› ‹_› ‹_› ‹_› ‹_› ‹_›]; done)
 have eK:k1 ≠ 9:=by simpa using aR
 refine qar [(2,.p 0 0),(3,.p 1 0),(10,.v (.int .i64 k1)),(48,.v (.bool (k1 == 11)))] aa aQ fun fP aU=>?_
 refine qaw aU (b:=k1 == 11) kz (fun aV=>?_) (fun aV=>?_)
 ·
  have eL:k1 = 11:=by simpa using aV
  refine qar [(4,.v (.bool (((aK.length:Nat):Int) == 0)))] aa aU fun fQ cw=>?_
  refine wp_ret (qay (qat (qaM cw aa.cells (v:=.bool (((aK.length:Nat):Int) == 0)) kz ?_)))
  refine ⟨congrArg (fun b_=>Ending.returned (Value.bool b_)) ?_,aa.step⟩
  first
   | (rw [qc1 ‹_›]; simp only [and1]; done)
   | (rw [qbN ‹_› ‹_›]; exact qbL hz (by omega); done)
   | (rw [qbN ‹_› ‹_›]; exact qbB (k:=k) (by omega) (by omega) ‹_›; done)
   | (rw [qcd ‹_› ‹_› (by omega) ‹_›]; done)
   | (rw [qcB ‹_› ‹_› (by omega) ‹_›]; done)
   | (rw [qcC ‹_› ‹_› ‹_› ‹_› ‹_›]; done)
   | (rw [qcs ‹_› ‹_› ‹_› ‹_› ‹_› ‹_›,huu,qbW (by omega),Bool.true_and]; done)
   | (rw [qbV ‹_› ‹_› ‹_› ‹_› ‹_› ‹_›]; done)
 have eM:k1 ≠ 11:=by simpa using aV
 refine qar [(2,.p 0 0),(3,.p 1 0),(54,.v (.bool (k1 == 10)))] aa aU fun fR aW=>?_
 refine qaw aW (b:=k1 == 10) kz (fun aX=>?_) (fun aX=>?_)
 ·
  have eN:k1 = 10:=by simpa using aX
  refine wp_seq (qar [(2,.p 0 0),(3,.p 1 0),(57,.v (.slice A9 l8.length aA)),(58,.v (.int .i64 ((l8.length:Nat):Int))),(59,.v (.int .i64 0))] aa aW fun fS cz=>?_)
  refine wp_block (wp_loop_ghost (fun n_ a_ w_=>∃ (k:Nat),n_ = l8.length - k ∧ k ≤ l8.length ∧ (usuals l8 (Tree.mk af ab aC aK aB) 0 = usuals (l8.drop k) (Tree.mk af ab aC aK aB) k) ∧ LInv aa 91 [⟨dF,0,[.int .i64 k1,.int .i64 y2,.int .i64 y3,.int .i64 y4,.int .i64 y5,.int .i64 y6,.int .i64 y7,.slice A9 l8.length aA],true⟩,⟨dI,0,[.int .i64 af,.slice ah ab.length ai,.bool aC,.slice bS aK.length bT,.slice bt aB.length bu],true⟩] [] [(2,.p 0 0),(3,.p 1 0),(57,.v (.slice A9 l8.length aA)),(58,.v (.int .i64 ((l8.length:Nat):Int))),(59,.v (.int .i64 ((k:Nat):Int)))] a_ w_) (l8.length) ⟨0,by omega,by omega,rfl,cz.pk,aa,Fr.refl _ _ _⟩ ?_)
  rintro fT fU fV ⟨k,eO,eP,huu,cA,ac,cB⟩
  refine qar [(2,.p 0 0),(3,.p 1 0),(57,.v (.slice A9 l8.length aA)),(58,.v (.int .i64 ((l8.length:Nat):Int))),(59,.v (.int .i64 ((k:Nat):Int))),(60,.v (.bool (decide (((k:Nat):Int) < ((l8.length:Nat):Int)))))] ac cA fun fW aY=>?_
  refine wp_seq (qaw aY (b:=decide (((k:Nat):Int) < ((l8.length:Nat):Int))) kz (fun aZ=>?_) (fun aZ=>?_))
  ·
   have eQ:=of_decide_eq_true aZ
   refine wp_skip (qab (wp_seq (wp_block (qae [0,1,2,3,4,5] kz ?_))))
   refine qaj [0] [1,2,3,4,5] [(2,.p 0 0),(3,.p 1 0),(57,.v (.slice A9 l8.length aA)),(58,.v (.int .i64 ((l8.length:Nat):Int))),(59,.v (.int .i64 ((k:Nat):Int))),(61,.v (.int .i64 ((k:Nat):Int)))] ac aY fun fX cC=>?_
   obtain ⟨dV,dW,cD,eR,ba⟩:=Slots.get dE (i:=k) (by omega)
   obtain ⟨dX,aF⟩:∃ x,l8[k]? = some x:=⟨_,List.getElem?_eq_getElem (by omega)⟩
   have bd:=em k dX aF
   obtain ⟨aj,ak,al,am,ao,ap,ar,au,aI,aJ,eS,rfl,bf,dY,fY⟩:=bd.open_
   rw [bf] at bd
   have dZ:=dY.small
   rw [bf] at ba
   refine qal (qax cC (t:=29) (A:=A9) (m:=l8.length) (q:=((k:Nat):Int)) (d:=62) kz (e:=51) (size:=8) (bytes:=80) kz cD rfl (by omega) fun fZ cE=>?_)
   refine qal (qaU cE (t:=51) (b:=dV) (o:=dW + k * 8) (d:=63) kz (cs:=(z4 aj ak al am ao ap ar aI au.length aJ)) (v:=.agg #[.int .i64 aj,.int .i64 ak,.int .i64 al,.int .i64 am,.int .i64 ao,.int .i64 ap,.int .i64 ar,.slice aI au.length aJ]) kz (AtF.move ba ac.step nilM qbb).at_ fun f5 cG=>?_)
   refine qal (qaS ac cG (d:=8) (cs:=z16) kz fun f7 f8 f9 eU eV cH bA cI=>?_)
   refine qaj [4] [5] [(2,.p 0 0),(3,.p 1 0),(7,.v (.int .i64 ((k:Nat):Int))),(8,.p 2 0),(57,.v (.slice A9 l8.length aA)),(58,.v (.int .i64 ((l8.length:Nat):Int))),(59,.v (.int .i64 ((k:Nat):Int))),(63,.v (.agg #[.int .i64 aj,.int .i64 ak,.int .i64 al,.int .i64 am,.int .i64 ao,.int .i64 ap,.int .i64 ar,.slice aI au.length aJ]))] bA cI fun ga cJ=>?_
   refine qal (qap bA cJ (oi:=2) (cs:=(z4 aj ak al am ao ap ar aI au.length aJ)) kz fun gb cK cL cM=>?_)
   refine qaf (qab ?_)
   refine qaE 6 kz cL fun gc cN av cO=>?_
   refine qaD [0,1,2] [(2,.p 0 0),(3,.p 1 0),(57,.v (.slice A9 l8.length aA)),(58,.v (.int .i64 ((l8.length:Nat):Int))),(59,.v (.int .i64 ((k:Nat):Int))),(64,.v (.agg #[.int .i64 aj,.int .i64 ak,.int .i64 al,.int .i64 am,.int .i64 ao,.int .i64 ap,.int .i64 ar,.slice aI au.length aJ])),(65,.v (.agg #[.int .i64 af,.slice ah ab.length ai,.bool aC,.slice bS aK.length bT,.slice bt aB.length bu])),(66,.v (.int .i64 ((k:Nat):Int)))] 3 (qaa (qac (qaa (qaa (qac (qaa (qac (qaa qad)))))))) (fun _ h=>h.cells) cO cM fun gd cP=>?_
   refine qan (i:=3) kz (qak cP (f:=33) (vs:=[.agg #[.int .i64 af,.slice ah ab.length ai,.bool aC,.slice bS aK.length bT,.slice bt aB.length bu],.int .i64 ((k:Nat):Int)]) (d:=67) kz Tryz.call33 (sAt _ _ k _ _ (ht.move av.step nilM av.imm)) ?_)
   rintro e_ ge ⟨eW,rfl,cQ,aw⟩
   have bg:=cQ.move aw nilM (fun b o h_ hb_=>av.laid (G:=F) aw b o (.inl h_) (Nat.lt_of_lt_of_le hb_ aw.size))
   obtain ⟨d5,d6,d7,d8,d9,ea,eb,ec,ee,ef,eg,eX,eY,bh,eh,ei,gg,gh⟩:=bg.open_
   rw [bh] at bg
   have ej:=eh.small
   have ek:=ei.small
   rw [bh]
   refine ⟨_,rfl,fun gi cR=>?_⟩
   have ax:=av.next_nil aw
   have bi:=av.frN aw
   have cS:=TT.ofW bi ax
   refine ⟨fun _=>cS,?_⟩
   refine qan (i:=4) kz (qak cR (f:=35) (vs:=[.agg #[.int .i64 aj,.int .i64 ak,.int .i64 al,.int .i64 am,.int .i64 ao,.int .i64 ap,.int .i64 ar,.slice aI au.length aJ],.agg #[.int .i64 d5,.slice ea d6.length eb,.bool d7,.slice ec d8.length ee,.slice ef d9.length eg]]) (d:=68) kz Tryz.call35 ( hu _ _ _ _ _ _ (bd.move ax.step nilM ax.imm) (by have h_:=qdU aF; rw [qfc] at hd; omega) bg) ?_)
   rintro e_ gj ⟨rfl,bB⟩
   refine ⟨_,rfl,fun gk cT=>?_⟩
   have ag:=ax.next_nil bB
   have bC:=ax.frN bB
   have bD:=TT.ofW (bi.trans bC) ag
   refine ⟨fun _=>bD,?_⟩
   refine qaD [5] [(2,.p 0 0),(3,.p 1 0),(57,.v (.slice A9 l8.length aA)),(58,.v (.int .i64 ((l8.length:Nat):Int))),(59,.v (.int .i64 ((k:Nat):Int))),(69,.v (.bool (!(Fld.usual (Fld.mk aj ak al am ao ap ar au) (Tree.at_ (Tree.mk af ab aC aK aB) k)))))] 0 (qaa (qac (qaa (qaa (qac (qaa (qac (qaa qad)))))))) (fun _ h=>h.cells) bD cT fun gl bj=>?_
   refine qaC kz ?_ _
   refine qab (qaw bj (b:=!(Fld.usual (Fld.mk aj ak al am ao ap ar au) (Tree.at_ (Tree.mk af ab aC aK aB) k))) kz (fun bk=>?_) (fun bk=>?_))
   ·
    refine qar [(4,.v (.bool false))] ag bj fun gm cU=>?_
    refine wp_ret (qay (qat (qat (qay (qat (qay (qat (qaM cU ag.cells (v:=.bool false) kz ?_))))))))
    refine ⟨congrArg (fun b_=>Ending.returned (Value.bool b_)) ?_,ag.step⟩
    first
     | (rw [qc1 ‹_›]; simp only [and1]; done)
     | (rw [qbN ‹_› ‹_›]; exact qbL hz (by omega); done)
     | (rw [qbN ‹_› ‹_›]; exact qbB (k:=k) (by omega) (by omega) ‹_›; done)
     | (rw [qcd ‹_› ‹_› (by omega) ‹_›]; done)
     | (rw [qcB ‹_› ‹_› (by omega) ‹_›]; done)
     | (rw [qcC ‹_› ‹_› ‹_› ‹_› ‹_›]; done)
     | (rw [qcs ‹_› ‹_› ‹_› ‹_› ‹_› ‹_›,huu,qbW (by omega),Bool.true_and]; done)
     | (rw [qbV ‹_› ‹_› ‹_› ‹_› ‹_› ‹_›]; done)
     | (rw [qcs ‹_› ‹_› ‹_› ‹_› ‹_› ‹_›,huu,qhm aF (by simpa using bk),Bool.false_and]; done)
   refine wp_skip (qas (qab (qaq [0,1] kz ?_)))
   refine qaj [0,1] [] [(2,.p 0 0),(3,.p 1 0),(57,.v (.slice A9 l8.length aA)),(58,.v (.int .i64 ((l8.length:Nat):Int))),(59,.v (.int .i64 (IntKind.i64.wrap (((k:Nat):Int) + 1))))] ag bj fun gn cV=>?_
   refine qaf (qab ?_)
   obtain ⟨bE,cW,cX⟩:=ag.cutB cV 2 [⟨dF,0,(z4 k1 y2 y3 y4 y5 y6 y7 A9 l8.length aA),true⟩,⟨dI,0,(z2 af ah ab.length ai aC bS aK.length bT bt aB.length bu),true⟩] [(2,.p 0 0),(3,.p 1 0),(57,.v (.slice A9 l8.length aA)),(58,.v (.int .i64 ((l8.length:Nat):Int))),(59,.v (.int .i64 (IntKind.i64.wrap (((k:Nat):Int) + 1))))]
   have cY:IntKind.i64.wrap (((k:Nat):Int) + 1) = ((k + 1:Nat):Int):=qaP (by omega)
   rw [cY] at bE
   exact ⟨l8.length - (k + 1),by omega,k + 1,rfl,by omega,by rw [huu]; exact qhl aF (by simpa using bk),bE.pk,cW,((((((cB.trans cH).trans cK).trans cN).trans bi).trans bC).trans cX)⟩
  have eZ:=of_decide_eq_false aZ
  refine wp_exit (qau (qau (qaL (qab (qae [0,1,2,3,4,5,6,7] kz ?_)))))
  refine qaj [0,1,2,3] [4,5,6,7] [(72,.v (.slice A9 l8.length aA)),(74,.v (.slice bt aB.length bu))] ac aY fun gp cZ=>?_
  refine qal (qak cZ (f:=38) (vs:=[.slice A9 l8.length aA,.slice bt aB.length bu]) (d:=75) kz Tryz.call38 (qgp _ _ l8 _ _ aB _ _ ⟨dD,(dE.move ac.step nilM ac.imm),(fun i_ x_ h_=>((em i_ x_ h_).move ac.step nilM ac.imm))⟩ (fh.move ac.step nilM ac.imm)) ?_)
  rintro e_ gq ⟨gt,gv,rfl,c5,bn⟩
  have e9:=c5.move (Step.refl _ Nil) nilM (ac.laid (G:=F) bn)
  refine ⟨_,rfl,fun gw c6=>?_⟩
  have bo:=ac.next_nil bn
  have fa:=ac.frN bn
  refine qaj [5,6,7] [] [(4,.v (.bool ((((qai l8 aB).length:Nat):Int) == 0)))] bo c6 fun gx da=>?_
  refine qaf (qab ?_)
  refine wp_ret (qay (qat (qaM da bo.cells (v:=.bool ((((qai l8 aB).length:Nat):Int) == 0)) kz ?_)))
  refine ⟨congrArg (fun b_=>Ending.returned (Value.bool b_)) ?_,bo.step⟩
  first
   | (rw [qc1 ‹_›]; simp only [and1]; done)
   | (rw [qbN ‹_› ‹_›]; exact qbL hz (by omega); done)
   | (rw [qbN ‹_› ‹_›]; exact qbB (k:=k) (by omega) (by omega) ‹_›; done)
   | (rw [qcd ‹_› ‹_› (by omega) ‹_›]; done)
   | (rw [qcB ‹_› ‹_› (by omega) ‹_›]; done)
   | (rw [qcC ‹_› ‹_› ‹_› ‹_› ‹_›]; done)
   | (rw [qcs ‹_› ‹_› ‹_› ‹_› ‹_› ‹_›,huu,qbW (by omega),Bool.true_and]; done)
   | (rw [qbV ‹_› ‹_› ‹_› ‹_› ‹_› ‹_›]; done)
 have fb:k1 ≠ 10:=by simpa using aX
 refine wp_skip (qas (qab (qaE 13 kz aa fun gy fe bF db=>?_)))
 refine qaD [0,1,2,3,6,7,8,9] [(79,.v (.int .i64 af)),(81,.v (.int .i64 k1)),(85,.v (.int .i64 y6)),(87,.v (.int .i64 k1))] 6 (qaa qad) (fun _ h=>h.cells) db aW fun gz dc=>?_
 refine qan (i:=4) kz (qak dc (f:=71) (vs:=[.int .i64 k1]) (d:=82) kz Tryz.call71 (qjp k1 _) ?_)
 rintro e_ gA ⟨rfl,bG⟩
 refine ⟨_,rfl,fun gB de=>?_⟩
 have bH:=bF.next_nil bG
 have ay:=bF.frN bG
 have df:=TT.ofW ay bH
 refine ⟨fun _=>df,?_⟩
 refine qan (i:=5) kz (qak de (f:=70) (vs:=[.int .i64 af,.int .i64 ((qbA k1:Nat):Int)]) (d:=83) kz Tryz.call70 (qfD af (qbA k1) (by first | decide | exact qbE _ | omega) _) ?_)
 rintro e_ gC ⟨dg,dh,rfl,di,dj⟩
 refine ⟨_,rfl,fun gD dl=>?_⟩
 obtain ⟨bp,aG⟩:=bH.frFresh dj (brow dg dh 5 (be (qbA k1) af)) (Nat.le_refl _) di
 have dp:=TT.ofW (ay.trans aG) bp
 refine ⟨fun _=>dp,?_⟩
 refine qan (i:=10) kz (qak dl (f:=71) (vs:=[.int .i64 k1]) (d:=88) kz Tryz.call71 (qjp k1 _) ?_)
 rintro e_ gE ⟨rfl,bI⟩
 refine ⟨_,rfl,fun gF dq=>?_⟩
 have bJ:=bp.next_nil bI
 have bq:=bp.frN bI
 have dr:=TT.ofW ((ay.trans aG).trans bq) bJ
 refine ⟨fun _=>dr,?_⟩
 refine qan (i:=11) kz (qak dq (f:=70) (vs:=[.int .i64 y6,.int .i64 ((qbA k1:Nat):Int)]) (d:=89) kz Tryz.call70 (qfD y6 (qbA k1) (by first | decide | exact qbE _ | omega) _) ?_)
 rintro e_ gG ⟨dt,du,rfl,dv,dw⟩
 refine ⟨_,rfl,fun gH dx=>?_⟩
 obtain ⟨az,bK⟩:=bJ.frFresh dw (brow dt du 5 (be (qbA k1) y6)) (Nat.le_refl _) dv
 have dy:=TT.ofW (((ay.trans aG).trans bq).trans bK) az
 refine ⟨fun _=>dy,?_⟩
 refine qan (i:=12) kz (qak dx (f:=39) (vs:=[.slice dg ((be (qbA k1) af).length) dh,.slice dt ((be (qbA k1) y6).length) du]) (d:=90) kz Tryz.call39 (qeh _ _ _ _ (be (qbA k1) af) (be (qbA k1) y6) _ _ (qcA (az.own 0 _ rfl) (by first | omega | (rw [qbi]; decide) | (simp only [be_length]; exact Nat.le_trans (qbE _) (by decide)) | (have:=hroom; omega) | (have:=hmade; omega) | (simp only [List.length_append,List.length_nil]; omega)) (F:=fun _ _=>True) (fun _ _ _=>trivial)) (qcA (az.own 1 _ rfl) (by first | omega | (rw [qbi]; decide) | (simp only [be_length]; exact Nat.le_trans (qbE _) (by decide)) | (have:=hroom; omega) | (have:=hmade; omega) | (simp only [List.length_append,List.length_nil]; omega)) (F:=fun _ _=>True) (fun _ _ _=>trivial))) ?_)
 rintro e_ gI ⟨rfl,bL⟩
 refine ⟨_,rfl,fun gJ dz=>?_⟩
 have aH:=az.next_nil bL
 have dA:=az.frN bL
 have dB:=TT.ofW ((((ay.trans aG).trans bq).trans bK).trans dA) aH
 refine ⟨fun _=>dB,?_⟩
 refine qan (i:=13) kz (qbd [4] aH.cells dz (env':=[(4,.v (.bool (decide (be (qbA k1) af = be (qbA k1) y6))))]) kz fun gK dC=>?_)
 refine ⟨fun h=>absurd rfl h,?_⟩
 refine qaC kz ?_ _
 refine qab (wp_ret (qaM dC aH.cells (v:=.bool (decide (be (qbA k1) af = be (qbA k1) y6))) kz ?_))
 refine ⟨congrArg (fun b_=>Ending.returned (Value.bool b_)) ?_,aH.step⟩
 first
  | (rw [qc1 ‹_›]; simp only [and1]; done)
  | (rw [qbN ‹_› ‹_›]; exact qbL hz (by omega); done)
  | (rw [qbN ‹_› ‹_›]; exact qbB (k:=k) (by omega) (by omega) ‹_›; done)
  | (rw [qcd ‹_› ‹_› (by omega) ‹_›]; done)
  | (rw [qcB ‹_› ‹_› (by omega) ‹_›]; done)
  | (rw [qcC ‹_› ‹_› ‹_› ‹_› ‹_›]; done)
  | (rw [qcs ‹_› ‹_› ‹_› ‹_› ‹_› ‹_›,huu,qbW (by omega),Bool.true_and]; done)
  | (rw [qbV ‹_› ‹_› ‹_› ‹_› ‹_› ‹_›]; done)
theorem qhS:∀ d,qjs d
 | 0=>fun cf f ct t w F hf hd ht=>by
  obtain ⟨k,x1,x2,x3,x4,x5,x6,l,A,c,xs,rfl,_⟩:=hf.open_
  rw [qfc] at hd; omega
 | d + 1=>qhs (qhS d)
end Go.Proofs.YtfljkhecngpcmaaGreatDoor.ME