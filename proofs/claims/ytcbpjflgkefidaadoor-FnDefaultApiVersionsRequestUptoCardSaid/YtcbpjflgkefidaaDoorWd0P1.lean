/- The texts of a claim, put together: the engine, the contracts, the law. Own work. -/
import Derived.Test.YtcbpjflgkefidaaDoorWd0P0
import Derived.Test.YtcbpjflgkefidaaDoorRows
import Derived.WalkKit
import Derived.ProofKit
import Derived.OpenShut
import Derived.JoinedCond
import Derived.WideKeyArgs
import Derived.ChangeSame
import Derived.Laws.BytesArg
import Derived.Test.YtcbpjflgkefidaaDoorProg
namespace Go.Proofs.YtcbpjflgkefidaaDoor.ME
open Go
open Go.RowKit
set_option linter.unusedVariables false
set_option linter.unusedSimpArgs false
set_option maxRecDepth 20000
theorem qcS:∀ {l:List Fld} {i:Nat} {f:Fld},l[i]? = some f → f.depth ≤ depths l
 | [],i,f,h=>by simp at h
 | a :: r,0,f,h=>by
  simp only [List.getElem?_cons_zero,Option.some.injEq] at h
  subst h
  exact Nat.le_max_left _ _
 | a :: r,i + 1,f,h=>by
  have:=qcS (l:=r) (i:=i) (f:=f) (by simpa using h)
  exact Nat.le_trans this (Nat.le_max_right _ _)
theorem qdW (k x1 x2 x3 x4 x5 x6:Int) (l:List Fld):(Fld.mk k x1 x2 x3 x4 x5 x6 l).depth = depths l + 1:=by rw [Fld.depth]
section
variable {k x1 x2 x3 x4 x5 x6 n:Int} {l:List Fld} {s:Bs} {b:Bool} {ll:List Tree} {u:List (Int × Bs)}
theorem qb0 (h:k = 0):Fld.usual (.mk k x1 x2 x3 x4 x5 x6 l) (.mk n s b ll u) = (n % 2 == x5):=by
 subst h; rw [Fld.usual,if_pos rfl]; simp [Tree.N]; rfl
theorem qbd (h0:k ≠ 0) (h:k = 7):Fld.usual (.mk k x1 x2 x3 x4 x5 x6 l) (.mk n s b ll u) = (s.take 16).all (· == 0):=by
 rw [Fld.usual,if_neg h0,if_pos h]; rfl
theorem qbt (h0:k ≠ 0) (h7:k ≠ 7) (h:k = 8 ∨ k = 9) (hn:x3 ≥ 0):Fld.usual (.mk k x1 x2 x3 x4 x5 x6 l) (.mk n s b ll u) = b:=by
 rw [Fld.usual,if_neg h0,if_neg h7,if_pos h,if_pos hn]; rfl
theorem qbC (h0:k ≠ 0) (h7:k ≠ 7) (h:k = 8 ∨ k = 9) (hn:¬ x3 ≥ 0):Fld.usual (.mk k x1 x2 x3 x4 x5 x6 l) (.mk n s b ll u) = (((s.length:Nat):Int) == 0):=by
 rw [Fld.usual,if_neg h0,if_neg h7,if_pos h,if_neg hn,Bool.eq_iff_iff,decide_eq_true_iff,beq_iff_eq]
 show s.length = 0 ↔ _
 omega
theorem qbD (h0:k ≠ 0) (h7:k ≠ 7) (h8:k ≠ 8) (h9:k ≠ 9) (h:k = 11):Fld.usual (.mk k x1 x2 x3 x4 x5 x6 l) (.mk n s b ll u) = (((ll.length:Nat):Int) == 0):=by
 rw [Fld.usual,if_neg h0,if_neg h7,if_neg (by rintro (h | h); exact h8 h; exact h9 h),if_pos h,Bool.eq_iff_iff,decide_eq_true_iff,beq_iff_eq]
 show ll.length = 0 ↔ _
 omega
theorem qbw (h0:k ≠ 0) (h7:k ≠ 7) (h8:k ≠ 8) (h9:k ≠ 9) (h11:k ≠ 11) (h:k = 10):Fld.usual (.mk k x1 x2 x3 x4 x5 x6 l) (.mk n s b ll u) = (usuals l (.mk n s b ll u) 0 && (((qag l u).length:Nat):Int) == 0):=by
 rw [Fld.usual,if_neg h0,if_neg h7,if_neg (by rintro (h | h); exact h8 h; exact h9 h),if_neg h11,if_pos h]
 congr 1
 rw [Bool.eq_iff_iff,decide_eq_true_iff,beq_iff_eq]
 show (qag l u).length = 0 ↔ _
 omega
theorem qbf (h0:k ≠ 0) (h7:k ≠ 7) (h8:k ≠ 8) (h9:k ≠ 9) (h11:k ≠ 11) (h10:k ≠ 10):Fld.usual (.mk k x1 x2 x3 x4 x5 x6 l) (.mk n s b ll u) = decide (be (qa7 k) n = be (qa7 k) x5):=by
 rw [Fld.usual,if_neg h0,if_neg h7,if_neg (by rintro (h | h); exact h8 h; exact h9 h),if_neg h11,if_neg h10]; rfl
end
theorem qbc {s:Bs} {k:Nat} (h:∀ q,q < k → q < 16 → (((s.getD q 0).toNat:Nat):Int) = 0) (hk:s.length ≤ k):true = (s.take 16).all (· == 0):=by
 symm
 rw [List.all_eq_true]
 intro x hx
 obtain ⟨i,hi,rfl⟩:=List.getElem_of_mem hx
 rw [List.length_take] at hi
 have:=h i (by omega) (by omega)
 rw [List.getD_eq_getElem?_getD,List.getElem?_eq_getElem (show i < s.length by omega)] at this
 rw [List.getElem_take]
 simp only [Option.getD_some] at this
 have h0:s[i].toNat = 0:=by omega
 have:s[i] = 0:=UInt8.toNat.inj h0
 simp [this]
theorem qa5 {s:Bs} {k:Nat} (hk:k < s.length) (h:k < 16) (hn:(((s.getD k 0).toNat:Nat):Int) ≠ 0):false = (s.take 16).all (· == 0):=by
 symm
 rw [← Bool.not_eq_true,List.all_eq_true]
 intro hall
 have:=hall s[k] (by
  rw [List.mem_iff_getElem?]
  exact ⟨k,by rw [List.getElem?_take,if_pos h,List.getElem?_eq_getElem hk]⟩)
 rw [List.getD_eq_getElem?_getD,List.getElem?_eq_getElem hk] at hn
 simp only [beq_iff_eq] at this
 rw [this] at hn
 exact hn rfl
theorem qbE {α:Type} {l:List α} {k:Nat} {x:α} (h:l[k]? = some x):l.drop k = x :: l.drop (k + 1):=by
 obtain ⟨hk,rfl⟩:=List.getElem?_eq_some_iff.1 h
 exact List.drop_eq_getElem_cons hk
theorem qfz {l:List Fld} {k:Nat} {f:Fld} {T:Tree} (h:l[k]? = some f) (hu:f.usual (T.at_ k) = true):usuals (l.drop k) T k = usuals (l.drop (k + 1)) T (k + 1):=by
 rw [qbE h]
 show (f.usual (T.at_ k) && usuals (l.drop (k + 1)) T (k + 1)) = _
 rw [hu,Bool.true_and]
theorem qfA {l:List Fld} {k:Nat} {f:Fld} {T:Tree} (h:l[k]? = some f) (hu:f.usual (T.at_ k) = false):usuals (l.drop k) T k = false:=by
 rw [qbE h]
 show (f.usual (T.at_ k) && usuals (l.drop (k + 1)) T (k + 1)) = _
 rw [hu,Bool.false_and]
theorem qbg {l:List Fld} {k:Nat} {T:Tree} (h:l.length ≤ k):usuals (l.drop k) T k = true:=by
 rw [List.drop_eq_nil_of_le h]; rfl
section
variable {W:Fld → Tree → Bs} {l:List Fld} {k:Nat} {a x1 x2 x3 x4 x5 x6 v:Int} {s:List Fld} {t:Tree} {m:Nat}
theorem qdx (h:l[k]? = some (.mk a x1 x2 x3 x4 x5 x6 s)) (h1:x4 < 0) (h2:Fld.has (.mk a x1 x2 x3 x4 x5 x6 s) v = true):qaC W (l.drop k) v t k = W (.mk a x1 x2 x3 x4 x5 x6 s) (t.at_ k) ++ qaC W (l.drop (k + 1)) v t (k + 1):=by
 rw [qbE h,qaC,if_pos ⟨h1,h2⟩]
theorem qgq (h:l[k]? = some (.mk a x1 x2 x3 x4 x5 x6 s)) (h1:¬ x4 < 0):qaC W (l.drop k) v t k = qaC W (l.drop (k + 1)) v t (k + 1):=by
 rw [qbE h,qaC,if_neg (fun h=>h1 h.1),List.nil_append]
theorem qgr (h:l[k]? = some (.mk a x1 x2 x3 x4 x5 x6 s)) (h2:Fld.has (.mk a x1 x2 x3 x4 x5 x6 s) v = false):qaC W (l.drop k) v t k = qaC W (l.drop (k + 1)) v t (k + 1):=by
 rw [qbE h,qaC,if_neg (fun h=>by rw [h2] at h; cases h.2),List.nil_append]
theorem qfb (h:l.length ≤ k):qaC W (l.drop k) v t k = []:=by rw [List.drop_eq_nil_of_le h]; rfl
theorem qcT (h:l[k]? = some (.mk a x1 x2 x3 x4 x5 x6 s)) (h1:x4 = (m:Int)) (h2:Fld.usual (.mk a x1 x2 x3 x4 x5 x6 s) (t.at_ k) = false):tagB W (l.drop k) m t k = uv m ++ uv (W (.mk a x1 x2 x3 x4 x5 x6 s) (t.at_ k)).length ++ W (.mk a x1 x2 x3 x4 x5 x6 s) (t.at_ k) ++ tagB W (l.drop (k + 1)) m t (k + 1):=by
 rw [qbE h,tagB,if_pos ⟨h1,h2⟩]
theorem qg9 (h:l[k]? = some (.mk a x1 x2 x3 x4 x5 x6 s)) (h1:x4 ≠ (m:Int)):tagB W (l.drop k) m t k = tagB W (l.drop (k + 1)) m t (k + 1):=by
 rw [qbE h,tagB,if_neg (fun h=>h1 h.1),List.nil_append]
theorem qha (h:l[k]? = some (.mk a x1 x2 x3 x4 x5 x6 s)) (h2:Fld.usual (.mk a x1 x2 x3 x4 x5 x6 s) (t.at_ k) = true):tagB W (l.drop k) m t k = tagB W (l.drop (k + 1)) m t (k + 1):=by
 rw [qbE h,tagB,if_neg (fun h=>by rw [h2] at h; cases h.2),List.nil_append]
theorem qh7 (h:l.length ≤ k):tagB W (l.drop k) m t k = []:=by rw [List.drop_eq_nil_of_le h]; rfl
theorem qh8 (h:l[k]? = some (.mk a x1 x2 x3 x4 x5 x6 s)) (h1:x4 = (m:Int)) (h2:Fld.usual (.mk a x1 x2 x3 x4 x5 x6 s) (t.at_ k) = false):tagN W (l.drop k) m t k = 1 + tagN W (l.drop (k + 1)) m t (k + 1):=by
 rw [qbE h,tagN,if_pos ⟨h1,h2⟩]
theorem qhb (h:l[k]? = some (.mk a x1 x2 x3 x4 x5 x6 s)) (h1:x4 ≠ (m:Int)):tagN W (l.drop k) m t k = tagN W (l.drop (k + 1)) m t (k + 1):=by
 rw [qbE h,tagN,if_neg (fun h=>h1 h.1),Nat.zero_add]
theorem qhc (h:l[k]? = some (.mk a x1 x2 x3 x4 x5 x6 s)) (h2:Fld.usual (.mk a x1 x2 x3 x4 x5 x6 s) (t.at_ k) = true):tagN W (l.drop k) m t k = tagN W (l.drop (k + 1)) m t (k + 1):=by
 rw [qbE h,tagN,if_neg (fun h=>by rw [h2] at h; cases h.2),Nat.zero_add]
theorem qh9 (h:l.length ≤ k):tagN W (l.drop k) m t k = 0:=by rw [List.drop_eq_nil_of_le h]; rfl
theorem qjR (n:Nat):0 < (uv n).length:=by
 rw [uv]; split <;> simp
theorem qfB (W:Fld → Tree → Bs) (m:Nat) (t:Tree):∀ (l:List Fld) (i:Nat),tagN W l m t i ≤ (tagB W l m t i).length
 | [],i=>Nat.zero_le _
 | f :: r,i=>by
  have:=qfB W m t r (i + 1)
  rw [tagN,tagB,List.length_append]
  split
  ·have h1:=qjR m
   simp only [List.length_append]; omega
  simp; omega
theorem qfQ (W:Fld → Tree → Bs) (l:List Fld) (t:Tree):∀ k,qaF W l t k ≤ (qay W l t k).length
 | 0=>Nat.zero_le _
 | k + 1=>by
  have h1:=qfQ W l t k
  have h2:=qfB W k t l 0
  rw [qaF,qay,List.length_append]; omega
theorem qgs (W:Fld → Tree → Bs) (l:List Fld) (t:Tree) {i j:Nat} (h:i ≤ j):(qay W l t i).length ≤ (qay W l t j).length:=by
 induction j with
 | zero=>rw [Nat.le_zero.1 h]; omega
 | succ j ih =>
  rcases Nat.eq_or_lt_of_le h with he | he
  ·rw [he]; omega
  have:=ih (by omega)
  rw [qay,List.length_append]; omega
end
theorem qet (W:Fld → Tree → Bs) (l:List Fld) (v:Int) (n:Int) (s:Bs) (b:Bool) (ll:List Tree) (u:List (Int × Bs)):qdR W l v true (.mk n s b ll u) =
  qaC W l v (.mk n s b ll u) 0 ++ uv (qaF W l (.mk n s b ll u) (qan l).toNat + (qag l u).length) ++ (qay W l (.mk n s b ll u) (qan l).toNat ++ qaQ (qag l u)):=by
 rw [qdR,if_pos rfl,List.append_assoc]; rfl
theorem qhd (W:Fld → Tree → Bs) (l:List Fld) (v:Int) (t:Tree):qdR W l v false t = qaC W l v t 0:=by
 rw [qdR]; simp
theorem qhe (l:List Fld):IntKind.i64.wrap (qan l) = (((qan l).toNat:Nat):Int):=by
 have:=qdg l
 rw [wrap_i64 (by omega) (by omega)]; omega
theorem qcU {l:List (Int × Bs)} {k:Nat} {i:Int} {s:Bs} (h:l[k]? = some (i,s)):qaQ (l.take (k + 1)) = qaQ (l.take k) ++ (uv i.toNat ++ uv (qaz s).length ++ qaz s):=by
 unfold qaQ; exact qca h
theorem qeM {l:List (Int × Bs)} (k:Nat):(qaQ (l.take k)).length ≤ (qaQ l).length:=by
 unfold qaQ; exact qbZ l _ k
theorem qfR:∀ {l:List Tree} {i:Nat} {x:Tree},l[i]? = some x → x.depth ≤ deep l
 | [],i,x,h=>by simp at h
 | a :: r,0,x,h=>by
  simp only [List.getElem?_cons_zero,Option.some.injEq] at h
  subst h
  exact Nat.le_max_left _ _
 | a :: r,i + 1,x,h=>Nat.le_trans (qfR (l:=r) (i:=i) (by simpa using h)) (Nat.le_max_right _ _)
theorem qfc (n:Int) (s:Bs) (b:Bool) (l:List Tree) (u:List (Int × Bs)):(Tree.mk n s b l u).depth = deep l + 1:=by rw [Tree.depth]
theorem qcA {α:Type} {l:List α} {k:Nat} {x:α} (h:l[k]? = some x):l.take (k + 1) = l.take k ++ [x]:=by rw [List.take_add_one,h]; rfl
section
variable {F:Nat → Nat → Prop} {w0 w:World} {tb:Tb} {rs:List Rw}
theorem qhf (hW:WOk w0 Nil w tb rs) {k:Nat} {r:Rw} (hk:rs[k]? = some r):∀ g,r.A.map (·.block) = some g → ∀ o,Fp F w0 g o:=by
 intro g hg o
 rcases hW.ownM k r hk g hg with h | h
 ·exact .inr h
 exact (h 0).elim
theorem qia (hW:WOk w0 Nil w tb rs) {k:Nat} {A:Option Addr} {c e n:Nat} {xs:List Value} {l:List Tree} {css:List (List Value)} (hk:rs[k]? = some ⟨A,c,e,5,n,xs⟩) (hT:Trees w (Imm F w0 w tb rs) xs l css) (hn:n = l.length) (hsm:l.length ≤ 1099511627776) :
  Slots w (Fp F w0) 5 A c l.length (fun i=>css.getD i []) ∧ ∀ (i:Nat) (x:Tree),l[i]? = some x → TreeR w (Fp F w0) (css.getD i []) x :=
 (hT.move (Step.refl w Nil) nilM qbH).slots (hW.own k _ hk) hn hsm (qhf hW hk)
theorem qiV (hW:WOk w0 Nil w tb rs) {k:Nat} {A:Option Addr} {c e n:Nat} {xs:List Value} {l:List (Int × Bs)} {css:List (List Value)} (hk:rs[k]? = some ⟨A,c,e,2,n,xs⟩) (hT:Tags w (Imm F w0 w tb rs) xs l css) (hn:n = l.length) (hsm:l.length ≤ 1099511627776):TagsR w (Fp F w0) A c l :=
 (hT.move (Step.refl w Nil) nilM qbH).slots (hW.own k _ hk) hn hsm (qhf hW hk)
theorem qib (hW:WOk w0 Nil w tb rs) {A1 A2 A3:Option Addr} {c1 c2 c3 n2 n3:Nat} {n:Int} {s:Bs} {b:Bool} {l:List Tree} {u:List (Int × Bs)} {xs:Nat → List Value} {m:Nat} (hm:m = s.length) (hS:Octs w (Fp F w0) A1 c1 s) (hn2:n2 = l.length) (hL:Slots w (Fp F w0) 5 A2 c2 l.length xs ∧ ∀ (i:Nat) (x:Tree),l[i]? = some x → TreeR w (Fp F w0) (xs i) x)
  (hn3:n3 = u.length) (hU:TagsR w (Fp F w0) A3 c3 u) {t:Tree} (ht:t = .mk n s b l u):qdL w0 F t (.returned (.agg #[.int .i64 n,.slice A1 m c1,.bool b,.slice A2 n2 c2,.slice A3 n3 c3])) w:=by
 subst hm; subst hn2; subst hn3; subst ht
 exact ⟨_,rfl,TreeR.mk xs hS hL.1 hL.2 hU,hW.step⟩
theorem qiW {G:Nat → Nat → Prop}:∀ b o,G b o → b < w0.heap.size → Fp G w0 b o:=fun _ _ h _=>.inl h
end
theorem qfd (W:Fld → Tree → Tree) (t:Tree):∀ {l:List Fld} {i k:Nat} {f:Fld},l[k]? = some f → (qfs W l t i)[k]? = some (W f (t.at_ (i + k)))
 | [],i,k,f,h=>by simp at h
 | a :: r,i,0,f,h=>by
  simp only [List.getElem?_cons_zero,Option.some.injEq] at h
  subst h; rfl
 | a :: r,i,k + 1,f,h=>by
  rw [qfs,List.getElem?_cons_succ,qfd W t (l:=r) (i:=i + 1) (by simpa using h),show i + 1 + k = i + (k + 1) by omega]
theorem qic {W:Fld → Tree → Tree} {t:Tree} {l:List Fld} {k:Nat} {f:Fld} (h:l[k]? = some f):(qfs W l t 0)[k]? = some (W f (t.at_ k)):=by
 have:=qfd W t (i:=0) h
 rwa [Nat.zero_add] at this
def qeu (u:List (Int × Bs)):List (Int × Bs):=u.map fun x=>(x.1,qaz x.2)
theorem qev (u:List (Int × Bs)):(qeu u).length = u.length:=by rw [qeu,List.length_map]
section
variable {p:List Fld → Tree → Tree} {k x1 x2 x3 x4 x5 x6 v n:Int} {l:List Fld} {s:Bs} {b null:Bool} {ll:List Tree} {u:List (Int × Bs)}
end
def qhg (w:World):Ending → World → Prop:=fun en w'=>∃ b,en = .returned (.bool b) ∧ Step w w' Nil
structure Flds (w:World) (F:Nat → Nat → Prop) (xs:List Value) (l:List Fld) (css:List (List Value)):Prop where
 flat:Flat 8 xs css
 len:css.length = l.length
 each:∀ (i:Nat) (c:List Value) (x:Fld),css[i]? = some c → l[i]? = some x → FldR w F c x
theorem Flds.nil (w:World) (F:Nat → Nat → Prop):Flds w F [] [] []:=⟨Flat.nil 8,rfl,fun i c x h=>by simp at h⟩
theorem FldR.eight {w:World} {F:Nat → Nat → Prop} {cs:List Value} {t:Fld} (h:FldR w F cs t):cs.length = 8:=by
 obtain ⟨k,x1,x2,x3,x4,x5,x6,l,A,c,xs,rfl,rfl,_⟩:=h.open_; rfl
theorem FldR.one {w:World} {F:Nat → Nat → Prop} {cs:List Value} {t:Fld} (h:FldR w F cs t):∀ u ∈ cs,u.oneCell' = true:=by
 obtain ⟨k,x1,x2,x3,x4,x5,x6,l,A,c,xs,rfl,rfl,_⟩:=h.open_
 intro v hv
 simp only [List.mem_cons,List.not_mem_nil,or_false] at hv
 rcases hv with rfl | rfl | rfl | rfl | rfl | rfl | rfl | rfl <;> rfl
theorem Flds.snoc {w:World} {F:Nat → Nat → Prop} {xs:List Value} {l:List Fld} {css:List (List Value)} (h:Flds w F xs l css) {c:List Value} {x:Fld} (hx:FldR w F c x):Flds w F (xs ++ c) (l ++ [x]) (css ++ [c]):=by
 refine ⟨h.flat.snoc hx.eight,by simp [h.len],fun i d y hd hy=>?_⟩
 rcases qbk hd with ⟨h1,h2⟩ | ⟨h1,rfl⟩
 ·rcases qbk hy with ⟨_,h3⟩ | ⟨h3,_⟩
  ·exact h.each i d y h2 h3
  have:=h.len; omega
 rcases qbk hy with ⟨h3,_⟩ | ⟨_,rfl⟩
 ·have:=h.len; omega
 exact hx
theorem Flds.slots {w0 w:World} {tb:Tb} {rs:List Rw} {F:Nat → Nat → Prop} (hW:WOk w0 Nil w tb rs) {k e n:Nat} {A:Option Addr} {c:Nat} {xs:List Value} {l:List Fld} {css:List (List Value)} (hk:rs[k]? = some ⟨A,c,e,8,n,xs⟩) (h:Flds w (Fp F w0) xs l css) (hn:n = l.length) (hsm:l.length ≤ 1099511627776) :
  Slots w (Fp F w0) 8 A c l.length (fun i=>css.getD i []) ∧ ∀ (i:Nat) (x:Fld),l[i]? = some x → FldR w (Fp F w0) (css.getD i []) x:=by
 subst hn
 have ho:=hW.own k _ hk
 have h1:∀ u ∈ xs,u.oneCell' = true:=by
  intro v hv
  rw [h.flat.eq] at hv
  obtain ⟨c,hc,hv⟩:=List.mem_flatten.1 hv
  obtain ⟨i,hi,rfl⟩:=List.getElem_of_mem hc
  have hl:=h.len
  exact (h.each i _ _ (List.getElem?_eq_getElem hi) (List.getElem?_eq_getElem (show i < l.length by omega))).one v hv
 refine ⟨?_,fun i x hx=>?_⟩
 ·have hx:=h.flat
  simp only [Rw.v] at ho
  rw [← h.len] at ho ⊢
  exact hx.slots ho h1 (by rw [h.len]; exact hsm) (qhf hW hk)
 have hi:i < css.length:=by rw [h.len]; exact (List.getElem?_eq_some_iff.1 hx).1
 have:css.getD i [] = css[i]:=by rw [List.getD_eq_getElem?_getD,List.getElem?_eq_getElem hi]; rfl
 rw [this]
 exact h.each i _ x (List.getElem?_eq_getElem hi) hx
theorem qdN (w:World) (F:Nat → Nat → Prop):Slots w F 8 none 0 ([]:List Fld).length (fun _=>[]) ∧ ∀ (i:Nat) (x:Fld),([]:List Fld)[i]? = some x → FldR w F [] x :=
 ⟨Slots.nil w F 8 _,fun i x h=>by simp at h⟩
def qjo (w:World) (F:Nat → Nat → Prop) (l:List Fld) (x:Int):Ending → World → Prop:=fun en w'=>∃ A c,en = .returned (.agg #[.slice A l.length c,.int .i64 x]) ∧ FldsR w' (Fp F w) A c l ∧ Step w w' Nil
theorem qea (y:Int × Bs) (r:List (Int × Bs)) (k:Int):qcn (y :: r) k = if y.1 < k then qcn r k + 1 else 0:=by
 unfold qcn
 rw [List.takeWhile_cons]
 by_cases h:y.1 < k
 ·simp [h]
 simp [h]
theorem qc8 {least:Int} {y t:Int × Bs} {r:List (Int × Bs)} (h:y.1 < t.1):qbi least (y :: r) t = y :: qbi least r t:=by
 unfold qbi
 rw [qea,if_pos h]
 simp only [List.length_cons,Nat.add_lt_add_iff_right,List.getD_cons_succ,List.take_succ_cons,List.drop_succ_cons,List.cons_append]
 split <;> rfl
theorem qc9 {least:Int} {y t:Int × Bs} {r:List (Int × Bs)} (h:¬ y.1 < t.1):qbi least (y :: r) t = if t.1 < least ∨ y.1 = t.1 then y :: r else t :: y :: r:=by
 unfold qbi
 rw [qea,if_neg h]
 simp only [List.length_cons,Nat.zero_lt_succ,List.getD_cons_zero,List.take_zero,List.drop_zero,List.nil_append,true_and]
theorem qew {least:Int} {t:Int × Bs}:qbi least [] t = if t.1 < least then [] else [t]:=by
 unfold qbi
 simp [qcn]
theorem qdD {least:Int} {t:Int × Bs}:∀ {out:List (Int × Bs)},∀ x ∈ qbi least out t,x = t ∨ x ∈ out
 | [],x,hx=>by
  rw [qew] at hx
  split at hx
  ·cases hx
  exact .inl (List.mem_singleton.1 hx)
 | y :: r,x,hx=>by
  by_cases h:y.1 < t.1
  ·rw [qc8 h] at hx
   rcases List.mem_cons.1 hx with rfl | hx
   ·exact .inr (List.mem_cons_self ..)
   rcases qdD x hx with h1 | h1
   ·exact .inl h1
   exact .inr (List.mem_cons_of_mem _ h1)
  rw [qc9 h] at hx
  split at hx
  ·exact .inr hx
  rcases List.mem_cons.1 hx with rfl | hx
  ·exact .inl rfl
  exact .inr hx
theorem qdy {least:Int} {t:Int × Bs}:∀ {out:List (Int × Bs)},qcc out → qcc (qbi least out t)
 | [],_=>by
  rw [qew]
  split
  ·exact List.Pairwise.nil
  exact List.pairwise_singleton _ _
 | y :: r,h=>by
  have h1:=@List.rel_of_pairwise_cons _ _ _ _ h
  have h2:=List.Pairwise.of_cons h
  by_cases hlt:y.1 < t.1
  ·rw [qc8 hlt]
   refine List.pairwise_cons.2 ⟨fun z hz=>?_,qdy h2⟩
   rcases qdD z hz with rfl | hz
   ·exact hlt
   exact h1 hz
  rw [qc9 hlt]
  split
  ·exact h
  rename_i hn
  refine List.pairwise_cons.2 ⟨fun z hz=>?_,h⟩
  rcases List.mem_cons.1 hz with rfl | hz
  ·omega
  have:=h1 hz; omega
theorem qdO {least:Int}:∀ {l out:List (Int × Bs)},qcc out → qcc (l.foldl (qbi least) out)
 | [],_,h=>h
 | x :: r,_,h=>qdO (l:=r) (qdy h)
theorem qfe {least:Int}:∀ {l out:List (Int × Bs)},(l.foldl (qbi least) out).length ≤ out.length + l.length
 | [],_=>Nat.le_refl _
 | x :: r,out=>by
  have h1:=qfe (least:=least) (l:=r) (out:=qbi least out x)
  have h2:=qgp least out x
  rw [List.foldl_cons,List.length_cons]
  omega
theorem qff {least:Int}:∀ {l out:List (Int × Bs)},∀ x ∈ l.foldl (qbi least) out,x ∈ out ∨ x ∈ l
 | [],_,x,hx=>.inl hx
 | y :: r,out,x,hx=>by
  rcases qff (l:=r) x hx with h | h
  ·rcases qdD x h with rfl | h
   ·exact .inr (List.mem_cons_self ..)
   exact .inl h
  exact .inr (List.mem_cons_of_mem _ h)
theorem qeb (l:List Fld) (u:List (Int × Bs)):qcc (qag l u):=qdO List.Pairwise.nil
theorem qfg (l:List Fld) (u:List (Int × Bs)):(qag l u).length ≤ 32767:=by
 have h:=qfe (least:=qan l) (l:=u.take 32767) (out:=[])
 rw [List.length_take,List.length_nil] at h
 unfold qag
 omega
theorem qfh {l:List Fld} {u:List (Int × Bs)}:∀ x ∈ qag l u,x ∈ u:=fun x hx=>by
 rcases qff x hx with h | h
 ·cases h
 exact List.mem_of_mem_take h
theorem qeN {u:List (Int × Bs)} (h:qcc u):qcc (qeu u):=List.pairwise_map.2 h
theorem qfC (u:List (Int × Bs)):qc0 (qeu u) = qaQ u:=by
 unfold qc0 qeu qaQ tagR
 rw [List.flatMap_map]
theorem qjp (v:Int) (d:Nat) (l:List Fld) (t:Tree):(fitT v d l t).U = qeu (qag l t.U):=by cases d <;> rfl
theorem qhh {v:Int} {d:Nat} {l:List Fld} {t:Tree} {i:Nat} {f:Fld} (h:l[i]? = some f):(fitT v (d + 1) l t).at_ i = qb4 (fitT v d) v f (t.at_ i):=by
 have h1:=qic (W:=qb4 (fitT v d) v) (t:=t) h
 have e:(fitT v (d + 1) l t).L = qfs (qb4 (fitT v d) v) l t 0:=rfl
 rw [Tree.at_,e,List.getD_eq_getElem?_getD,h1]
 rfl
theorem qjS {v:Int} {d:Nat} {l:List Fld} {t:Tree} {i:Nat} {k x1 x2 x3 x4 x5 x6:Int} {s:List Fld} (h:l[i]? = some (.mk k x1 x2 x3 x4 x5 x6 s)) (hk:k < 8):((fitT v (d + 1) l t).at_ i).N = (t.at_ i).N:=by
 rw [qhh h]
 have e1:k ≠ 11:=by omega
 have e2:¬ (k = 8 ∨ k = 9):=by omega
 have e3:k ≠ 10:=by omega
 simp [qb4,qdd,Fld.kind,e1,e2,e3,Tree.N]
theorem qhi {v:Int} (h0:0 ≤ v) (h1:v < 32768):IntKind.i16.wrap v = v:=by
 have:IntKind.i16.wrap v = (v + 32768) % 65536 - 32768:=by simp [IntKind.wrap,IntKind.signed,IntKind.bits]; omega
 omega
theorem qiX (x:Int):be 8 (IntKind.i64.wrap x) = be 8 x:=by
 rw [IntKind.wrap_i64]
 simp only [be,List.cons.injEq,and_true]
 refine ⟨qaT ?_,qaT ?_,qaT ?_,qaT ?_,qaT ?_,qaT ?_,qaT ?_,qaT ?_⟩ <;> simp only [Int.reducePow] <;> omega
theorem qjq (x:Int):be 1 (IntKind.i8.wrap x) = be 1 x:=by
 have:IntKind.i8.wrap x = (x + 128) % 256 - 128:=by simp [IntKind.wrap,IntKind.signed,IntKind.bits]; omega
 rw [this]
 simp only [be,List.cons.injEq,and_true]
 refine qaT ?_
 simp only [Int.reducePow]; omega
def qfS (s:Bs):Bs:=(List.range 16).map fun i=>s.getD i 0
theorem qeO (s:Bs):qfS s = qdt s:=by
 apply List.ext_getElem?
 intro i
 unfold qfS qdt
 rw [List.getElem?_map,List.getElem?_append,List.length_take]
 by_cases h:i < 16
 ·rw [List.getElem?_range h]
  by_cases hs:i < s.length
  ·rw [if_pos (by omega),List.getElem?_take,if_pos h,Option.map_some,List.getD_eq_getElem?_getD,List.getElem?_eq_getElem hs]; rfl
  rw [if_neg (by omega),List.getElem?_replicate,if_pos (by omega),Option.map_some,List.getD_eq_getElem?_getD,List.getElem?_eq_none (by omega)]; rfl
 rw [List.getElem?_eq_none (by simp; omega)]
 by_cases hs:i < min 16 s.length
 ·omega
 rw [if_neg hs,List.getElem?_replicate,if_neg (by omega)]; rfl
theorem qjr {x m:Int} (h0:0 ≤ x) (h1:x ≤ 255) (hm:0 < m) (hm':m ≤ 32768):0 ≤ Int.tmod x m ∧ Int.tmod x m < 32768:=by
 rw [Int.tmod_eq_emod_of_nonneg h0]
 have g1:=Int.emod_nonneg x (show m ≠ 0 by omega)
 have g2:=Int.emod_lt_of_pos x hm
 omega
def usz:List (Int × Bs) → Nat
 | []=>0
 | x :: r=>(1 + (uv x.1.toNat).length + x.2.length) + usz r
def Tree.size:Tree → Nat
 | .mk _ s _ l u=>sizes l + (1 + s.length + usz u)
where sizes:List Tree → Nat
 | []=>0
 | t :: r=>t.size + sizes r
abbrev sizes:=Tree.size.sizes
theorem Tree.size_mk (n:Int) (s:Bs) (b:Bool) (l:List Tree) (u:List (Int × Bs)):(Tree.mk n s b l u).size = sizes l + (1 + s.length + usz u):=by rw [Tree.size]
theorem Tree.size_pos (t:Tree):1 ≤ t.size:=by cases t; rw [Tree.size_mk]; omega
theorem Tree.size_S (t:Tree):t.S.length ≤ t.size:=by cases t; rw [Tree.size_mk]; show List.length _ ≤ _; simp only [Tree.S]; omega
theorem Tree.size_U (t:Tree):usz t.U ≤ t.size:=by cases t; rw [Tree.size_mk]; simp only [Tree.U]; omega
theorem Tree.size_L (t:Tree):sizes t.L ≤ t.size:=by cases t; rw [Tree.size_mk]; simp only [Tree.L]; omega
theorem qfi:∀ {l:List Tree} {i:Nat} {x:Tree},l[i]? = some x → x.size ≤ sizes l
 | [],i,x,h=>by simp at h
 | t :: r,0,x,h=>by
  simp only [List.getElem?_cons_zero,Option.some.injEq] at h
  subst h
  exact Nat.le_add_right _ _
 | t :: r,i + 1,x,h=>Nat.le_trans (qfi (l:=r) (i:=i) (by simpa using h)) (Nat.le_add_left _ _)
theorem qex:∀ (l:List Tree) (k:Nat),sizes (l.take k) ≤ sizes l
 | [],k=>by simp
 | t :: r,0=>Nat.zero_le _
 | t :: r,k + 1=>Nat.add_le_add_left (qex r k) _
theorem qhj:∀ (l:List Tree),l.length ≤ sizes l
 | []=>Nat.zero_le _
 | t :: r=>by
  have h1:=t.size_pos
  have h2:=qhj r
  show r.length + 1 ≤ t.size + sizes r
  omega
theorem qhk (t:Tree) (i:Nat):(t.at_ i).size ≤ t.size:=by
 unfold Tree.at_
 rw [List.getD_eq_getElem?_getD]
 cases h:t.L[i]? with
 | none =>
  have h1:=t.size_pos
  have:Tree.zero.size = 1:=by unfold Tree.zero; rw [Tree.size_mk]; rfl
  show Tree.zero.size ≤ _
  omega
 | some x=>exact Nat.le_trans (qfi h) t.size_L
theorem qdE:∀ (a b:List (Int × Bs)),usz (a ++ b) = usz a + usz b
 | [],b=>by simp [usz]
 | x :: r,b=>by
  show (1 + _ + _) + usz (r ++ b) = (1 + _ + _) + usz r + usz b
  rw [qdE r b]; omega
theorem qiY (k:Int) (out:List (Int × Bs)) (t:Int × Bs):usz (qbi k out t) ≤ usz out + usz [t]:=by
 unfold qbi
 dsimp only
 split
 ·omega
 have h:usz out = usz (out.take (qcn out t.1)) + usz (out.drop (qcn out t.1)):=by rw [← qdE,List.take_append_drop]
 rw [qdE]
 show _ + (_ + usz (out.drop _)) ≤ _
 rw [h]
 simp only [usz]
 omega
theorem qfT (k:Int):∀ (l out:List (Int × Bs)),usz (l.foldl (qbi k) out) ≤ usz out + usz l
 | [],out=>by simp [usz]
 | t :: r,out=>by
  rw [List.foldl_cons]
  refine Nat.le_trans (qfT k r _) ?_
  have:=qiY k out t
  simp only [usz] at this ⊢
  omega
theorem qfU:∀ (l:List (Int × Bs)) (k:Nat),usz (l.take k) ≤ usz l
 | [],k=>by simp
 | t :: r,0=>Nat.zero_le _
 | t :: r,k + 1=>Nat.add_le_add_left (qfU r k) _
theorem qfD (l:List Fld) (u:List (Int × Bs)):usz (qag l u) ≤ usz u:=by
 unfold qag
 refine Nat.le_trans (qfT _ _ _) ?_
 have:=qfU u 32767
 simp only [usz]; omega
theorem qfj (s:Bs):(qaz s).length ≤ s.length:=by simp only [qaz,List.length_take]; omega
theorem qfk:∀ (l:List (Int × Bs)),(qaQ l).length ≤ 10 * usz l
 | []=>by simp [qaQ]
 | x :: r=>by
  have h1:=qfk r
  have h2:=qdu (qaz x.2).length (by have:=qa1 x.2; omega)
  have h3:=qfj x.2
  unfold qaQ at h1 ⊢
  rw [List.flatMap_cons,List.length_append,List.length_append,List.length_append]
  show _ ≤ 10 * ((1 + _ + _) + usz r)
  omega
theorem qiD:∀ (n:Nat),(uv n).length ≤ n + 1:=by
 intro n
 induction n using Nat.strongRecOn with
 | _ n ih =>
  by_cases h:n < 128
  ·rw [qbK h]; simp
  rw [qc7 (by omega),List.length_cons]
  have:=ih (n / 128) (by omega)
  omega
def Fld.cost:Fld → Nat
 | .mk _ _ _ _ _ _ _ sub=>64 + (3 * (((qan sub).toNat + 1) * costs sub) + 64)
where costs:List Fld → Nat
 | []=>0
 | f :: r=>(20 + f.cost) + costs r
abbrev costs:=Fld.cost.costs
def qfE (l:List Fld):Nat:=3 * (((qan l).toNat + 1) * costs l) + 64
theorem qiZ (f:Fld):f.cost = 64 + qfE f.sub:=by
 cases f; rw [Fld.cost]; rfl
theorem qdF (f:Fld) (r:List Fld):costs (f :: r) = (20 + f.cost) + costs r:=by
 show Fld.cost.costs (f :: r) = _
 rw [Fld.cost.costs]
theorem qfl {p:Tree → Bs} {c:Nat} (hp:∀ t,(p t).length ≤ c * t.size) (kind:Int) (null flex:Bool) (t:Tree):(qaD p kind null flex t).length ≤ (32 + c) * t.size:=by
 have h1:=t.size_pos
 have h2:=t.size_S
 have hm:(32 + c) * t.size = 32 * t.size + c * t.size:=Nat.add_mul _ _ _
 have hs:∀ (n:Nat),n ≤ 8 → (qak flex null (if null = true then ([]:Bs) else qaz t.S).length n ++ (if null = true then ([]:Bs) else qaz t.S)).length ≤ 32 * t.size:=by
  intro n hn
  have h3:(if null = true then ([]:Bs) else qaz t.S).length ≤ t.S.length:=by
   split
   ·exact Nat.zero_le _
   exact qfj _
  have h5:(if null = true then ([]:Bs) else qaz t.S).length ≤ 32767:=by
   split
   ·exact Nat.zero_le _
   exact qa1 _
  have h4:=qdf flex null (if null = true then ([]:Bs) else qaz t.S).length n (by omega) hn
  rw [List.length_append]; omega
 unfold qaD
 split
 ·show 1 ≤ _; omega
 split
 ·rw [qby]; omega
 split
 ·have:=hs 2 (by omega); exact Nat.le_trans this (by omega)
 split
 ·have:=hs 4 (by omega); exact Nat.le_trans this (by omega)
 split
 ·have:=hp t; omega
 rw [be_length]; have:=qbq kind; omega
theorem qey {g:Tree → Bs} {c:Nat} (hg:∀ t,(g t).length ≤ c * t.size):∀ (l:List Tree),(l.flatMap g).length ≤ c * sizes l
 | []=>by simp
 | t :: r=>by
  have h1:=hg t
  have h2:=qey hg r
  rw [List.flatMap_cons,List.length_append]
  show _ ≤ c * (t.size + sizes r)
  rw [Nat.mul_add]; omega
theorem qhl {p:Tree → Bs} {c:Nat} (hp:∀ t,(p t).length ≤ c * t.size) (f:Fld) (v:Int) (flex:Bool) (t:Tree):(qcx p f v flex t).length ≤ (64 + c) * t.size:=by
 have h1:=t.size_pos
 have h2:=t.size_L
 have hm:(64 + c) * t.size = 64 * t.size + c * t.size:=Nat.add_mul _ _ _
 have hm2:(32 + c) * t.size = 32 * t.size + c * t.size:=Nat.add_mul _ _ _
 unfold qcx
 dsimp only
 split
 ·rw [List.length_append]
  have hl:(if f.nul v t = true then ([]:List Tree) else qaq t.L).length ≤ 32767:=by
   split
   ·exact Nat.zero_le _
   exact qbY _
  have h3:=qdf flex (f.nul v t) (if f.nul v t = true then ([]:List Tree) else qaq t.L).length 4 (by omega) (by omega)
  have h4:=qey (g:=fun x=>qaD p f.of false flex x) (fun x=>qfl hp f.of false flex x) (if f.nul v t = true then ([]:List Tree) else qaq t.L)
  have h5:sizes (if f.nul v t = true then ([]:List Tree) else qaq t.L) ≤ t.size:=by
   split
   ·exact Nat.zero_le _
   exact Nat.le_trans (qex _ _) h2
  have h6:(32 + c) * sizes (if f.nul v t = true then ([]:List Tree) else qaq t.L) ≤ (32 + c) * t.size:=Nat.mul_le_mul_left _ h5
  omega
 split
 ·split
  ·rw [be_length]; omega
  rw [List.length_append,be_length]
  have:=hp t
  omega
 have:=qfl hp f.kind (f.nul v t) flex t
 omega
section
variable {w:Fld → Tree → Bs}
theorem qfV (v:Int) (t:Tree):∀ (l:List Fld) (i:Nat),(∀ f ∈ l,∀ t,(w f t).length ≤ f.cost * t.size) → (qaC w l v t i).length ≤ costs l * t.size
 | [],i,_=>by simp [qaC]
 | f :: r,i,h=>by
  have h1:=qfV v t r (i + 1) fun g hg=>h g (List.mem_cons_of_mem _ hg)
  have h2:f.cost * (t.at_ i).size ≤ f.cost * t.size:=Nat.mul_le_mul_left _ (qhk t i)
  have h3:=h f (List.mem_cons_self ..) (t.at_ i)
  rw [qaC,List.length_append,qdF,Nat.add_mul,Nat.add_mul]
  have h4:(if f.tag < 0 ∧ f.has v = true then w f (t.at_ i) else []).length ≤ f.cost * t.size:=by
   split
   ·omega
   exact Nat.zero_le _
  omega
theorem qhm (t:Tree) (k:Nat) (hk:k < 18446744073709551616):∀ (l:List Fld) (i:Nat),(∀ f ∈ l,∀ t,(w f t).length ≤ f.cost * t.size) → (tagB w l k t i).length ≤ 2 * (costs l * t.size)
 | [],i,_=>by simp [tagB]
 | f :: r,i,h=>by
  have h1:=qhm t k hk r (i + 1) fun g hg=>h g (List.mem_cons_of_mem _ hg)
  have h2:f.cost * (t.at_ i).size ≤ f.cost * t.size:=Nat.mul_le_mul_left _ (qhk t i)
  have h3:=h f (List.mem_cons_self ..) (t.at_ i)
  have h5:=t.size_pos
  have h6:=qdu k hk
  have h7:=qiD (w f (t.at_ i)).length
  rw [tagB,List.length_append,qdF,Nat.add_mul,Nat.add_mul]
  have h4:(if f.tag = k ∧ f.usual (t.at_ i) = false then uv k ++ uv (w f (t.at_ i)).length ++ w f (t.at_ i) else []).length ≤ 11 + 2 * (f.cost * t.size):=by
   split
   ·rw [List.length_append,List.length_append]; omega
   exact Nat.zero_le _
  omega
theorem qfW (t:Tree) {l:List Fld} (h:∀ f ∈ l,∀ t,(w f t).length ≤ f.cost * t.size):∀ (k:Nat),k < 18446744073709551616 → (qay w l t k).length ≤ 2 * (k * (costs l * t.size))
 | 0,_=>by simp [qay]
 | k + 1,hk=>by
  have h1:=qfW t h k (by omega)
  have h2:=qhm t k (by omega) l 0 h
  rw [qay,List.length_append,Nat.add_mul]
  omega
theorem qiE (t:Tree) (k:Nat):∀ (l:List Fld) (i:Nat),tagN w l k t i ≤ costs l
 | [],i=>by simp [tagN]
 | f :: r,i=>by
  have h1:=qiE t k r (i + 1)
  rw [tagN,qdF]
  split <;> omega
theorem qhn (t:Tree) (l:List Fld):∀ (k:Nat),qaF w l t k ≤ k * costs l
 | 0=>by simp [qaF]
 | k + 1=>by
  have h1:=qhn t l k
  have h2:=qiE (w:=w) t k l 0
  rw [qaF,Nat.add_mul]
  omega
theorem qho:∀ (u:List (Int × Bs)),u.length ≤ usz u
 | []=>Nat.le_refl _
 | x :: r=>by
  have:=qho r
  rw [List.length_cons]
  simp only [usz]; omega
theorem qfX {l:List Fld} (h:∀ f ∈ l,∀ t,(w f t).length ≤ f.cost * t.size) (hk:(qan l).toNat < 18446744073709551616) (v:Int) (flex:Bool) (t:Tree):(qdR w l v flex t).length ≤ qfE l * t.size:=by
 have h0:=t.size_pos
 have h1:=qfV v t l 0 h
 have h2:=qfW t h _ hk
 have h3:=qhn (w:=w) t l (qan l).toNat
 have h4:=qfk (qag l t.U)
 have h5:=qfD l t.U
 have h6:=t.size_U
 have h7:=qho (qag l t.U)
 have h8:=qiD (qaF w l t (qan l).toNat + (qag l t.U).length)
 have e1:qfE l * t.size = 3 * (((qan l).toNat + 1) * (costs l * t.size)) + 64 * t.size:=by
  unfold qfE
  rw [Nat.add_mul,Nat.mul_assoc,Nat.mul_assoc]
 have e2:((qan l).toNat + 1) * (costs l * t.size) = (qan l).toNat * (costs l * t.size) + costs l * t.size:=by rw [Nat.add_mul,Nat.one_mul]
 have e3:(qan l).toNat * costs l ≤ (qan l).toNat * (costs l * t.size):=Nat.mul_le_mul_left _ (Nat.le_mul_of_pos_right _ h0)
 unfold qdR
 rw [List.length_append,e1,e2]
 split
 ·rw [List.length_append,List.length_append]; omega
 simp only [List.length_nil]; omega
end
theorem qfm (l:List Fld):(qan l).toNat < 18446744073709551616:=by
 have h:=qdg l
 omega
theorem qfY:∀ (d:Nat) (l:List Fld) (v:Int) (flex:Bool) (t:Tree),(qaL d l v flex t).length ≤ qfE l * t.size
 | 0,l,v,flex,t=>qfX (fun f _ t=>by simp) (qfm l) v flex t
 | d + 1,l,v,flex,t=>qfX (fun f _ t=>by
   rw [qiZ]
   exact qhl (fun t=>qfY d f.sub v flex t) f v flex t) (qfm l) v flex t
theorem qhp (d:Nat) (l:List Fld) (x v:Int) (t:Tree):(qbX d l x v t).length ≤ qfE l * t.size:=qfY d l v _ t
end Go.Proofs.YtcbpjflgkefidaaDoor.ME
namespace Go.Proofs.YtcbpjflgkefidaaDoor.ME
open Go
open Go.Proofs.YtcbpjflgkefidaaDoor.Rows (uptoBulk uptoBulkAll)
set_option linter.unusedVariables false
set_option linter.unusedSimpArgs false
def Tree.i64s:Tree → Prop
 | .mk n _ _ l _=>(-9223372036854775808 ≤ n ∧ n ≤ 9223372036854775807) ∧ i64ss l
where i64ss:List Tree → Prop
 | []=>True
 | t :: r=>t.i64s ∧ i64ss r
abbrev i64ss:=Tree.i64s.i64ss
theorem qfZ:∀ {l:List Tree},(∀ x ∈ l,x.i64s) → i64ss l
 | [],_=>trivial
 | t :: r,h=>⟨h t List.mem_cons_self,qfZ (l:=r) fun x hx=>h x (List.mem_cons_of_mem _ hx)⟩
theorem qeP {H:Type} (d:DataW H):1 ≤ uptoBulk d:=by cases d <;> first | (unfold uptoBulk; omega) | (rename_i l; cases l <;> (unfold uptoBulk; omega))
theorem qeQ {H:Type}:∀ (l:List (DataW H)),l.length ≤ uptoBulkAll l
 | []=>Nat.zero_le _
 | d :: r=>by
  have h1:=qeP d
  have h2:=qeQ r
  unfold uptoBulkAll
  rw [List.length_cons]; omega
theorem qdX {H:Type}:∀ {l:List (DataW H)} {d:DataW H},d ∈ l → uptoBulk d ≤ uptoBulkAll l
 | [],d,h=>by cases h
 | a :: r,d,h=>by
  unfold uptoBulkAll
  rcases List.mem_cons.1 h with rfl | h
  ·omega
  have:=qdX h; omega
theorem qfn {α β:Type} {f:α → Option β}:∀ {l:List α} {r:List β},l.mapM f = some r → r.length = l.length ∧ ∀ (i:Nat) (a:α),l[i]? = some a → ∃ b,f a = some b ∧ r[i]? = some b
 | [],r,h=>by
  simp only [List.mapM_nil,Option.pure_def,Option.some.injEq] at h
  subst h
  exact ⟨rfl,fun i a h=>by simp at h⟩
 | x :: l,r,h=>by
  rw [List.mapM_cons] at h
  cases hx:f x with
  | none=>rw [hx] at h; cases h
  | some y =>
   rw [hx] at h
   cases hl:l.mapM f with
   | none=>rw [hl] at h; cases h
   | some ys =>
    rw [hl] at h
    obtain rfl:y :: ys = r:=Option.some.inj h
    obtain ⟨h1,h2⟩:=qfn hl
    refine ⟨by simp [h1],fun i a ha=>?_⟩
    cases i with
    | zero =>
     simp only [List.getElem?_cons_zero,Option.some.injEq] at ha
     subst ha
     exact ⟨y,hx,rfl⟩
    | succ i=>simpa using h2 i a (by simpa using ha)
theorem qdG {w:World} {a:Addr} {n:Nat} {cs:List Value} (h:w.cells? 0 a n = some cs):cs.length = n ∧ ∀ (j:Nat) (v:Value),cs[j]? = some v → w.cell? (a.add j) = some v:=by
 unfold World.cells? at h
 rw [if_pos (Nat.zero_le _)] at h
 obtain ⟨h1,h2⟩:=qfn h
 rw [List.length_range] at h1
 refine ⟨h1,fun j v hj=>?_⟩
 have hjn:j < n:=by rw [← h1]; exact (List.getElem?_eq_some_iff.1 hj).1
 obtain ⟨b,hb,hc⟩:=h2 j j (by rw [List.getElem?_range hjn])
 rw [hj] at hc
 rw [hb,Option.some.inj hc]
theorem qgt {w:World} {a:Addr} {v:Value} (h:w.cell? a = some v):a.spot = none:=by
 unfold World.cell? at h
 split at h
 ·split at h
  ·cases h
  rename_i hs; simpa using hs
 cases h
theorem qid {w:World} {size n c:Nat} {ad:Addr} {cs:Nat → List Value} (hle:n ≤ c) (hsm:n ≤ 1099511627776) (hsz:0 < size) (h:∀ i,i < n → (cs i).length = size ∧ ∀ (j:Nat) (v:Value),(cs i)[j]? = some v → w.cell? ((ad.add (i * size)).add j) = some v):Slots w (fun _ _=>True) size (some ad) c n cs:=by
 refine ⟨hle,hsm,(fun hA=>by cases hA),fun ad' hA hn=>?_⟩
 obtain rfl:=Option.some.inj hA
 have h0:=h 0 hn
 have hp:ad.spot = none:=by
  have h1:=qgt (h0.2 0 _ (List.getElem?_eq_getElem (by omega)))
  unfold Addr.add at h1
  split at h1
  ·split at h1 <;> simp_all
  simp_all
 obtain ⟨b,o,sp⟩:=ad
 simp only at hp
 subst hp
 refine ⟨b,o,rfl,fun i hi=>⟨(h i hi).1,fun j v hj=>⟨trivial,?_⟩⟩⟩
 have:=(h i hi).2 j v hj
 rwa [qbj,qbj] at this
theorem qec {α:Type} {R:Nat → α → Prop}:∀ (n:Nat),(∀ i,i < n → ∃ x,R i x) → ∃ l:List α,l.length = n ∧ ∀ i x,l[i]? = some x → R i x
 | 0,_=>⟨[],rfl,fun i x h=>by simp at h⟩
 | n + 1,h=>by
  obtain ⟨l,h1,h2⟩:=qec n fun i hi=>h i (by omega)
  obtain ⟨x,hx⟩:=h n (by omega)
  refine ⟨l ++ [x],by simp [h1],fun i y hy=>?_⟩
  rcases qa0 hy with hy | ⟨rfl,rfl⟩
  ·exact h2 i y hy
  rw [h1]; exact hx
theorem qdH {α:Type} {w:World} {a:Addr} {len cap size:Nat} (R:Nat → List Value → α → Prop) (hle:len ≤ cap) (hsm:len ≤ 1099511627776) (hsz:0 < size)
  (hex:∀ i,i < len → ∃ ci:List Value,ci.length = size ∧ (∀ (j:Nat) (v:Value),ci[j]? = some v → w.cell? ((a.add (i * size)).add j) = some v) ∧ ∃ x,R i ci x) :
  ∃ l:List α,l.length = len ∧ ∃ xs:Nat → List Value,Slots w (fun _ _=>True) size (some a) cap len xs ∧ ∀ i x,l[i]? = some x → R i (xs i) x:=by
 obtain ⟨l,h1,h2⟩:=qec (R:=fun i (z:List Value × α)=>z.1.length = size ∧ (∀ (j:Nat) (v:Value),z.1[j]? = some v → w.cell? ((a.add (i * size)).add j) = some v) ∧ R i z.1 z.2) len (fun i hi=>by
  obtain ⟨ci,g1,g2,x,g3⟩:=hex i hi
  exact ⟨(ci,x),g1,g2,g3⟩)
 have hget:∀ i,i < len → ∃ z,l[i]? = some z:=fun i hi=>⟨_,List.getElem?_eq_getElem (by omega)⟩
 have hxs:∀ i z,l[i]? = some z → ((l.map (·.1)).getD i []) = z.1:=fun i z hz=>by
  rw [List.getD_eq_getElem?_getD,List.getElem?_map,hz]; rfl
 refine ⟨l.map (·.2),by simp [h1],fun i=>(l.map (·.1)).getD i [],qid hle hsm hsz (fun i hi=>?_),fun i x hx=>?_⟩
 ·obtain ⟨z,hz⟩:=hget i hi
  rw [hxs i z hz]
  exact ⟨(h2 i z hz).1,(h2 i z hz).2.1⟩
 rw [List.getElem?_map] at hx
 cases hz:l[i]? with
 | none=>rw [hz] at hx; cases hx
 | some z =>
  rw [hz] at hx
  simp only [Option.map_some,Option.some.injEq] at hx
  subst hx
  dsimp only
  rw [hxs i z hz]
  exact (h2 i z hz).2.2
def qdY (P:Program) (t:TypeId):Option (List (TypeId × Nat)) :=
 match P.underlying t with
 | some (.struct fs)=>some (fs.toList.map fun f=>(f.type,f.offset))
 | _=>none
theorem qed {P:Program} {t:TypeId} {l:List (TypeId × Nat)} (h:qdY P t = some l):∃ fs:Array Field,P.underlying t = some (.struct fs) ∧ fs.size = l.length ∧ ∀ (i:Nat) ty off,l[i]? = some (ty,off) → ∃ f,fs[i]? = some f ∧ f.type = ty ∧ f.offset = off:=by
 unfold qdY at h
 split at h
 ·rename_i fs hfs
  simp only [Option.some.injEq] at h
  subst h
  refine ⟨fs,hfs,by simp,fun i ty off hi=>?_⟩
  rw [List.getElem?_map] at hi
  cases hf:fs.toList[i]? with
  | none=>rw [hf] at hi; cases hi
  | some f =>
   rw [hf] at hi
   simp only [Option.map_some,Option.some.injEq,Prod.mk.injEq] at hi
   exact ⟨f,by simpa using hf,hi.1,hi.2⟩
 cases h
structure TreeTys (P:Program) (T TL TU TG TB TI TO TK T8:TypeId):Prop where
 tree:qdY P T = some [(TI,0),(TB,1),(TO,2),(TL,3),(TU,4)]
 tag:qdY P TG = some [(TK,0),(TB,1)]
 trees:P.underlying TL = some (.slice T)
 tags:P.underlying TU = some (.slice TG)
 bytes:P.underlying TB = some (.slice T8)
 int:P.underlying TI = some (.int .i64)
 bool:P.underlying TO = some .bool
 key:P.underlying TK = some (.int .u32)
 byte:P.underlying T8 = some (.int .u8)
 cells:(P.cellsOf T,P.cellsOf TL,P.cellsOf TU,P.cellsOf TG,P.cellsOf TB,P.cellsOf TI,P.cellsOf TO,P.cellsOf TK,P.cellsOf T8) = (5,1,1,2,1,1,1,1,1)
section
variable {H:Type} {enc:TypeId × Value → H} {P:Program} {W:World} {sp:Nat → Bool} {hd:Bool} {T TL TU TG TB TI TO TK T8:TypeId}
theorem qeR {α β:Type} {x:Option α} {f:α → Option β} {l:List β} {i:Nat} (h:x.bind f = l[i]?) (hi:i < l.length):∃ a b,x = some a ∧ f a = some b ∧ l[i]? = some b:=by
 rw [List.getElem?_eq_getElem hi] at h
 obtain ⟨a,ha,hb⟩:=Option.bind_eq_some_iff.1 h
 exact ⟨a,_,ha,hb,List.getElem?_eq_getElem hi⟩
theorem qdI {elems spare:List (DataW H)} {n:Nat} (h:uptoBulk (.slice elems spare) ≤ n):elems.length ≤ n ∧ ∀ d ∈ elems,uptoBulk d ≤ n:=by
 unfold uptoBulk at h
 have h1:=qeQ elems
 exact ⟨by omega,fun d hd=>by have:=qdX hd; omega⟩
theorem qf0 {parts:List (DataW H)} {n:Nat} (h:uptoBulk (.agg parts) ≤ n):∀ d ∈ parts,uptoBulk d ≤ n:=by
 unfold uptoBulk at h
 exact fun d hd=>by have:=qdX hd; omega
theorem qfo {fuel:Nat} {cs:List Value} {x:DataW H × List MemPlace} (hT:TreeTys P T TL TU TG TB TI TO TK T8) (h:DataW.trod enc P W 0 sp hd fuel TB cs = some x) (hb:uptoBulk x.1 ≤ 1048576) :
  ∃ A c s,cs = [.slice A (s:Bs).length c] ∧ Octs W (fun _ _=>True) A c s ∧ s.length ≤ uptoBulk x.1:=by
 have hc:=hT.cells
 simp only [Prod.mk.injEq] at hc
 rcases DataW.trod_slice hT.bytes h with ⟨rfl,rfl⟩ | ⟨a,len,cap,elems,rest,n,_,rfl,rfl,_,hle,_,hlen,he,_⟩
 ·exact ⟨none,0,[],rfl,Octs.nil _ _,Nat.zero_le _⟩
 have hlb:=qeQ (elems.map (·.1))
 rw [List.length_map] at hlb
 have hbl:=qdI hb
 simp only [List.length_map] at hbl
 obtain ⟨l,hl,xs,h1,h2⟩:=qdH (w:=W) (a:=a) (len:=len) (cap:=cap) (size:=1) (fun _ ci (q:UInt8)=>ci = [qdr q]) hle (by omega) (by omega) (fun i hi=>by
  obtain ⟨ci,y,g1,g2,g3⟩:=qeR (he i hi) (by omega)
  obtain ⟨g4,g5⟩:=qdG g1
  rw [hc.2.2.2.2.2.2.2.2] at g4 g5
  refine ⟨ci,g4,g5,?_⟩
  obtain ⟨v,rfl,_,hw⟩:=DataW.trod_int hT.byte g2
  have hx:0 ≤ v ∧ v ≤ 255:=by simpa [Lit.wf,IntKind.min,IntKind.max,IntKind.signed,IntKind.bits] using hw
  refine ⟨UInt8.ofNat v.toNat,?_⟩
  unfold qdr
  rw [UInt8.toNat_ofNat']
  congr 2
  omega)
 refine ⟨some a,cap,l,by rw [hl],?_,by rw [hl,← hlen]; dsimp only; unfold uptoBulk; omega⟩
 unfold Octs
 rw [hl]
 refine ⟨h1.le,h1.small,h1.none_,fun ad hA hn=>?_⟩
 obtain ⟨b,o,e1,e2⟩:=h1.some_ ad hA hn
 refine ⟨b,o,e1,fun i hi=>?_⟩
 have hli:l[i]? = some (l.getD i 0):=by
  rw [List.getD_eq_getElem?_getD,List.getElem?_eq_getElem (by omega)]; rfl
 have:=h2 i _ hli
 rw [← this]
 exact e2 i hi
theorem qdj {n:Nat} {fs:Array Field} {xs:List (DataW H × List MemPlace)} {cs:List Value} {l:List (TypeId × Nat)} (hx:∀ (i:Nat) (f:Field),fs[i]? = some f → DataW.trod enc P W 0 sp hd n f.type ((cs.drop f.offset).take (P.cellsOf f.type)) = xs[i]?)
  (hl:∀ (i:Nat) ty off,l[i]? = some (ty,off) → ∃ f,fs[i]? = some f ∧ f.type = ty ∧ f.offset = off) {i:Nat} {ty off:Nat} (hi:l[i]? = some (ty,off)) (h1:P.cellsOf ty = 1) (hxl:i < xs.length) {c:Value} (hc:cs[off]? = some c) :
  ∃ y,xs[i]? = some y ∧ DataW.trod enc P W 0 sp hd n ty [c] = some y:=by
 obtain ⟨f,hf,rfl,rfl⟩:=hl i _ _ hi
 have:=hx i f hf
 rw [h1] at this
 refine ⟨xs[i],List.getElem?_eq_getElem hxl,?_⟩
 rw [List.getElem?_eq_getElem hxl] at this
 have e:(cs.drop f.offset).take 1 = [c]:=by
  rw [List.take_one,List.head?_drop,hc]; rfl
 rw [e] at this
 exact this
theorem qf1:∀ (l:List (Int × Bs)) {elems:List (DataW H × List MemPlace)},l.length = elems.length → (∀ (i:Nat) (x:Int × Bs) (y:DataW H × List MemPlace),l[i]? = some x → elems[i]? = some y → 1 + (uv x.1.toNat).length + x.2.length ≤ 8 * uptoBulk y.1) → usz l ≤ 8 * uptoBulkAll (elems.map (·.1))
 | [],_,_,_=>Nat.zero_le _
 | x :: r,[],h,_=>by cases h
 | x :: r,y :: es,h,hp=>by
  have h1:=qf1 r (elems:=es) (by simpa using h) fun i x' y' hx hy=>hp (i + 1) x' y' (by simpa using hx) (by simpa using hy)
  have h2:=hp 0 x y rfl rfl
  simp only [usz,List.map_cons,uptoBulkAll]
  omega
theorem qez:∀ (l:List Tree) {elems:List (DataW H × List MemPlace)},l.length = elems.length → (∀ (i:Nat) (x:Tree) (y:DataW H × List MemPlace),l[i]? = some x → elems[i]? = some y → x.size ≤ 8 * uptoBulk y.1) → sizes l ≤ 8 * uptoBulkAll (elems.map (·.1))
 | [],_,_,_=>Nat.zero_le _
 | x :: r,[],h,_=>by cases h
 | x :: r,y :: es,h,hp=>by
  have h1:=qez r (elems:=es) (by simpa using h) fun i x' y' hx hy=>hp (i + 1) x' y' (by simpa using hx) (by simpa using hy)
  have h2:=hp 0 x y rfl rfl
  show x.size + sizes r ≤ _
  simp only [List.map_cons,uptoBulkAll]
  omega
theorem qhq {y0 y1 y2 y3 y4:DataW H × List MemPlace} {xs:List (DataW H × List MemPlace)} (h:xs.length = 5) (h0:xs[0]? = some y0) (h1:xs[1]? = some y1) (h2:xs[2]? = some y2) (h3:xs[3]? = some y3) (h4:xs[4]? = some y4):uptoBulk (.agg (xs.map (·.1))) = uptoBulk y0.1 + uptoBulk y1.1 + uptoBulk y2.1 + uptoBulk y3.1 + uptoBulk y4.1 + 1:=by
 match xs,h with
 | [a,b,c,d,e],_ =>
  simp only [List.getElem?_cons_zero,List.getElem?_cons_succ,Option.some.injEq] at h0 h1 h2 h3 h4
  subst h0; subst h1; subst h2; subst h3; subst h4
  have e:uptoBulk (.agg [a.1,b.1,c.1,d.1,e.1]) = uptoBulkAll [a.1,b.1,c.1,d.1,e.1] + 1:=by rw [uptoBulk]
  simp only [List.map_cons,List.map_nil]
  rw [e]
  simp only [uptoBulkAll]
  omega
theorem qhr {fuel:Nat} {cs:List Value} {x:DataW H × List MemPlace} (hT:TreeTys P T TL TU TG TB TI TO TK T8) (h:DataW.trod enc P W 0 sp hd fuel TU cs = some x) (hb:uptoBulk x.1 ≤ 1048576) :
  ∃ A c u,cs = [.slice A (u:List (Int × Bs)).length c] ∧ TagsR W (fun _ _=>True) A c u ∧ usz u ≤ 8 * uptoBulk x.1:=by
 have hc:=hT.cells
 simp only [Prod.mk.injEq] at hc
 rcases DataW.trod_slice hT.tags h with ⟨rfl,rfl⟩ | ⟨a,len,cap,elems,rest,n,_,rfl,rfl,_,hle,_,hlen,he,_⟩
 ·exact ⟨none,0,[],rfl,TagsR.nil _ _,Nat.zero_le _⟩
 have hbl:=qdI hb
 simp only [List.length_map] at hbl
 obtain ⟨l,hl,xs,h1,h2⟩:=qdH (w:=W) (a:=a) (len:=len) (cap:=cap) (size:=2) (fun i ci (q:Int × Bs)=>((∃ A' c',ci = [.int .u32 q.1,.slice A' q.2.length c'] ∧ Octs W (fun _ _=>True) A' c' q.2) ∧ 0 ≤ q.1 ∧ q.1 < 4294967296) ∧ ∀ y,elems[i]? = some y → 1 + (uv q.1.toNat).length + q.2.length ≤ 8 * uptoBulk y.1) hle (by omega) (by omega) (fun i hi=>by
  obtain ⟨ci,y,g1,g2,g3⟩:=qeR (he i hi) (by omega)
  obtain ⟨g4,g5⟩:=qdG g1
  rw [hc.2.2.2.1] at g4 g5
  refine ⟨ci,g4,g5,?_⟩
  obtain ⟨fs,hfs,hsz,hl⟩:=qed hT.tag
  obtain ⟨xs,m,_,rfl,_,hxl,hx⟩:=DataW.trod_struct hfs g2
  rw [hsz] at hxl
  have hxl':xs.length = 2:=hxl
  match ci,g4 with
  | [c0,c1],_ =>
   obtain ⟨y0,_,k0⟩:=qdj hx hl (i:=0) rfl hc.2.2.2.2.2.2.2.1 (by omega) (c:=c0) rfl
   obtain ⟨y1,e1,k1⟩:=qdj hx hl (i:=1) rfl hc.2.2.2.2.1 (by omega) (c:=c1) rfl
   obtain ⟨v,hv,_,hw⟩:=DataW.trod_int hT.key k0
   have hx:0 ≤ v ∧ v ≤ 4294967295:=by simpa [Lit.wf,IntKind.min,IntKind.max,IntKind.signed,IntKind.bits] using hw
   have hby:uptoBulk y1.1 ≤ 1048576:=by
    have hm:DataW.agg (xs.map (·.1)) ∈ elems.map (·.1):=by
     have:=List.mem_of_getElem? g3
     exact List.mem_map.2 ⟨_,this,rfl⟩
    exact qf0 (hbl.2 _ hm) _ (List.mem_map.2 ⟨_,List.mem_of_getElem? e1,rfl⟩)
   obtain ⟨A',c',s,hs,ho,hsl⟩:=qfo hT k1 hby
   simp only [List.cons.injEq,and_true] at hv hs
   subst hv; subst hs
   refine ⟨(v,s),⟨⟨A',c',rfl,ho⟩,by dsimp only; omega,by dsimp only; omega⟩,fun y hy=>?_⟩
   rw [g3] at hy
   obtain rfl:=Option.some.inj hy
   have h5:=qe2 v.toNat 5 (by omega) (by omega)
   have h6:uptoBulk y1.1 ≤ uptoBulkAll (xs.map (·.1)):=qdX (List.mem_map.2 ⟨_,List.mem_of_getElem? e1,rfl⟩)
   dsimp only
   unfold uptoBulk
   omega)
 refine ⟨some a,cap,l,by rw [hl],⟨xs,by rw [hl]; exact h1,fun i k s hi=>(h2 i (k,s) hi).1⟩,?_⟩
 have:=qf1 l (elems:=elems) (by rw [hl,hlen]) (fun i x y hx hy=>(h2 i x hx).2 y hy)
 dsimp only
 unfold uptoBulk
 omega
theorem qgu (hT:TreeTys P T TL TU TG TB TI TO TK T8):∀ (fuel:Nat) (cs:List Value) (x:DataW H × List MemPlace),DataW.trod enc P W 0 sp hd fuel T cs = some x → uptoBulk x.1 ≤ 1048576 → ∃ t,TreeR W (fun _ _=>True) cs t ∧ t.size ≤ 8 * uptoBulk x.1 ∧ t.i64s:=by
 intro fuel
 induction fuel using Nat.strongRecOn with
 | _ fuel ih =>
 intro cs x h hb
 have hc:=hT.cells
 simp only [Prod.mk.injEq] at hc
 obtain ⟨fs,hfs,hsz,hl⟩:=qed hT.tree
 obtain ⟨xs,m,rfl,rfl,hcl,hxl,hx⟩:=DataW.trod_struct hfs h
 rw [hsz] at hxl
 have hxl':xs.length = 5:=hxl
 rw [hc.1] at hcl
 have hbe:∀ {i:Nat} {y:DataW H × List MemPlace},xs[i]? = some y → uptoBulk y.1 ≤ 1048576:=fun e=>qf0 hb _ (List.mem_map.2 ⟨_,List.mem_of_getElem? e,rfl⟩)
 match cs,hcl with
 | [c0,c1,c2,c3,c4],_ =>
  obtain ⟨y0,e0,k0⟩:=qdj hx hl (i:=0) rfl hc.2.2.2.2.2.1 (by omega) (c:=c0) rfl
  obtain ⟨y1,e1,k1⟩:=qdj hx hl (i:=1) rfl hc.2.2.2.2.1 (by omega) (c:=c1) rfl
  obtain ⟨y2,e2,k2⟩:=qdj hx hl (i:=2) rfl hc.2.2.2.2.2.2.1 (by omega) (c:=c2) rfl
  obtain ⟨y3,e3,k3⟩:=qdj hx hl (i:=3) rfl hc.2.1 (by omega) (c:=c3) rfl
  obtain ⟨y4,e4,k4⟩:=qdj hx hl (i:=4) rfl hc.2.2.1 (by omega) (c:=c4) rfl
  obtain ⟨v,hv,_,hw0⟩:=DataW.trod_int hT.int k0
  have hx0:-9223372036854775808 ≤ v ∧ v ≤ 9223372036854775807:=by simpa [Lit.wf,IntKind.min,IntKind.max,IntKind.signed,IntKind.bits] using hw0
  obtain ⟨A1,d1,s,hs,ho,hz1⟩:=qfo hT k1 (hbe e1)
  obtain ⟨b,hbo,_⟩:=DataW.trod_bool hT.bool k2
  obtain ⟨A3,d3,u,hu,hur,hz3⟩:=qhr hT k4 (hbe e4)
  have hll:∃ A2 d2 l xs2,[c3] = [.slice A2 (l:List Tree).length d2] ∧ Slots W (fun _ _=>True) 5 A2 d2 l.length xs2 ∧ (∀ i x,l[i]? = some x → TreeR W (fun _ _=>True) (xs2 i) x) ∧ sizes l ≤ 8 * uptoBulk y3.1 ∧ i64ss l:=by
   rcases DataW.trod_slice hT.trees k3 with ⟨e,_⟩ | ⟨a,len,cap,elems,rest,n,rfl,e,rfl,_,hle,_,hlen,he,_⟩
   ·exact ⟨none,0,[],fun _=>[],e,Slots.nil _ _ _ _,(fun i x h=>by simp at h),Nat.zero_le _,trivial⟩
   have hbl:=qdI (hbe e3)
   simp only [List.length_map] at hbl
   obtain ⟨l,hl,xs2,h1,h2⟩:=qdH (w:=W) (a:=a) (len:=len) (cap:=cap) (size:=5) (fun i ci (q:Tree)=>(TreeR W (fun _ _=>True) ci q ∧ q.i64s) ∧ ∀ y,elems[i]? = some y → q.size ≤ 8 * uptoBulk y.1) hle (by omega) (by omega) (fun i hi=>by
    obtain ⟨ci,y,g1,g2,g3⟩:=qeR (he i hi) (by omega)
    obtain ⟨g4,g5⟩:=qdG g1
    rw [hc.1] at g4 g5
    obtain ⟨q,q1,q2,q3⟩:=ih n (by omega) ci y g2 (hbl.2 _ (List.mem_map.2 ⟨_,List.mem_of_getElem? g3,rfl⟩))
    exact ⟨ci,g4,g5,q,⟨q1,q3⟩,fun y' hy=>by
     rw [g3] at hy
     obtain rfl:=Option.some.inj hy
     exact q2⟩)
   refine ⟨some a,cap,l,xs2,by rw [e,hl],by rw [hl]; exact h1,fun i x hx=>(h2 i x hx).1.1,?_,qfZ fun x hx=>by
    obtain ⟨i,hi,rfl⟩:=List.getElem_of_mem hx
    exact (h2 i _ (List.getElem?_eq_getElem hi)).1.2⟩
   have:=qez l (elems:=elems) (by rw [hl,hlen]) (fun i x y hx hy=>(h2 i x hx).2 y hy)
   dsimp only
   unfold uptoBulk
   omega
  obtain ⟨A2,d2,l,xs2,hl2,hsl,hxl2,hz2,hi2⟩:=hll
  simp only [List.cons.injEq,and_true] at hv hs hbo hl2 hu
  subst hv; subst hs; subst hbo; subst hl2; subst hu
  refine ⟨_,.mk xs2 ho hsl hxl2 hur,?_,hx0,hi2⟩
  have h5:=qhq hxl' e0 e1 e2 e3 e4
  have p0:=qeP y0.1
  have p1:=qeP y2.1
  dsimp only at h5 ⊢
  rw [Tree.size_mk,h5]
  omega
end
section
variable {H:Type} {enc:TypeId × Value → H} {P:Program}
open Go.ChangeShapes Go.WideShapes Go.ChangeAt Go.RowKit
theorem Step.same {W W':World} (h:Step W W' Nil) {b:Nat} (hb:b < W.heap.size):W'.heap[b]? = W.heap[b]?:=(h.keeps b hb).1 fun _ hn=>hn
theorem Step.sameAt {W W':World} (h:Step W W' Nil) {p:MemPlace} (hp:p.block < W.heap.size):W.sameAt W' p:=by
 cases p with
 | cell b o=>exact World.cell_of_heap (h.same hp)
 | map b=>exact h.same hp
theorem Step.keptBut {W W':World} (h:Step W W' Nil) (may:MemPlace → Prop):W.keptBut W' may:=by
 refine ⟨h.os,h.output,fun i hi=>?_⟩
 rw [h.same hi]
 cases hx:W.heap[i]? with
 | none=>rfl
 | some x =>
  cases x with
  | cells c t f=>exact ⟨rfl,rfl,rfl,fun _ _=>rfl⟩
  | map es clock=>exact .inr ⟨rfl,rfl⟩
  | _=>rfl
theorem qdz (hl:laidOutB P = true) {W W':World} (hs:Step W W' Nil):∀ {ts:List TypeId} {vs:List Value} {ds:List (DataW H)} {ps:List MemPlace},(∀ t ∈ ts,P.readableRec t = true ∧ t < P.types.size) → DataW.TrodAll enc P W 0 (fun _=>true) true ts vs ds ps → (∀ p ∈ ps,p.block < W.heap.size) →
  DataW.TrodAll enc P W' 0 (fun b=>decide (b < W.heap.size)) true ts vs ds ps
 | [],vs,ds,ps,_,h,_=>by
  obtain ⟨rfl,rfl,rfl⟩:=trodAll_nil h
  exact rfl
 | t :: ts,vs,ds,ps,ht,h,hp=>by
  obtain ⟨v,vs',d,ds',p,q,rfl,rfl,rfl,h1,h2⟩:=trodAll_cons h
  have h0:=ht t (List.mem_cons_self ..)
  refine ⟨p,q,?_,qdz hl hs (fun t' h'=>ht t' (List.mem_cons_of_mem _ h')) h2 (fun x hx=>hp x (List.mem_append_right _ hx)),rfl⟩
  exact Go.WideElems.Trod_stays hl h0.1 h0.2 h1 (fun x hx=>hs.sameAt (hp x (List.mem_append_left _ hx))) (fun x hx=>decide_eq_true (hp x (List.mem_append_left _ hx)))
theorem qhs {f:Func} {s:ChangeSpec} {W W':World} {args:Array Value} {v:Value} {ds gs:List (DataW H)} {before:List MemPlace} {handsOn:Bool}
  (hW:DataW.Whole enc P f.params.toList s.vars false W args.toList ds gs before) (hs:Step W W' Nil) (hl:laidOutB P = true) (hpar:∀ t ∈ f.params.toList,P.readableRec t = true ∧ t < P.types.size)
  (hv:s.vars = []) (hargs:(s.fn H (ds ++ gs)).args = ds) (hvars:(s.fn H (ds ++ gs)).vars = [])
  (hres:∀ (b:Nat) (sp:Nat → Bool) (hd:Bool),DataW.TrodAll enc P W' b sp hd f.resultTypes.toList (v.resultList f.resultTypes.size) (s.fn H (ds ++ gs)).results []) :
  s.post enc P f false true handsOn false W args v W':=by
 have hlt:∀ p ∈ before,p.block < W.heap.size:=fun p hp=>hW.lt p hp
 obtain ⟨p,q,hA,hV,rfl,_,_⟩:=id hW
 rw [hv] at hV
 obtain ⟨rfl,rfl⟩:=trodVars_none hV
 refine ⟨ds,[],_,[],p,[],hW,hres _ _ _,?_,?_,hs.keptBut _,fun h=>by cases h⟩
 ·rw [hargs]
  exact qdz hl hs hpar hA (fun x hx=>hlt x (List.mem_append_left _ hx))
 rw [hvars,hv]; exact rfl
end
end Go.Proofs.YtcbpjflgkefidaaDoor.ME
namespace Go.Proofs.YtcbpjflgkefidaaDoor.ME
open Go
open Go.RowKit
set_option linter.unusedVariables false
set_option linter.unusedSimpArgs false
set_option maxRecDepth 20000
def bs (s:Bs):ByteArray:=⟨s.toArray⟩
theorem qfF (s:Bs):(bs s).size = s.length:=by simp [bs,ByteArray.size]
def qbF (t:Tree):Bs:=if t.null then [] else t.S
section
variable {P:Program} {n:Nat} {w0:World} {A0:Option Addr} {e8 d:Nat} {tb:Tb} {env e1 env':Env} {c c1 c2:Code} {x x1 x2 y:Bs}
end
section
variable {P:Program} {ops:Array Oper} {Q:Exit → Act → World → Prop} {n:Nat} {tb:Tb} {env:Env} {rs:List Rw} {w0:World} {M:Nat → Nat → Prop} {a:Act} {w:World}
def qie (tb:Tb) (env:Env) (ops:Array Oper) (n i:Nat):Option (TypeId × TypeId × Value × Nat) :=
 match opAt env ops n i with
 | some (.convert src dst x,d)=>match opd env x with
  | some (.v v)=>some (src,dst,v,d)
  | _=>none
 | _=>none
theorem qdA {i d:Nat} {src dst e c:Nat} {A:Option Addr} {s:Bs} {F:Nat → Nat → Prop} {N:Act → World → Prop} (hE:EnvOk n tb env a) (h:qie tb env ops n i = some (src,dst,.slice A s.length c,d)) (hs:P.underlying src = some (.slice e)) (he:P.underlying e = some (.int .u8)) (hd:P.underlying dst = some .string)
  (ho:Octs w F A c s) (K:∀ a',EnvOk n tb ((d,.v (.string (bs s))) :: env) a' → N a' w):wpOp P ops Q i N a w:=by
 unfold qie at h
 split at h
 ·rename_i src' dst' x d' hop
  split at h
  ·rename_i v hx
   simp only [Option.some.injEq,Prod.mk.injEq] at h
   obtain ⟨rfl,rfl,rfl,rfl⟩:=h
   have hdn:=(qa3 hE hop).choose_spec.2.2.2.1
   have hrun:(convert src' dst' (.slice A s.length c)).run P w = .ok (.string (bs s)) w:=by
    have hsrc:=ho.src
    cases A with
    | none =>
     have h0:s = []:=List.eq_nil_of_length_eq_zero (ho.none_ rfl).1
     subst h0
     exact run_convert_bytes_nil w src' e hs he _ _ dst' hd
    | some ad =>
     have hl:(loadCells ad s.length).run P w = .ok ((s.map fun b=>((b.toNat:Nat):Int)).map (Value.int .u8)).toArray w:=by
      have:=run_loadCells_list (P:=P) w ad (bc s) (fun j v hj=>hsrc.cells ad rfl j v hj)
      rw [show (bc s).length = s.length from by simp [bc]] at this
      rw [this]
      simp [bc]
     rw [run_convert_bytes_string w src' dst' e _ s.length c hs he hd,run_bytesToString w _ s.length c _ hl,foldl_push_bytes]
     congr 2
     simp only [bs,ByteArray.empty,ByteArray.emptyWithCapacity]
     have e3:(s.map fun b=>((b.toNat:Nat):Int)).map (fun n=>UInt8.ofNat n.toNat) = s:=by
      rw [List.map_map]
      conv=>rhs; rw [← List.map_id s]
      exact List.map_congr_left fun b _=>by simp
     rw [e3]
     simp
     rfl
   refine qaP hE hop (v:=.string (bs s)) (w':=w) ?_ (K _ (hE.put hdn (.v _) trivial))
   intro o ho'
   unfold execOp
   rw [ho']
   simp only [(qaK hE hx).1,SV.val,Sem.run_bind,hrun,Result.andThen_ok,Sem.run_pure]
  cases h
 cases h
end
theorem uv0:uv 0 = [0]:=by rw [uv]; rfl
theorem qjs {v:Int} {d:Nat} {l:List Fld} {t:Tree} {i:Nat} {k x1 x2 x3 x4 x5 x6:Int} {s:List Fld} (h:l[i]? = some (.mk k x1 x2 x3 x4 x5 x6 s)) (hk:k = 8 ∨ k = 9) :
  qbF ((fitT v (d + 1) l t).at_ i) = (if Fld.nul (.mk k x1 x2 x3 x4 x5 x6 s) v (t.at_ i) = true then [] else qaz (t.at_ i).S) ∧ ((fitT v (d + 1) l t).at_ i).null = Fld.nul (.mk k x1 x2 x3 x4 x5 x6 s) v (t.at_ i):=by
 rw [qhh h]
 have e1:k ≠ 11:=by omega
 have e:qb4 (fitT v d) v (.mk k x1 x2 x3 x4 x5 x6 s) (t.at_ i) = .mk 0 (qaz (t.at_ i).S) (Fld.nul (.mk k x1 x2 x3 x4 x5 x6 s) v (t.at_ i)) [] []:=by
  simp [qb4,qdd,Fld.kind,e1,hk]
 rw [e]
 exact ⟨rfl,rfl⟩
def qaR (w:World) (F:Nat → Nat → Prop) (D:DV):Prop:=((D.f 0).s.size ≤ 1000000) ∧ ((D.f 1).s.size ≤ 1000000) ∧ ((∀ ad,(D.f 2).A = some ad → ∃ b o,ad = ⟨b,o,none⟩ ∧ AtF w F b o [.string (D.f 2).s]) ∧ (D.f 2).s.size ≤ 1000000) ∧ (True) ∧ MapR w F D.m D.u ∧ D.u.length ≤ 1000000 ∧ (∀ x ∈ D.u,x.2.length < 4294967296) ∧ True
def qah (v:Int) (T:Tree):Bs:=(if (decide (v ≥ 3)) = true then if (decide (v ≥ 3)) = true then (uv ((T.at_ 0).S.length + 1) ++ (T.at_ 0).S) else (be 2 (T.at_ 0).S.length ++ (T.at_ 0).S) else []) ++ ((if (decide (v ≥ 3)) = true then if (decide (v ≥ 3)) = true then (uv ((T.at_ 1).S.length + 1) ++ (T.at_ 1).S) else (be 2 (T.at_ 1).S.length ++ (T.at_ 1).S) else []) ++ ((if (decide (v ≥ 5)) = true then if (decide (v ≥ 3)) = true then (if (T.at_ 2).null = true then uv 0 else uv ((qbF (T.at_ 2)).length + 1) ++ (qbF (T.at_ 2))) else (if (T.at_ 2).null = true then be 2 (-1) else be 2 (qbF (T.at_ 2)).length ++ (qbF (T.at_ 2))) else []) ++ ((if (decide (v ≥ 5)) = true then be 4 ((IntKind.i32.wrap (T.at_ 3).N)) else []) ++ ((if (decide (v ≥ 3)) = true then (uv T.U.length) ++ (qc0 T.U) else []) ++ ([])))))
theorem qif {v:Int} {d:Nat} {l:List Fld} {t:Tree} {i:Nat} {k x1 x2 x3 x4 x5 x6:Int} {s:List Fld} (h:l[i]? = some (.mk k x1 x2 x3 x4 x5 x6 s)) (hk:k = 8 ∨ k = 9) :
  ((fitT v (d + 1) l t).at_ i).S = qaz (t.at_ i).S:=by
 rw [qhh h]
 have e1:k ≠ 11:=by omega
 have e:qb4 (fitT v d) v (.mk k x1 x2 x3 x4 x5 x6 s) (t.at_ i) = .mk 0 (qaz (t.at_ i).S) (Fld.nul (.mk k x1 x2 x3 x4 x5 x6 s) v (t.at_ i)) [] []:=by
  simp [qb4,qdd,Fld.kind,e1,hk]
 rw [e]
 rfl
theorem qjt {k x1 x2 x4 x5 x6:Int} {s:List Fld} {v:Int} {t:Tree}:Fld.nul (.mk k x1 x2 (-1) x4 x5 x6 s) v t = false:=by
 cases t
 simp [Fld.nul]
theorem qi0 {x:Int}:be 8 (((IntKind.u64.wrap x).toNat:Nat):Int) = be 8 x:=by
 rw [show (((IntKind.u64.wrap x).toNat:Nat):Int) = IntKind.u64.wrap x by rw [qbQ]; omega,qhX]
theorem qju {k x1 x2 n x4 x5 x6:Int} {s:List Fld} {v:Int} {t:Tree} (h:Fld.nul (.mk k x1 x2 n x4 x5 x6 s) v t = true):v ≥ n:=by
 cases t
 simp only [Fld.nul,Bool.and_eq_true,decide_eq_true_eq] at h
 exact h.2
theorem qjT {x:Int}:by8 (if decide (x % 2 = 1) = true then 1 else 0) = by8 (x % 2):=by
 rcases Int.emod_two_eq x with h | h <;> simp [h]
def canU (u:List (Int × Bs)):Prop:=qcc u ∧ u.length ≤ 1000000 ∧ ∀ y ∈ u,y.2.length < 4294967296
theorem qig {v:Int} {d:Nat} {l:List Fld} {t:Tree}:canU (fitT v d l t).U:=by
 rw [qjp]
 refine ⟨qeN (qeb _ _),?_,fun y hy=>?_⟩
 ·rw [qev]; exact Nat.le_trans (qfg _ _) (by decide)
 obtain ⟨x,_,rfl⟩:=List.mem_map.1 hy
 exact Nat.lt_of_le_of_lt (qa1 _) (by decide)
theorem qih {v:Int} {d:Nat} {l:List Fld} {t:Tree} {i:Nat} {k x1 x2 x3 x4 x5 x6:Int} {s:List Fld} (h:l[i]? = some (.mk k x1 x2 x3 x4 x5 x6 s)) (hk:k = 8 ∨ k = 9):(qbF ((fitT v (d + 1) l t).at_ i)).length ≤ 32767:=by
 rw [(qjs h hk).1]
 split
 ·exact Nat.zero_le _
 exact Nat.le_trans (qa1 _) (by decide)
def Tree.ranged:Tree → Prop
 | .mk _ _ _ l u=>(∀ x ∈ u,0 ≤ x.1 ∧ x.1 < 4294967296) ∧ rangeds l
where rangeds:List Tree → Prop
 | []=>True
 | t :: r=>t.ranged ∧ rangeds r
abbrev rangeds:=Tree.ranged.rangeds
theorem qee:∀ {l:List Tree},rangeds l → ∀ x ∈ l,x.ranged
 | [],_,x,h=>by cases h
 | t :: r,hr,x,h=>by
  rcases List.mem_cons.1 h with rfl | h
  ·exact hr.1
  exact qee (l:=r) hr.2 x h
theorem qcV:∀ {l:List Tree},(∀ x ∈ l,x.ranged) → rangeds l
 | [],_=>trivial
 | t :: r,h=>⟨h t (List.mem_cons_self ..),qcV (l:=r) fun x hx=>h x (List.mem_cons_of_mem _ hx)⟩
theorem qef:Tree.zero.ranged:=⟨fun x h=>(by cases h),trivial⟩
theorem qf2 {t:Tree} (h:t.ranged):∀ x ∈ t.U,0 ≤ x.1 ∧ x.1 < 4294967296:=by cases t; exact h.1
theorem qf3 {t:Tree} (h:t.ranged):∀ x ∈ t.L,x.ranged:=by cases t; exact qee h.2
theorem qht {t:Tree} (h:t.ranged) (i:Nat):(t.at_ i).ranged:=by
 unfold Tree.at_
 rw [List.getD_eq_getElem?_getD]
 cases hx:t.L[i]? with
 | none=>exact qef
 | some x=>exact qf3 h x (List.mem_of_getElem? hx)
theorem TreeR.ranged {w:World} {F:Nat → Nat → Prop} {cs:List Value} {t:Tree} (h:TreeR w F cs t):t.ranged:=by
 induction h with
 | @mk n s b l u A1 A2 A3 c1 c2 c3 cs h1 h2 h3 h4 ih =>
  refine ⟨fun x hx=>qgn h4 x hx,qcV fun x hx=>?_⟩
  obtain ⟨i,hi⟩:=List.mem_iff_getElem?.1 hx
  exact ih i x hi
theorem qgv (v:Int):∀ (d:Nat) (l:List Fld) (t:Tree),t.ranged → (fitT v d l t).ranged:=by
 have core:∀ (W:Fld → Tree → Tree) (l:List Fld) (t:Tree),t.ranged → (∀ f x,x.ranged → (W f x).ranged) → (fitW W l t).ranged:=by
  intro W l t ht hW
  refine ⟨fun x hx=>?_,qcV ?_⟩
  ·obtain ⟨y,hy,rfl⟩:=List.mem_map.1 hx
   exact qf2 ht y (qfh y hy)
  have:∀ (l:List Fld) (i:Nat),∀ x ∈ qfs W l t i,x.ranged:=by
   intro l
   induction l with
   | nil=>intro i x hx; cases hx
   | cons f r ih =>
    intro i x hx
    rcases List.mem_cons.1 hx with rfl | hx
    ·exact hW f _ (qht ht i)
    exact ih (i + 1) x hx
  exact this l 0
 have f0:∀ (p:List Fld → Tree → Tree),(∀ l x,x.ranged → (p l x).ranged) → ∀ (f:Fld) (b:Bool) (x:Tree),x.ranged → (qdd p f b x).ranged:=by
  intro p hp f b x hx
  unfold qdd
  split
  ·exact ⟨fun x h=>(by cases h),trivial⟩
  split
  ·have:=hp f.sub x hx
   generalize p f.sub x = y at this
   cases y; exact this
  exact ⟨fun x h=>(by cases h),trivial⟩
 intro d
 induction d with
 | zero=>intro l t ht; exact core _ l t ht fun _ _ _=>qef
 | succ d ih =>
  intro l t ht
  refine core _ l t ht fun f x hx=>?_
  unfold qb4
  split
  ·refine ⟨fun x h=>(by cases h),qcV fun y hy=>?_⟩
   obtain ⟨z,hz,rfl⟩:=List.mem_map.1 hy
   exact f0 _ ih _ _ _ (qf3 hx z (by unfold qaq at hz; exact List.mem_of_mem_take hz))
  exact f0 _ ih _ _ _ hx
theorem sHas (k x1 x2 x3 x4 x5 x6:Int) (fs:List Fld) (AF:Option Addr) (cF:Nat) (v:Int) (w:World) :
  Calls Tryd.prog 28 #[.agg #[.int .i64 k,.int .i64 x1,.int .i64 x2,.int .i64 x3,.int .i64 x4,.int .i64 x5,.int .i64 x6,.slice AF fs.length cF],.int .i64 v] w (qbR w (.bool (Fld.has (Fld.mk k x1 x2 x3 x4 x5 x6 fs) v))):=by
 refine enter (n:=20) Tryd.func28 rfl Tryd.ntmps28 kz fun a hE=>?_
 have hW:=WOk.start w Nil
 refine qac [0,1] kz ?_
 refine qaj (qa9 hW hE (d:=2) (cs:=[.int .i64 k,.int .i64 x1,.int .i64 x2,.int .i64 x3,.int .i64 x4,.int .i64 x5,.int .i64 x6,.slice AF fs.length cF]) kz fun b1 a2 w3 hb4 hz5 hF6 hW7 hE8=>?_)
 refine qai [1] [] [(1,.v (.int .i64 v)),(2,.p 0 0)] hW7 hE8 fun a9 af=>?_
 refine qae (qab ?_)
 refine qac [0,1,2,3,4,5,6,7,8,9,10,11,12,13,14,15] kz ?_
 refine qai [0,1,2,3,4] [5,6,7,8,9,10,11,12,13,14,15] [(1,.v (.int .i64 v)),(2,.p 0 0),(9,.v (.bool (decide (x1 ≤ v))))] hW7 af fun av ac=>?_
 refine (Bool.eq_false_or_eq_true (decide (x1 ≤ v))).elim (fun aa=>?_) (fun aa=>?_)
 ·
  have ao:=of_decide_eq_true aa
  have ag:=ac.cast (env':=[(1,.v (.int .i64 v)),(2,.p 0 0),(9,.v (.bool true))]) (by rw [aa])
  refine qai [5,6,7,8] [9,10,11,12,13,14,15] [(1,.v (.int .i64 v)),(2,.p 0 0),(9,.v (.bool true)),(13,.v (.bool (decide (x2 < 0))))] hW7 ag fun aw ae=>?_
  refine (Bool.eq_false_or_eq_true (decide (x2 < 0))).elim (fun ab=>?_) (fun ab=>?_)
  ·
   have ap:=of_decide_eq_true ab
   have ah:=ae.cast (env':=[(1,.v (.int .i64 v)),(2,.p 0 0),(9,.v (.bool true)),(13,.v (.bool true))]) (by rw [ab])
   refine qai [9,10,11,12,13,14,15] [] [(4,.v (.bool true))] hW7 ah fun ax ai=>?_
   refine qae (qab ?_)
   refine wp_ret ?_
   refine qaG ai hW7.cells (v:=.bool true) kz ?_
   exact ⟨by simp only [Fld.has,aa,ab,Bool.true_and,Bool.and_true,Bool.false_and,Bool.and_false,Bool.true_or,Bool.false_or,Bool.or_true,Bool.or_false],hW7.step⟩
  have ar:=of_decide_eq_false ab
  have aj:=ae.cast (env':=[(1,.v (.int .i64 v)),(2,.p 0 0),(9,.v (.bool true)),(13,.v (.bool false))]) (by rw [ab])
  refine qai [9,10,11,12,13,14,15] [] [(4,.v (.bool (decide (v ≤ x2))))] hW7 aj fun ay ak=>?_
  refine qae (qab ?_)
  refine wp_ret ?_
  refine qaG ak hW7.cells (v:=.bool (decide (v ≤ x2))) kz ?_
  exact ⟨by simp only [Fld.has,aa,ab,Bool.true_and,Bool.and_true,Bool.false_and,Bool.and_false,Bool.true_or,Bool.false_or,Bool.or_true,Bool.or_false],hW7.step⟩
 have au:=of_decide_eq_false aa
 have al:=ac.cast (env':=[(1,.v (.int .i64 v)),(2,.p 0 0),(9,.v (.bool false))]) (by rw [aa])
 refine qai [5,6,7,8,9,10,11,12,13,14,15] [] [(4,.v (.bool false))] hW7 al fun az am=>?_
 refine qae (qab ?_)
 refine wp_ret ?_
 refine qaG am hW7.cells (v:=.bool false) kz ?_
 exact ⟨by simp only [Fld.has,aa,Bool.true_and,Bool.and_true,Bool.false_and,Bool.and_false,Bool.true_or,Bool.false_or,Bool.or_true,Bool.or_false],hW7.step⟩
theorem qjU (k x1 x2 x3 x4 x5 x6:Int) (fs:List Fld) (AF:Option Addr) (cF:Nat) (v:Int) (n:Int) (s:Bs) (b:Bool) (l:List Tree) (u:List (Int × Bs)) (A1:Option Addr) (c1:Nat) (A2:Option Addr) (c2:Nat) (A3:Option Addr) (c3:Nat) (w:World) :
  Calls Tryd.prog 48 #[.agg #[.int .i64 k,.int .i64 x1,.int .i64 x2,.int .i64 x3,.int .i64 x4,.int .i64 x5,.int .i64 x6,.slice AF fs.length cF],.int .i64 v,.agg #[.int .i64 n,.slice A1 s.length c1,.bool b,.slice A2 l.length c2,.slice A3 u.length c3]] w (qbR w (.bool (Fld.nul (Fld.mk k x1 x2 x3 x4 x5 x6 fs) v (Tree.mk n s b l u)))):=by
 refine enter (n:=20) Tryd.func48 rfl Tryd.ntmps48 kz fun a hE=>?_
 have hW:=WOk.start w Nil
 refine qac [0,1,2] kz ?_
 refine qaj (qa9 hW hE (d:=3) (cs:=[.int .i64 k,.int .i64 x1,.int .i64 x2,.int .i64 x3,.int .i64 x4,.int .i64 x5,.int .i64 x6,.slice AF fs.length cF]) kz fun b1 a2 w3 hb4 hz5 hF6 hW7 hE8=>?_)
 refine qaj (qa9 hW7 hE8 (d:=5) (cs:=[.int .i64 n,.slice A1 s.length c1,.bool b,.slice A2 l.length c2,.slice A3 u.length c3]) kz fun b9 ay az ar au av aa ag=>?_)
 refine qai [2] [] [(1,.v (.int .i64 v)),(3,.p 0 0),(5,.p 1 0)] aa ag fun aA ah=>?_
 refine qae (qab ?_)
 refine qac [0,1,2,3,4,5,6,7,8,9,10,11,12,13] kz ?_
 refine qai [0,1,2] [3,4,5,6,7,8,9,10,11,12,13] [(1,.v (.int .i64 v)),(3,.p 0 0),(9,.v (.bool b))] aa ah fun aB ae=>?_
 refine (Bool.eq_false_or_eq_true (b)).elim (fun ac=>?_) (fun ac=>?_)
 ·
  have ai:=ae.cast (env':=[(1,.v (.int .i64 v)),(3,.p 0 0),(9,.v (.bool true))]) (by rw [ac])
  refine qai [3,4,5,6,7] [8,9,10,11,12,13] [(1,.v (.int .i64 v)),(3,.p 0 0),(14,.v (.bool (decide (x3 ≥ 0))))] aa ai fun aC af=>?_
  refine (Bool.eq_false_or_eq_true (decide (x3 ≥ 0))).elim (fun ab=>?_) (fun ab=>?_)
  ·
   have aw:=of_decide_eq_true ab
   have aj:=af.cast (env':=[(1,.v (.int .i64 v)),(3,.p 0 0),(14,.v (.bool true))]) (by rw [ab])
   refine qai [8,9,10,11,12,13] [] [(6,.v (.bool (decide (v ≥ x3))))] aa aj fun aD ak=>?_
   refine qae (qab ?_)
   refine wp_ret ?_
   refine qaG ak aa.cells (v:=.bool (decide (v ≥ x3))) kz ?_
   exact ⟨by simp only [Fld.nul,ac,ab,Bool.true_and,Bool.and_true,Bool.false_and,Bool.and_false,Bool.true_or,Bool.false_or,Bool.or_true,Bool.or_false],aa.step⟩
  have ax:=of_decide_eq_false ab
  have al:=af.cast (env':=[(1,.v (.int .i64 v)),(3,.p 0 0),(14,.v (.bool false))]) (by rw [ab])
  refine qai [8,9,10,11,12,13] [] [(6,.v (.bool false))] aa al fun aE am=>?_
  refine qae (qab ?_)
  refine wp_ret ?_
  refine qaG am aa.cells (v:=.bool false) kz ?_
  exact ⟨by simp only [Fld.nul,ac,ab,Bool.true_and,Bool.and_true,Bool.false_and,Bool.and_false,Bool.true_or,Bool.false_or,Bool.or_true,Bool.or_false],aa.step⟩
 have ao:=ae.cast (env':=[(1,.v (.int .i64 v)),(3,.p 0 0),(9,.v (.bool false))]) (by rw [ac])
 refine qai [3,4,5,6,7,8,9,10,11,12,13] [] [(6,.v (.bool false))] aa ao fun aF ap=>?_
 refine qae (qab ?_)
 refine wp_ret ?_
 refine qaG ap aa.cells (v:=.bool false) kz ?_
 exact ⟨by simp only [Fld.nul,ac,Bool.true_and,Bool.and_true,Bool.false_and,Bool.and_false,Bool.true_or,Bool.false_or,Bool.or_true,Bool.or_false],aa.step⟩
theorem qhu (k:Int) (w:World):Calls Tryd.prog 54 #[.int .i64 k] w (qbR w (.int .i64 ((qa7 k:Nat):Int))):=by
 refine enter (n:=11) Tryd.func54 rfl Tryd.ntmps54 kz fun a hE=>?_
 have hW:=WOk.start w Nil
 refine qao [(0,.v (.int .i64 k))] hW hE fun a1 hE2=>?_
 refine wp_seq ?_
 refine qao [(3,.v (.int .i64 k))] hW hE2 fun a3 hE4=>?_
 refine wp_block ?_
 refine qao [(3,.v (.int .i64 k)),(4,.v (.bool (k == 1)))] hW hE4 fun a5 hE6=>?_
 refine qax hE6 (b:=k == 1) kz (fun hc7=>?_) (fun hc7=>?_)
 ·
  have hf8:k = 1:=by simpa using hc7
  refine qao [(2,.v (.int .i64 1))] hW hE6 fun a9 ah=>?_
  refine wp_ret ?_
  refine qaE ?_
  refine qat ?_
  refine qaG ah hW.cells (v:=.int .i64 1) kz ?_
  exact ⟨by simp_all [qa7],hW.step⟩
 have am:k ≠ 1:=by simpa using hc7
 refine wp_seq ?_
 refine qao [(3,.v (.int .i64 k)),(6,.v (.bool (k == 2)))] hW hE6 fun ax aa=>?_
 refine qax aa (b:=k == 2) kz (fun ab=>?_) (fun ab=>?_)
 ·
  have ao:k = 2:=by simpa using ab
  refine wp_skip ?_
  refine qab ?_
  refine qbb aa (b:=k == 2) kz (ab) ?_
  refine qao [(2,.v (.int .i64 2))] hW aa fun ay ai=>?_
  refine wp_ret ?_
  refine qaE ?_
  refine qat ?_
  refine qaG ai hW.cells (v:=.int .i64 2) kz ?_
  exact ⟨by simp_all [qa7],hW.step⟩
 have ap:k ≠ 2:=by simpa using ab
 refine qap [0,1] kz ?_
 refine qai [0,1] [] [(3,.v (.int .i64 k)),(6,.v (.bool (k == 5)))] hW aa fun az ac=>?_
 refine qae (qab ?_)
 refine qax ac (b:=k == 5) kz (fun ae=>?_) (fun ae=>?_)
 ·
  have ar:k = 5:=by simpa using ae
  refine qao [(2,.v (.int .i64 2))] hW ac fun aA aj=>?_
  refine wp_ret ?_
  refine qaE ?_
  refine qat ?_
  refine qaG aj hW.cells (v:=.int .i64 2) kz ?_
  exact ⟨by simp_all [qa7],hW.step⟩
 have au:k ≠ 5:=by simpa using ae
 refine qao [(9,.v (.bool (k == 3)))] hW ac fun aB af=>?_
 refine qax af (b:=k == 3) kz (fun ag=>?_) (fun ag=>?_)
 ·
  have av:k = 3:=by simpa using ag
  refine qao [(2,.v (.int .i64 4))] hW af fun aC ak=>?_
  refine wp_ret ?_
  refine qaE ?_
  refine qat ?_
  refine qaG ak hW.cells (v:=.int .i64 4) kz ?_
  exact ⟨by simp_all [qa7],hW.step⟩
 have aw:k ≠ 3:=by simpa using ag
 refine wp_skip ?_
 refine qav ?_
 refine qab ?_
 refine qao [(2,.v (.int .i64 8))] hW af fun aD al=>?_
 refine wp_ret ?_
 refine qaG al hW.cells (v:=.int .i64 8) kz ?_
 exact ⟨by simp_all [qa7],hW.step⟩
theorem qhv (A:Option Addr) (c:Nat) (s:Bs) (hc:s.length ≤ c) (w:World) :
  Calls Tryd.prog 34 #[.slice A s.length c] w (qbR w (.slice A (qaz s).length c)):=by
 refine enter (n:=8) Tryd.func34 rfl Tryd.ntmps34 kz fun a hE=>?_
 have hW:=WOk.start w Nil
 refine qao [(0,.v (.slice A s.length c))] hW hE fun a1 hE2=>?_
 refine qac [0,1,2,3,4,5] kz ?_
 refine qai [0,1,2,3] [4,5] [(3,.v (.slice A s.length c)),(6,.v (.int .i64 (if 32767 < ((s.length:Nat):Int) then 32767 else ((s.length:Nat):Int))))] hW hE2 fun a3 hE4=>?_
 refine qaj (qdc hE4 (t:=22) (A:=A) (m:=s.length) (cp:=c) (q:=(if 32767 < ((s.length:Nat):Int) then 32767 else ((s.length:Nat):Int))) (d:=7) (j:=(qaz s).length) kz (e:=5) (size:=1) (bytes:=1) kz (by simpa [qaz] using qfr s.length) (by simp only [qaz,List.length_take]; omega) fun a5 hE6=>?_)
 refine qai [5] [] [(2,.v (.slice A ((qaz s).length) c))] hW hE6 fun a7 hE8=>?_
 refine qae (qab ?_)
 refine wp_ret ?_
 refine qaG hE8 hW.cells (v:=.slice A ((qaz s).length) c) kz ?_
 exact ⟨rfl,hW.step⟩
theorem qi1 (A:Option Addr) (c:Nat) (s:List Tree) (hc:s.length ≤ c) (w:World) :
  Calls Tryd.prog 49 #[.slice A s.length c] w (qbR w (.slice A (qaq s).length c)):=by
 refine enter (n:=8) Tryd.func49 rfl Tryd.ntmps49 kz fun a hE=>?_
 have hW:=WOk.start w Nil
 refine qao [(0,.v (.slice A s.length c))] hW hE fun a1 hE2=>?_
 refine qac [0,1,2,3,4,5] kz ?_
 refine qai [0,1,2,3] [4,5] [(3,.v (.slice A s.length c)),(6,.v (.int .i64 (if 32767 < ((s.length:Nat):Int) then 32767 else ((s.length:Nat):Int))))] hW hE2 fun a3 hE4=>?_
 refine qaj (qdc hE4 (t:=23) (A:=A) (m:=s.length) (cp:=c) (q:=(if 32767 < ((s.length:Nat):Int) then 32767 else ((s.length:Nat):Int))) (d:=7) (j:=(qaq s).length) kz (e:=26) (size:=5) (bytes:=88) kz (by simpa [qaq] using qfr s.length) (by simp only [qaq,List.length_take]; omega) fun a5 hE6=>?_)
 refine qai [5] [] [(2,.v (.slice A ((qaq s).length) c))] hW hE6 fun a7 hE8=>?_
 refine qae (qab ?_)
 refine wp_ret ?_
 refine qaG hE8 hW.cells (v:=.slice A ((qaq s).length) c) kz ?_
 exact ⟨rfl,hW.step⟩
theorem qjV (A A':Option Addr) (c c':Nat) (s t:Bs) (w:World) (F:Nat → Nat → Prop) (hs:Octs w F A c s) (ht:Octs w F A' c' t) :
  Calls Tryd.prog 53 #[.slice A s.length c,.slice A' t.length c'] w (qbR w (.bool (decide (s = t)))):=by
 refine enter (n:=26) Tryd.func53 rfl Tryd.ntmps53 kz fun a hE=>?_
 have hW:=WOk.start w Nil
 have hl:=Slots.small hs
 refine qao [(0,.v (.slice A s.length c)),(1,.v (.slice A' t.length c'))] hW hE fun a1 hE2=>?_
 refine wp_seq ?_
 refine qao [(0,.v (.slice A s.length c)),(1,.v (.slice A' t.length c')),(10,.v (.bool (((s.length:Nat):Int) != ((t.length:Nat):Int))))] hW hE2 fun a3 hE4=>?_
 refine qax hE4 (b:=((s.length:Nat):Int) != ((t.length:Nat):Int)) kz (fun hc5=>?_) (fun hc5=>?_)
 ·
  have hf6:((s.length:Nat):Int) ≠ ((t.length:Nat):Int):=by simpa using hc5
  refine qao [(4,.v (.bool false))] hW hE4 fun a7 hE8=>?_
  refine wp_ret ?_
  refine qat ?_
  refine qaG hE8 hW.cells (v:=.bool false) kz ?_
  exact ⟨by first | rw [← qeJ hq (by omega) hlen] | rw [← qft ‹_›] | rw [← qeI ‹_›],hW.step⟩
 have hf9:((s.length:Nat):Int) = ((t.length:Nat):Int):=by simpa using hc5
 refine wp_skip ?_
 refine qab ?_
 refine wp_seq ?_
 refine qao [(0,.v (.slice A s.length c)),(1,.v (.slice A' t.length c')),(12,.v (.int .i64 ((s.length:Nat):Int))),(13,.v (.int .i64 0))] hW hE4 fun aP ak=>?_
 refine wp_block ?_
 have hlen:s.length = t.length:=by omega
 refine wp_loop_ghost (fun n_ a_ w_=>∃ (k:Nat),n_ = s.length - k ∧ k ≤ s.length ∧ (s.take k = t.take k) ∧ LInv hW 26 [] [] [(0,.v (.slice A s.length c)),(1,.v (.slice A' t.length c')),(12,.v (.int .i64 ((s.length:Nat):Int))),(13,.v (.int .i64 ((k:Nat):Int)))] a_ w_) (s.length) ⟨0,by omega,by omega,rfl,ak.pk,hW,Fr.refl _ _ _⟩ ?_
 rintro aQ aR aS ⟨k,aD,aE,hq,al,ab,am⟩
 refine qao [(0,.v (.slice A s.length c)),(1,.v (.slice A' t.length c')),(12,.v (.int .i64 ((s.length:Nat):Int))),(13,.v (.int .i64 ((k:Nat):Int))),(14,.v (.bool (decide (((k:Nat):Int) < ((s.length:Nat):Int)))))] ab al fun aT ac=>?_
 refine wp_seq ?_
 refine qax ac (b:=decide (((k:Nat):Int) < ((s.length:Nat):Int))) kz (fun ae=>?_) (fun ae=>?_)
 ·
  have aF:=of_decide_eq_true ae
  refine wp_skip ?_
  refine qab ?_
  refine wp_seq ?_
  refine wp_block ?_
  refine qao [(0,.v (.slice A s.length c)),(1,.v (.slice A' t.length c')),(5,.v (.int .i64 ((k:Nat):Int))),(12,.v (.int .i64 ((s.length:Nat):Int))),(13,.v (.int .i64 ((k:Nat):Int)))] ab ac fun aU ao=>?_
  refine qbr kz ab fun aV ap aa=>?_
  refine qaM [0,1,4,5] [(0,.v (.slice A s.length c)),(1,.v (.slice A' t.length c')),(12,.v (.int .i64 ((s.length:Nat):Int))),(13,.v (.int .i64 ((k:Nat):Int))),(16,.v (.slice A s.length c)),(17,.v (.int .i64 ((k:Nat):Int))),(20,.v (.slice A' t.length c')),(21,.v (.int .i64 ((k:Nat):Int)))] 5 (qaa (qad (qaa (qaa (qad (qaa qaf)))))) (fun _ h=>h ▸ aa.cells) rfl ao fun aW ar=>?_
  obtain ⟨aG,aH,au,aI,ah⟩:=Slots.get hs (i:=k) (by omega)
  refine qaW ar (i:=2) (t:=22) (A:=A) (m:=s.length) (q:=((k:Nat):Int)) (d:=18) kz (e:=5) (size:=1) (bytes:=1) kz au rfl (by omega) kz kz (qaa (qad (qaa (qaa (qad (qaa qaf)))))) rfl fun aX av=>?_
  refine qa4 av (i:=3) (t:=5) (b:=aG) (o:=aH + k * 1) (d:=19) kz (cs:=[.int .u8 ((s.getD k 0).toNat:Int)]) (v:=.int .u8 ((s.getD k 0).toNat:Int)) kz (fun w' h'=>h' ▸ (AtF.move ah aa.step nilM qaV).at_) kz kz (qaa (qad (qaa (qaa (qad (qaa qaf)))))) rfl fun aY aw=>?_
  obtain ⟨aJ,aK,ax,aL,ai⟩:=Slots.get ht (i:=k) (by omega)
  refine qaW aw (i:=6) (t:=22) (A:=A') (m:=t.length) (q:=((k:Nat):Int)) (d:=22) kz (e:=5) (size:=1) (bytes:=1) kz ax rfl (by omega) kz kz (qaa (qad (qaa (qaa (qad (qaa qaf)))))) rfl fun aZ ay=>?_
  refine qa4 ay (i:=7) (t:=5) (b:=aJ) (o:=aK + k * 1) (d:=23) kz (cs:=[.int .u8 ((t.getD k 0).toNat:Int)]) (v:=.int .u8 ((t.getD k 0).toNat:Int)) kz (fun w' h'=>h' ▸ (AtF.move ai aa.step nilM qaV).at_) kz kz (qaa (qad (qaa (qaa (qad (qaa qaf)))))) rfl fun ba az=>?_
  refine qaM [8] [(0,.v (.slice A s.length c)),(1,.v (.slice A' t.length c')),(12,.v (.int .i64 ((s.length:Nat):Int))),(13,.v (.int .i64 ((k:Nat):Int))),(24,.v (.bool (((s.getD k 0).toNat:Int) != ((t.getD k 0).toNat:Int))))] 0 (qaa (qad (qaa (qaa (qad (qaa qaf)))))) (fun _ h=>h ▸ aa.cells) rfl az fun bd af=>?_
  refine qaN kz ?_ _
  refine qab ?_
  refine qax af (b:=((s.getD k 0).toNat:Int) != ((t.getD k 0).toNat:Int)) kz (fun ag=>?_) (fun ag=>?_)
  ·
   have aM:((s.getD k 0).toNat:Int) ≠ ((t.getD k 0).toNat:Int):=by simpa using ag
   refine qao [(4,.v (.bool false))] aa af fun bf aA=>?_
   refine wp_ret ?_
   refine qaE ?_
   refine qat ?_
   refine qat ?_
   refine qaE ?_
   refine qat ?_
   refine qaG aA aa.cells (v:=.bool false) kz ?_
   exact ⟨by first | rw [← qeJ hq (by omega) hlen] | rw [← qft ‹_›] | rw [← qeI ‹_›],aa.step⟩
  have aN:((s.getD k 0).toNat:Int) = ((t.getD k 0).toNat:Int):=by simpa using ag
  refine wp_skip ?_
  refine qav ?_
  refine qab ?_
  refine qap [0,1] kz ?_
  refine qai [0,1] [] [(0,.v (.slice A s.length c)),(1,.v (.slice A' t.length c')),(12,.v (.int .i64 ((s.length:Nat):Int))),(13,.v (.int .i64 (IntKind.i64.wrap (((k:Nat):Int) + 1))))] aa af fun bg aj=>?_
  refine qae (qab ?_)
  have aB:IntKind.i64.wrap (((k:Nat):Int) + 1) = ((k + 1:Nat):Int):=qaO (by omega)
  rw [aB] at aj
  exact ⟨s.length - (k + 1),by omega,k + 1,rfl,by omega,qgO hq (by omega) hlen ‹_›,aj.pk,aa,(am.trans ap)⟩
 have aO:=of_decide_eq_false ae
 refine wp_exit ?_
 refine qau ?_
 refine qau ?_
 refine qaH ?_
 refine qab ?_
 refine qao [(4,.v (.bool true))] ab ac fun bh aC=>?_
 refine wp_ret ?_
 refine qaG aC ab.cells (v:=.bool true) kz ?_
 exact ⟨by first | rw [← qeJ hq (by omega) hlen] | rw [← qft ‹_›] | rw [← qeI ‹_›],ab.step⟩
theorem sAt (ct:List Value) (t:Tree) (i:Nat) (w:World) (F:Nat → Nat → Prop) (ht:TreeR w F ct t) :
  Calls Tryd.prog 20 #[.agg ct.toArray,.int .i64 (i:Int)] w (qji w F (t.at_ i)):=by
 obtain ⟨n1,s2,b3,l4,u5,A6,c7,A8,c9,aO,aP,aQ,rfl,rfl,aR,aJ,aS,bp⟩:=ht.open_
 have aK:=aR.small
 have aL:=aJ.small
 refine enter (n:=16) Tryd.func20 rfl Tryd.ntmps20 kz fun a hE=>?_
 have hW:=WOk.start w Nil
 refine qac [0,1] kz ?_
 refine qaj (qa9 hW hE (d:=2) (cs:=[.int .i64 n1,.slice A6 s2.length c7,.bool b3,.slice A8 l4.length c9,.slice aO u5.length aP]) kz fun bq bt bu aT aU aV az aA=>?_)
 refine qaj (qaI az aA (d:=4) (cs:=[.int .i64 0,.slice none 0 0,.bool false,.slice none 0 0,.slice none 0 0]) kz fun bw bx bz aW aX aY aa aB=>?_)
 refine qae (qab ?_)
 refine wp_seq ?_
 refine qao [(1,.v (.int .i64 ((i:Nat):Int))),(2,.p 0 0),(4,.p 1 0),(9,.v (.bool (decide (((i:Nat):Int) < ((l4.length:Nat):Int)))))] aa aB fun bA ae=>?_
 refine qax ae (b:=decide (((i:Nat):Int) < ((l4.length:Nat):Int))) kz (fun af=>?_) (fun af=>?_)
 ·
  have aZ:=of_decide_eq_true af
  refine qac [0,1,2,3,4,5] kz ?_
  refine qai [0,1,2] [3,4,5] [(4,.p 1 0),(11,.v (.slice A8 l4.length c9)),(12,.v (.int .i64 ((i:Nat):Int)))] aa ae fun bB aC=>?_
  obtain ⟨ba,bd,aD,bf,ab⟩:=Slots.get aJ (i:=i) (by omega)
  obtain ⟨bg,ah⟩:∃ x,l4[i]? = some x:=⟨_,List.getElem?_eq_getElem (by omega)⟩
  have ag:=aS i bg ah
  obtain ⟨ak,al,am,ao,ap,ar,au,av,aw,ax,ay,bh,rfl,ac,bi,bj,bC,bD⟩:=ag.open_
  rw [ac] at ag
  have aM:=bi.small
  have aN:=bj.small
  rw [ac] at ab
  refine qaj (qas aC (t:=23) (A:=A8) (m:=l4.length) (q:=((i:Nat):Int)) (d:=13) kz (e:=26) (size:=5) (bytes:=88) kz aD rfl (by omega) fun bE aE=>?_)
  refine qaj (qaA aE (t:=26) (b:=ba) (o:=bd + i * 5) (d:=14) kz (cs:=[.int .i64 ak,.slice ar al.length au,.bool am,.slice av ao.length aw,.slice ax ap.length ay]) (v:=.agg #[.int .i64 ak,.slice ar al.length au,.bool am,.slice av ao.length aw,.slice ax ap.length ay]) kz (AtF.move ab aa.step nilM qaV).at_ fun bF aF=>?_)
  refine qaj (qaw aa aF (oi:=1) (cs:=[.int .i64 ak,.slice ar al.length au,.bool am,.slice av ao.length aw,.slice ax ap.length ay]) kz fun bG bk ai aG=>?_)
  refine qae (qab ?_)
  refine wp_ret ?_
  refine qat ?_
  refine qaG aG ai.cells (v:=.agg #[.int .i64 ak,.slice ar al.length au,.bool am,.slice av ao.length aw,.slice ax ap.length ay]) kz ?_
  exact ⟨_,rfl,by rw [qiP ah]; exact ag,ai.step⟩
 have bn:=of_decide_eq_false af
 refine wp_skip ?_
 refine qab ?_
 refine qac [0,1] kz ?_
 refine qai [0] [1] [(4,.p 1 0),(15,.v (.agg #[.int .i64 0,.slice none 0 0,.bool false,.slice none 0 0,.slice none 0 0]))] aa ae fun bH aH=>?_
 refine qaj (qaw aa aH (oi:=1) (cs:=[.int .i64 0,.slice none 0 0,.bool false,.slice none 0 0,.slice none 0 0]) kz fun bI bo aj aI=>?_)
 refine qae (qab ?_)
 refine wp_ret ?_
 refine qaG aI aj.cells (v:=.agg #[.int .i64 0,.slice none 0 0,.bool false,.slice none 0 0,.slice none 0 0]) kz ?_
 exact ⟨_,rfl,by rw [qiQ (by omega)]; exact TreeR.zero _ _,aj.step⟩
theorem qeg (x:Int) (size:Nat) (hsz:size ≤ 8) (w:World) :
  Calls Tryd.prog 52 #[.int .i64 x,.int .i64 ((size:Nat):Int)] w (qc6 w 5 (be size x)):=by
 refine enter (n:=22) Tryd.func52 rfl Tryd.ntmps52 kz fun a hE=>?_
 have hW:=WOk.start w Nil
 refine qao [(0,.v (.int .i64 x)),(1,.v (.int .i64 ((size:Nat):Int)))] hW hE fun a1 hE2=>?_
 refine qao [(0,.v (.int .i64 x)),(1,.v (.int .i64 ((size:Nat):Int))),(5,.v (.slice none 0 0))] hW hE2 fun a3 hE4=>?_
 refine wp_seq ?_
 refine qao [(0,.v (.int .i64 x)),(5,.v (.slice none 0 0)),(6,.v (.int .i64 (IntKind.i64.wrap (((size:Nat):Int) - 1))))] hW hE4 fun a5 hE6=>?_
 refine wp_block ?_
 have hW7:=hW.addNil 5 1
 have hF8:=hW.frNil 5 1
 have aj:IntKind.i64.wrap (((size:Nat):Int) - 1) = ((size:Nat):Int) - 1 - ((0:Nat):Int):=by rw [wrap_i64 (by omega) (by omega)]; omega
 rw [aj] at hE6
 refine wp_loop_ghost (fun n_ a_ w_=>∃ (k:Nat) (A:Option Addr) (c:Nat),n_ = size - k ∧ k ≤ size ∧ LInv hW7 22 [] [brow A c 5 ((be size x).take k)] [(0,.v (.int .i64 x)),(5,.v (.slice A (((be size x).take k).length) c)),(6,.v (.int .i64 (((size:Nat):Int) - 1 - ((k:Nat):Int))))] a_ w_) (size) ⟨0,none,0,by omega,by omega,hE6.pk,hW7,Fr.refl _ _ _⟩ ?_
 rintro n9 aK aL ⟨k,A,c,aG,aH,ak,aa,al⟩
 refine wp_seq ?_
 refine qao [(0,.v (.int .i64 x)),(5,.v (.slice A (((be size x).take k).length) c)),(6,.v (.int .i64 (((size:Nat):Int) - 1 - ((k:Nat):Int)))),(10,.v (.bool (decide ((((size:Nat):Int) - 1 - ((k:Nat):Int)) ≥ 0))))] aa ak fun aM ae=>?_
 refine qax ae (b:=decide ((((size:Nat):Int) - 1 - ((k:Nat):Int)) ≥ 0)) kz (fun af=>?_) (fun af=>?_)
 ·
  have aI:=of_decide_eq_true af
  refine wp_skip ?_
  refine qab ?_
  refine wp_seq ?_
  refine wp_block ?_
  refine qap [0,1,2,3,4,5,6,7,8] kz ?_
  refine qai [0,1,2,3] [4,5,6,7,8] [(0,.v (.int .i64 x)),(6,.v (.int .i64 (((size:Nat):Int) - 1 - ((k:Nat):Int)))),(13,.v (.slice A (((be size x).take k).length) c)),(14,.v (.int .i64 x)),(16,.v (.int .i64 (IntKind.i64.wrap (8 * (((size:Nat):Int) - 1 - ((k:Nat):Int))))))] aa ae fun aN am=>?_
  refine qaj (qhU am (k:=.i64) (p:=x) (q:=(IntKind.i64.wrap (8 * (((size:Nat):Int) - 1 - ((k:Nat):Int))))) (d:=17) (j:=8 * (size - 1 - k)) kz (by rw [wrap_i64 (by omega) (by omega)]; omega) (by simp only [IntKind.bits]; omega) fun aO ao=>?_)
  refine qai [5] [6,7,8] [(0,.v (.int .i64 x)),(6,.v (.int .i64 (((size:Nat):Int) - 1 - ((k:Nat):Int)))),(13,.v (.slice A (((be size x).take k).length) c)),(18,.v (.int .u8 (IntKind.u8.wrap (x / 2 ^ (8 * (size - 1 - k))))))] aa ao fun aP ap=>?_
  refine qbI aa ap (k:=0) (e:=5) (size:=1) (len:=1) (cs:=[.int .u8 (IntKind.u8.wrap (x / 2 ^ (8 * (size - 1 - k))))]) (d1:=19) (d:=20) kz (t:=22) (bytes:=1) kz (fun _=>by kernel_rfl) rfl kz (by first | (have:=hroom; omega) | (simp; done) | (simp; omega)) fun ab ac aQ aR ar au ⟨_,av⟩=>?_
  have aw:(⟨ab,ac,5,1,((be size x).take k).length + 1,bc ((be size x).take k) ++ [.int .u8 (IntKind.u8.wrap (x / 2 ^ (8 * (size - 1 - k))))]⟩:Rw) = brow ab ac 5 ((be size x).take k ++ [by8 (x / 2 ^ (8 * (size - 1 - k)))]):=qbm (by simp only [bc,List.map,qdq]; try rfl) rfl
  obtain ⟨ag,ax⟩:=au.rowEq 0 [brow ab ac 5 ((be size x).take k ++ [by8 (x / 2 ^ (8 * (size - 1 - k)))])] aw
  have ay:=EnvOk.pick av (ks:=[0,6,13,18,20]) (env':=[(0,.v (.int .i64 x)),(6,.v (.int .i64 (((size:Nat):Int) - 1 - ((k:Nat):Int)))),(13,.v (.slice A (((be size x).take k).length) c)),(18,.v (.int .u8 (IntKind.u8.wrap (x / 2 ^ (8 * (size - 1 - k)))))),(20,.v (.slice ab (((be size x).take k).length + 1) ac))]) kz
  have az:=ay.cast (env':=[(0,.v (.int .i64 x)),(6,.v (.int .i64 (((size:Nat):Int) - 1 - ((k:Nat):Int)))),(13,.v (.slice A (((be size x).take k).length) c)),(18,.v (.int .u8 (IntKind.u8.wrap (x / 2 ^ (8 * (size - 1 - k)))))),(20,.v (.slice ab (((be size x).take k ++ [by8 (x / 2 ^ (8 * (size - 1 - k)))]).length) ac))]) (by simp only [List.length_append,List.length_cons,List.length_nil,Nat.zero_add])
  refine qai [8] [] [(0,.v (.int .i64 x)),(5,.v (.slice ab (((be size x).take k ++ [by8 (x / 2 ^ (8 * (size - 1 - k)))]).length) ac)),(6,.v (.int .i64 (((size:Nat):Int) - 1 - ((k:Nat):Int))))] ag az fun aS aA=>?_
  refine qae ?_
  refine qav ?_
  refine qab ?_
  refine qap [0,1,2] kz ?_
  refine qai [0,1,2] [] [(0,.v (.int .i64 x)),(5,.v (.slice ab (((be size x).take k ++ [by8 (x / 2 ^ (8 * (size - 1 - k)))]).length) ac)),(6,.v (.int .i64 (IntKind.i64.wrap ((((size:Nat):Int) - 1 - ((k:Nat):Int)) - 1))))] ag aA fun aT ah=>?_
  refine qae (qab ?_)
  have ai:((be size x).take k ++ [by8 (x / 2 ^ (8 * (size - 1 - k)))]) = ((be size x).take (k + 1)):=(qeY (by omega)).symm
  have aB:=congrArg (brow ab ac 5) ai
  obtain ⟨aC,aD⟩:=ag.rowEq 0 [brow ab ac 5 ((be size x).take (k + 1))] aB
  rw [ai] at ah
  have aE:IntKind.i64.wrap ((((size:Nat):Int) - 1 - ((k:Nat):Int)) - 1) = ((size:Nat):Int) - 1 - (((k + 1):Nat):Int):=by rw [wrap_i64 (by omega) (by omega)]; omega
  rw [aE] at ah
  exact ⟨size - (k + 1),by omega,k + 1,ab,ac,rfl,by omega,ah.pk,aC,(((al.trans ar).trans ax).trans aD)⟩
 have aJ:=of_decide_eq_false af
 refine wp_exit ?_
 refine qau ?_
 refine qau ?_
 refine qaH ?_
 refine qab ?_
 refine qao [(4,.v (.slice A (((be size x).take k).length) c))] aa ae fun aU aF=>?_
 refine wp_ret ?_
 refine qaG aF aa.cells (v:=.slice A (((be size x).take k).length) c) kz ?_
 exact qaU aa (k:=0) rfl (List.take_of_length_le (by simp; omega))
theorem qcW (x:Nat) (hx:x < 18446744073709551616) (w:World) :
  Calls Tryd.prog 32 #[.int .u64 ((x:Nat):Int)] w (qc6 w 5 (uv x)):=by
 refine enter (n:=20) Tryd.func32 rfl Tryd.ntmps32 kz fun a hE=>?_
 have hW:=WOk.start w Nil
 refine qao [(0,.v (.int .u64 ((x:Nat):Int)))] hW hE fun a1 hE2=>?_
 refine qao [(0,.v (.int .u64 ((x:Nat):Int))),(3,.v (.slice none 0 0))] hW hE2 fun a3 hE4=>?_
 refine wp_seq ?_
 refine wp_block ?_
 have hW5:=hW.addNil 5 1
 have hF6:=hW.frNil 5 1
 refine wp_loop_ghost (fun n_ a_ w_=>∃ (A:Option Addr) (c:Nat) (pre:Bs) (m:Nat),n_ = m ∧ (pre ++ uv m = uv x) ∧ (m < 18446744073709551616) ∧ LInv hW5 20 [] [brow A c 5 pre] [(0,.v (.int .u64 ((m:Nat):Int))),(3,.v (.slice A pre.length c))] a_ w_) (x) ⟨none,0,[],x,rfl,rfl,hx,hE4.pk,hW5,Fr.refl _ _ _⟩ ?_
 rintro n7 a8 w9 ⟨A,c,pre,m,aM,hp,hm,am,aa,ao⟩
 refine wp_seq ?_
 refine qao [(0,.v (.int .u64 ((m:Nat):Int))),(3,.v (.slice A pre.length c)),(5,.v (.bool (decide (((m:Nat):Int) > 127))))] aa am fun aR ae=>?_
 refine qax ae (b:=decide (((m:Nat):Int) > 127)) kz (fun af=>?_) (fun af=>?_)
 ·
  have aN:=of_decide_eq_true af
  refine wp_skip ?_
  refine qab ?_
  refine wp_block ?_
  refine qac [0,1,2,3,4,5,6,7] kz ?_
  refine qai [0,1,2,3,4] [5,6,7] [(0,.v (.int .u64 ((m:Nat):Int))),(6,.v (.slice A pre.length c)),(10,.v (.int .u8 (IntKind.u8.wrap (BitVec.ofInt 8 (IntKind.u8.wrap (IntKind.u64.wrap (BitVec.ofInt 64 ((m:Nat):Int) &&& BitVec.ofInt 64 127).toNat)) ||| BitVec.ofInt 8 128).toNat)))] aa ae fun aS ap=>?_
  refine qbI aa ap (k:=0) (e:=5) (size:=1) (len:=1) (cs:=[.int .u8 (IntKind.u8.wrap (BitVec.ofInt 8 (IntKind.u8.wrap (IntKind.u64.wrap (BitVec.ofInt 64 ((m:Nat):Int) &&& BitVec.ofInt 64 127).toNat)) ||| BitVec.ofInt 8 128).toNat)]) (d1:=11) (d:=12) kz (t:=22) (bytes:=1) kz (fun _=>by kernel_rfl) rfl kz (by have h1_:=qdu x hx; rw [← hp,List.length_append] at h1_; omega) fun ab ac aT aU ar au ⟨_,av⟩=>?_
  have aw:(⟨ab,ac,5,1,pre.length + 1,bc pre ++ [.int .u8 (IntKind.u8.wrap (BitVec.ofInt 8 (IntKind.u8.wrap (IntKind.u64.wrap (BitVec.ofInt 64 ((m:Nat):Int) &&& BitVec.ofInt 64 127).toNat)) ||| BitVec.ofInt 8 128).toNat)]⟩:Rw) = brow ab ac 5 (pre ++ [by8 (BitVec.ofInt 8 (IntKind.u8.wrap (IntKind.u64.wrap (BitVec.ofInt 64 ((m:Nat):Int) &&& BitVec.ofInt 64 127).toNat)) ||| BitVec.ofInt 8 128).toNat]):=qbm (by simp only [bc,List.map,qdq]; try rfl) rfl
  obtain ⟨ag,ax⟩:=au.rowEq 0 [brow ab ac 5 (pre ++ [by8 (BitVec.ofInt 8 (IntKind.u8.wrap (IntKind.u64.wrap (BitVec.ofInt 64 ((m:Nat):Int) &&& BitVec.ofInt 64 127).toNat)) ||| BitVec.ofInt 8 128).toNat])] aw
  have ay:=EnvOk.pick av (ks:=[0,6,10,12]) (env':=[(0,.v (.int .u64 ((m:Nat):Int))),(6,.v (.slice A pre.length c)),(10,.v (.int .u8 (IntKind.u8.wrap (BitVec.ofInt 8 (IntKind.u8.wrap (IntKind.u64.wrap (BitVec.ofInt 64 ((m:Nat):Int) &&& BitVec.ofInt 64 127).toNat)) ||| BitVec.ofInt 8 128).toNat))),(12,.v (.slice ab (pre.length + 1) ac))]) kz
  have az:=ay.cast (env':=[(0,.v (.int .u64 ((m:Nat):Int))),(6,.v (.slice A pre.length c)),(10,.v (.int .u8 (IntKind.u8.wrap (BitVec.ofInt 8 (IntKind.u8.wrap (IntKind.u64.wrap (BitVec.ofInt 64 ((m:Nat):Int) &&& BitVec.ofInt 64 127).toNat)) ||| BitVec.ofInt 8 128).toNat))),(12,.v (.slice ab ((pre ++ [by8 (BitVec.ofInt 8 (IntKind.u8.wrap (IntKind.u64.wrap (BitVec.ofInt 64 ((m:Nat):Int) &&& BitVec.ofInt 64 127).toNat)) ||| BitVec.ofInt 8 128).toNat]).length) ac))]) (by simp only [List.length_append,List.length_cons,List.length_nil,Nat.zero_add])
  refine qai [7] [] [(0,.v (.int .u64 ((m:Nat):Int))),(3,.v (.slice ab ((pre ++ [by8 (BitVec.ofInt 8 (IntKind.u8.wrap (IntKind.u64.wrap (BitVec.ofInt 64 ((m:Nat):Int) &&& BitVec.ofInt 64 127).toNat)) ||| BitVec.ofInt 8 128).toNat]).length) ac))] ag az fun aV aA=>?_
  refine qae (qab ?_)
  refine qap [0,1,2] kz ?_
  refine qai [0,1,2] [] [(0,.v (.int .u64 (Int.fdiv ((m:Nat):Int) 128))),(3,.v (.slice ab ((pre ++ [by8 (BitVec.ofInt 8 (IntKind.u8.wrap (IntKind.u64.wrap (BitVec.ofInt 64 ((m:Nat):Int) &&& BitVec.ofInt 64 127).toNat)) ||| BitVec.ofInt 8 128).toNat]).length) ac))] ag aA fun aW ah=>?_
  refine qae ?_
  refine qav ?_
  refine qab ?_
  have al:(pre ++ [by8 (BitVec.ofInt 8 (IntKind.u8.wrap (IntKind.u64.wrap (BitVec.ofInt 64 ((m:Nat):Int) &&& BitVec.ofInt 64 127).toNat)) ||| BitVec.ofInt 8 128).toNat]) = (pre ++ [UInt8.ofNat (m % 128 + 128)]):=by rw [qh1 m (by omega)]
  have aB:=congrArg (brow ab ac 5) al
  obtain ⟨aC,aD⟩:=ag.rowEq 0 [brow ab ac 5 (pre ++ [UInt8.ofNat (m % 128 + 128)])] aB
  rw [al] at ah
  have aE:Int.fdiv ((m:Nat):Int) 128 = ((m / 128:Nat):Int):=qiS m
  rw [aE] at ah
  exact ⟨m / 128,by omega,ab,ac,pre ++ [UInt8.ofNat (m % 128 + 128)],m / 128,rfl,by rw [← hp,qc7 (show 128 ≤ m by omega)]; simp,by omega,ah.pk,aC,(((ao.trans ar).trans ax).trans aD)⟩
 have aO:=of_decide_eq_false af
 refine wp_exit ?_
 refine qau ?_
 refine qau ?_
 refine qaH ?_
 refine qab ?_
 refine qac [0,1,2,3,4,5] kz ?_
 refine qai [0,1,2] [3,4,5] [(15,.v (.slice A pre.length c)),(17,.v (.int .u8 (IntKind.u8.wrap ((m:Nat):Int))))] aa ae fun aX aF=>?_
 refine qbI aa aF (k:=0) (e:=5) (size:=1) (len:=1) (cs:=[.int .u8 (IntKind.u8.wrap ((m:Nat):Int))]) (d1:=18) (d:=19) kz (t:=22) (bytes:=1) kz (fun _=>by kernel_rfl) rfl kz (by have h1_:=qdu x hx; rw [← hp,List.length_append] at h1_; omega) fun ai aj aY aZ aP aG ⟨_,aH⟩=>?_
 have aI:(⟨ai,aj,5,1,pre.length + 1,bc pre ++ [.int .u8 (IntKind.u8.wrap ((m:Nat):Int))]⟩:Rw) = brow ai aj 5 (pre ++ [by8 ((m:Nat):Int)]):=qbm (by simp only [bc,List.map,qdq]; try rfl) rfl
 obtain ⟨ak,aQ⟩:=aG.rowEq 0 [brow ai aj 5 (pre ++ [by8 ((m:Nat):Int)])] aI
 have aJ:=EnvOk.pick aH (ks:=[15,17,19]) (env':=[(15,.v (.slice A pre.length c)),(17,.v (.int .u8 (IntKind.u8.wrap ((m:Nat):Int)))),(19,.v (.slice ai (pre.length + 1) aj))]) kz
 have aK:=aJ.cast (env':=[(15,.v (.slice A pre.length c)),(17,.v (.int .u8 (IntKind.u8.wrap ((m:Nat):Int)))),(19,.v (.slice ai ((pre ++ [by8 ((m:Nat):Int)]).length) aj))]) (by simp only [List.length_append,List.length_cons,List.length_nil,Nat.zero_add])
 refine qai [5] [] [(2,.v (.slice ai ((pre ++ [by8 ((m:Nat):Int)]).length) aj))] ak aK fun ba aL=>?_
 refine qae (qab ?_)
 refine wp_ret ?_
 refine qaG aL ak.cells (v:=.slice ai ((pre ++ [by8 ((m:Nat):Int)]).length) aj) kz ?_
 exact qaU ak (k:=0) rfl (by rw [← hp,qbK (show m < 128 by omega),qgV])
theorem qcX (flex null:Bool) (m sz:Nat) (hm:m ≤ 1099511627776) (hsz:sz ≤ 8) (w:World) :
  Calls Tryd.prog 50 #[.bool flex,.bool null,.int .i64 ((m:Nat):Int),.int .i64 ((sz:Nat):Int)] w (qc6 w 5 (qak flex null m sz)):=by
 refine enter (n:=28) Tryd.func50 rfl Tryd.ntmps50 kz fun a hE=>?_
 have hW:=WOk.start w Nil
 refine qao [(0,.v (.bool flex)),(1,.v (.bool null)),(2,.v (.int .i64 ((m:Nat):Int))),(3,.v (.int .i64 ((sz:Nat):Int)))] hW hE fun a1 hE2=>?_
 refine wp_seq ?_
 refine wp_block ?_
 refine qac [0,1,2,3,4] kz ?_
 refine qai [0,1] [2,3,4] [(0,.v (.bool flex)),(1,.v (.bool null)),(2,.v (.int .i64 ((m:Nat):Int))),(3,.v (.int .i64 ((sz:Nat):Int))),(11,.v (.bool flex))] hW hE2 fun a3 hE4=>?_
 refine (Bool.eq_false_or_eq_true (flex)).elim (fun hc5=>?_) (fun hc5=>?_)
 ·
  have hE7:=hE4.cast (env':=[(0,.v (.bool true)),(1,.v (.bool null)),(2,.v (.int .i64 ((m:Nat):Int))),(3,.v (.int .i64 ((sz:Nat):Int))),(11,.v (.bool true))]) (by rw [hc5])
  refine qai [2,3,4] [] [(0,.v (.bool true)),(1,.v (.bool null)),(2,.v (.int .i64 ((m:Nat):Int))),(3,.v (.int .i64 ((sz:Nat):Int))),(9,.v (.bool null))] hW hE7 fun a8 hE9=>?_
  refine qae (qab ?_)
  refine qax hE9 (b:=null) kz (fun aa=>?_) (fun aa=>?_)
  ·
   refine qac [0,1] kz ?_
   refine qaj (qdo hW hE9 (e:=5) (size:=1) (len:=1) (cs:=[.int .u8 0]) (d:=14) kz kz fun ab bf bg aV aW aX am ao=>?_)
   have ap:(⟨some ⟨ab,0,none⟩,1,5,1,1,[.int .u8 0]⟩:Rw) = brow (some ⟨ab,0,none⟩) 1 5 [by8 0]:=by first | rfl | (simp only [brow,bc,List.map,qdq]; try rfl)
   obtain ⟨ac,aY⟩:=am.rowEq 0 [brow (some ⟨ab,0,none⟩) 1 5 [by8 0]] ap
   have ar:=EnvOk.pick ao (ks:=[0,1,2,3,9,14]) (env':=[(0,.v (.bool true)),(1,.v (.bool null)),(2,.v (.int .i64 ((m:Nat):Int))),(3,.v (.int .i64 ((sz:Nat):Int))),(9,.v (.bool null)),(14,.v (.slice (some ⟨ab,0,none⟩) 1 1))]) kz
   have au:=ar.cast (env':=[(0,.v (.bool true)),(1,.v (.bool null)),(2,.v (.int .i64 ((m:Nat):Int))),(3,.v (.int .i64 ((sz:Nat):Int))),(9,.v (.bool null)),(14,.v (.slice (some ⟨ab,0,none⟩) ([by8 0].length) 1))]) rfl
   refine qai [1] [] [(8,.v (.slice (some ⟨ab,0,none⟩) ([by8 0].length) 1))] ac au fun bh av=>?_
   refine qae (qab ?_)
   refine wp_ret ?_
   refine qaE ?_
   refine qat ?_
   refine qaG av ac.cells (v:=.slice (some ⟨ab,0,none⟩) ([by8 0].length) 1) kz ?_
   exact qaU ac (k:=0) rfl (by simp [qak,hc5,aa]; try rfl)
  refine qao [(1,.v (.bool null)),(2,.v (.int .i64 ((m:Nat):Int))),(3,.v (.int .i64 ((sz:Nat):Int))),(15,.v (.bool true))] hW hE9 fun bi aj=>?_
  refine qbb aj (b:=true) kz rfl ?_
  refine qac [0,1,2,3,4] kz ?_
  refine qai [0,1,2] [3,4] [(19,.v (.int .u64 (IntKind.u64.wrap ((IntKind.u64.wrap ((m:Nat):Int)) + 1))))] hW aj fun bj aw=>?_
  have ax:IntKind.u64.wrap ((IntKind.u64.wrap ((m:Nat):Int)) + 1) = ((m + 1:Nat):Int):=by simp only [qbQ,qam,qba,IntKind.wrap_i64,IntKind.wrap_i32]; omega
  have ay:=EnvOk.pick aw (ks:=[19]) (env':=[(19,.v (.int .u64 (IntKind.u64.wrap ((IntKind.u64.wrap ((m:Nat):Int)) + 1))))]) kz
  have az:=ay.cast (env':=[(19,.v (.int .u64 ((m + 1:Nat):Int)))]) (by rw [ax])
  refine qaj (qal az (f:=32) (vs:=[.int .u64 ((m + 1:Nat):Int)]) (d:=20) kz Tryd.call32 (qcW (m + 1) (by omega) _) ?_)
  rintro e_ bk ⟨aA,aB,rfl,aC,aD⟩
  refine ⟨_,rfl,fun bn aE=>?_⟩
  obtain ⟨ae,aZ⟩:=hW.frFresh aD (brow aA aB 5 (uv (m + 1))) (Nat.le_refl _) aC
  refine qai [4] [] [(8,.v (.slice aA ((uv (m + 1)).length) aB))] ae aE fun bo aF=>?_
  refine qae (qab ?_)
  refine wp_ret ?_
  refine qaE ?_
  refine qat ?_
  refine qaG aF ae.cells (v:=.slice aA ((uv (m + 1)).length) aB) kz ?_
  exact qaU ae (k:=0) rfl (by simp [qak,hc5,aa]; try rfl)
 have aG:=hE4.cast (env':=[(0,.v (.bool false)),(1,.v (.bool null)),(2,.v (.int .i64 ((m:Nat):Int))),(3,.v (.int .i64 ((sz:Nat):Int))),(11,.v (.bool false))]) (by rw [hc5])
 refine qai [2,3,4] [] [(0,.v (.bool false)),(1,.v (.bool null)),(2,.v (.int .i64 ((m:Nat):Int))),(3,.v (.int .i64 ((sz:Nat):Int))),(9,.v (.bool false))] hW aG fun bp ak=>?_
 refine qae (qab ?_)
 refine qar ak (b:=false) kz rfl ?_
 refine qao [(1,.v (.bool null)),(2,.v (.int .i64 ((m:Nat):Int))),(3,.v (.int .i64 ((sz:Nat):Int))),(15,.v (.bool false))] hW ak fun bq al=>?_
 refine qar al (b:=false) kz rfl ?_
 refine qao [(2,.v (.int .i64 ((m:Nat):Int))),(3,.v (.int .i64 ((sz:Nat):Int))),(21,.v (.bool null))] hW al fun bt af=>?_
 refine qax af (b:=null) kz (fun ag=>?_) (fun ag=>?_)
 ·
  refine qac [0,1,2] kz ?_
  refine qai [0] [1,2] [(23,.v (.int .i64 ((sz:Nat):Int)))] hW af fun bu aH=>?_
  refine qaj (qal aH (f:=52) (vs:=[.int .i64 (-1),.int .i64 ((sz:Nat):Int)]) (d:=24) kz Tryd.call52 (qeg (-1) sz (by first | decide | exact qbq _ | omega) _) ?_)
  rintro e_ bw ⟨aI,aJ,rfl,aK,aL⟩
  refine ⟨_,rfl,fun bx aM=>?_⟩
  obtain ⟨ah,ba⟩:=hW.frFresh aL (brow aI aJ 5 (be sz (-1))) (Nat.le_refl _) aK
  refine qai [2] [] [(8,.v (.slice aI ((be sz (-1)).length) aJ))] ah aM fun bz aN=>?_
  refine qae (qab ?_)
  refine wp_ret ?_
  refine qaE ?_
  refine qat ?_
  refine qaG aN ah.cells (v:=.slice aI ((be sz (-1)).length) aJ) kz ?_
  exact qaU ah (k:=0) rfl (by simp [qak,hc5,ag]; try rfl)
 refine wp_skip ?_
 refine qav ?_
 refine qab ?_
 refine qac [0,1,2,3] kz ?_
 refine qai [0,1] [2,3] [(25,.v (.int .i64 ((m:Nat):Int))),(26,.v (.int .i64 ((sz:Nat):Int)))] hW af fun bA aO=>?_
 refine qaj (qal aO (f:=52) (vs:=[.int .i64 ((m:Nat):Int),.int .i64 ((sz:Nat):Int)]) (d:=27) kz Tryd.call52 (qeg ((m:Nat):Int) sz (by first | decide | exact qbq _ | omega) _) ?_)
 rintro e_ bB ⟨aP,aQ,rfl,aR,aS⟩
 refine ⟨_,rfl,fun bC aT=>?_⟩
 obtain ⟨ai,bd⟩:=hW.frFresh aS (brow aP aQ 5 (be sz ((m:Nat):Int))) (Nat.le_refl _) aR
 refine qai [3] [] [(8,.v (.slice aP ((be sz ((m:Nat):Int)).length) aQ))] ai aT fun bD aU=>?_
 refine qae (qab ?_)
 refine wp_ret ?_
 refine qaG aU ai.cells (v:=.slice aP ((be sz ((m:Nat):Int)).length) aQ) kz ?_
 exact qaU ai (k:=0) rfl (by simp [qak,hc5,ag]; try rfl)
theorem qiF (A:Option Addr) (c:Nat) (l:List Fld) (w:World) (F:Nat → Nat → Prop) (hl:FldsR w F A c l) :
  Calls Tryd.prog 30 #[.slice A l.length c] w (qbR w (.int .u32 (qan l))):=by
 obtain ⟨xfs,h1,h2⟩:=hl.ex
 have hsm:=h1.small
 refine enter (n:=23) Tryd.func30 rfl Tryd.ntmps30 kz fun a hE=>?_
 have hW:=WOk.start w Nil
 refine qao [(0,.v (.slice A l.length c))] hW hE fun a1 hE2=>?_
 refine qao [(0,.v (.slice A l.length c)),(3,.v (.int .u32 0))] hW hE2 fun a3 hE4=>?_
 refine wp_seq ?_
 refine qao [(3,.v (.int .u32 0)),(6,.v (.slice A l.length c)),(7,.v (.int .i64 ((l.length:Nat):Int))),(8,.v (.int .i64 0))] hW hE4 fun a5 hE6=>?_
 refine wp_block ?_
 refine wp_loop_ghost (fun n_ a_ w_=>∃ (k:Nat),n_ = l.length - k ∧ k ≤ l.length ∧ LInv hW 23 [] [] [(3,.v (.int .u32 (qan (l.take k)))),(6,.v (.slice A l.length c)),(7,.v (.int .i64 ((l.length:Nat):Int))),(8,.v (.int .i64 ((k:Nat):Int)))] a_ w_) (l.length) ⟨0,by omega,by omega,hE6.pk,hW,Fr.refl _ _ _⟩ ?_
 rintro n7 a8 w9 ⟨k,ba,bd,av,aa,ao⟩
 refine qao [(3,.v (.int .u32 (qan (l.take k)))),(6,.v (.slice A l.length c)),(7,.v (.int .i64 ((l.length:Nat):Int))),(8,.v (.int .i64 ((k:Nat):Int))),(9,.v (.bool (decide (((k:Nat):Int) < ((l.length:Nat):Int)))))] aa av fun bt ag=>?_
 refine wp_seq ?_
 refine qax ag (b:=decide (((k:Nat):Int) < ((l.length:Nat):Int))) kz (fun ah=>?_) (fun ah=>?_)
 ·
  have bf:=of_decide_eq_true ah
  refine wp_skip ?_
  refine qab ?_
  refine wp_seq ?_
  refine wp_block ?_
  refine qac [0,1,2,3] kz ?_
  obtain ⟨bg,bh,aw,bi,ae⟩:=Slots.get h1 (i:=k) (by omega)
  obtain ⟨bj,ai⟩:∃ x,l[k]? = some x:=⟨_,List.getElem?_eq_getElem (by omega)⟩
  have ap:=h2 k bj ai
  obtain ⟨ax,ay,az,aA,ab,aB,aC,aD,aE,aF,bk,rfl,af,bn,bu⟩:=ap.open_
  rw [af] at ap
  have aZ:=bn.small
  rw [af] at ae
  refine qaj (qas ag (t:=29) (A:=A) (m:=l.length) (q:=((k:Nat):Int)) (d:=10) kz (e:=50) (size:=8) (bytes:=80) kz aw rfl (by omega) fun bw aG=>?_)
  refine qaj (qaA aG (t:=50) (b:=bg) (o:=bh + k * 8) (d:=11) kz (cs:=[.int .i64 ax,.int .i64 ay,.int .i64 az,.int .i64 aA,.int .i64 ab,.int .i64 aB,.int .i64 aC,.slice aE aD.length aF]) (v:=.agg #[.int .i64 ax,.int .i64 ay,.int .i64 az,.int .i64 aA,.int .i64 ab,.int .i64 aB,.int .i64 aC,.slice aE aD.length aF]) kz (AtF.move ae aa.step nilM qaV).at_ fun bx aH=>?_)
  refine qaj (qaI aa aH (d:=5) (cs:=[.int .i64 0,.int .i64 0,.int .i64 0,.int .i64 0,.int .i64 0,.int .i64 0,.int .i64 0,.slice none 0 0]) kz fun bz bA bB bo bp ar aI aJ=>?_)
  refine qaj (qaw aI aJ (oi:=0) (cs:=[.int .i64 ax,.int .i64 ay,.int .i64 az,.int .i64 aA,.int .i64 ab,.int .i64 aB,.int .i64 aC,.slice aE aD.length aF]) kz fun bC au ac aK=>?_)
  refine qae (qab ?_)
  refine qao [(3,.v (.int .u32 (qan (l.take k)))),(5,.p 0 0),(6,.v (.slice A l.length c)),(7,.v (.int .i64 ((l.length:Nat):Int))),(8,.v (.int .i64 ((k:Nat):Int))),(14,.v (.bool (decide (ab ≥ 0))))] ac aK fun bD aj=>?_
  refine qax aj (b:=decide (ab ≥ 0)) kz (fun ak=>?_) (fun ak=>?_)
  ·
   have aL:=of_decide_eq_true ak
   refine qap [0,1,2,3,4,5,6] kz ?_
   refine qai [0,1,2,3,4,5,6] [] [(3,.v (.int .u32 (if IntKind.u32.wrap ((IntKind.u32.wrap ab) + 1) > qan (l.take k) then IntKind.u32.wrap ((IntKind.u32.wrap ab) + 1) else qan (l.take k)))),(6,.v (.slice A l.length c)),(7,.v (.int .i64 ((l.length:Nat):Int))),(8,.v (.int .i64 ((k:Nat):Int)))] ac aj fun bE aM=>?_
   refine qae ?_
   refine qav ?_
   refine qab ?_
   refine qap [0,1] kz ?_
   refine qai [0,1] [] [(3,.v (.int .u32 (if IntKind.u32.wrap ((IntKind.u32.wrap ab) + 1) > qan (l.take k) then IntKind.u32.wrap ((IntKind.u32.wrap ab) + 1) else qan (l.take k)))),(6,.v (.slice A l.length c)),(7,.v (.int .i64 ((l.length:Nat):Int))),(8,.v (.int .i64 (IntKind.i64.wrap (((k:Nat):Int) + 1))))] ac aM fun bF aN=>?_
   refine qae (qab ?_)
   obtain ⟨al,aO,aP⟩:=ac.cutB aN 0 [] [(3,.v (.int .u32 (if IntKind.u32.wrap ((IntKind.u32.wrap ab) + 1) > qan (l.take k) then IntKind.u32.wrap ((IntKind.u32.wrap ab) + 1) else qan (l.take k)))),(6,.v (.slice A l.length c)),(7,.v (.int .i64 ((l.length:Nat):Int))),(8,.v (.int .i64 (IntKind.i64.wrap (((k:Nat):Int) + 1))))]
   have aQ:IntKind.i64.wrap (((k:Nat):Int) + 1) = ((k + 1:Nat):Int):=qaO (by omega)
   rw [aQ] at al
   have aR:(if IntKind.u32.wrap ((IntKind.u32.wrap ab) + 1) > qan (l.take k) then IntKind.u32.wrap ((IntKind.u32.wrap ab) + 1) else qan (l.take k)) = qan (l.take (k + 1)):=qgX ai aL
   rw [aR] at al
   exact ⟨l.length - (k + 1),by omega,k + 1,rfl,by omega,al.pk,aO,(((ao.trans ar).trans au).trans aP)⟩
  have aS:=of_decide_eq_false ak
  refine wp_skip ?_
  refine qav ?_
  refine qab ?_
  refine qap [0,1] kz ?_
  refine qai [0,1] [] [(3,.v (.int .u32 (qan (l.take k)))),(6,.v (.slice A l.length c)),(7,.v (.int .i64 ((l.length:Nat):Int))),(8,.v (.int .i64 (IntKind.i64.wrap (((k:Nat):Int) + 1))))] ac aj fun bG aT=>?_
  refine qae (qab ?_)
  obtain ⟨am,aU,aV⟩:=ac.cutB aT 0 [] [(3,.v (.int .u32 (qan (l.take k)))),(6,.v (.slice A l.length c)),(7,.v (.int .i64 ((l.length:Nat):Int))),(8,.v (.int .i64 (IntKind.i64.wrap (((k:Nat):Int) + 1))))]
  have aW:IntKind.i64.wrap (((k:Nat):Int) + 1) = ((k + 1:Nat):Int):=qaO (by omega)
  rw [aW] at am
  have aX:qan (l.take k) = qan (l.take (k + 1)):=qgY ai aS
  rw [aX] at am
  exact ⟨l.length - (k + 1),by omega,k + 1,rfl,by omega,am.pk,aU,(((ao.trans ar).trans au).trans aV)⟩
 have bq:=of_decide_eq_false ah
 refine wp_exit ?_
 refine qau ?_
 refine qau ?_
 refine qaH ?_
 refine qab ?_
 refine qao [(2,.v (.int .u32 (qan (l.take k))))] aa ag fun bH aY=>?_
 refine wp_ret ?_
 refine qaG aY aa.cells (v:=.int .u32 (qan (l.take k))) kz ?_
 exact ⟨by rw [List.take_of_length_le (by omega)],aa.step⟩
def qhw (d:Nat):Prop:=∀ (A:Option Addr) (c:Nat) (l:List Fld) (v:Int) (flex:Bool) (ct:List Value) (t:Tree) (w:World) (F:Nat → Nat → Prop),FldsR w F A c l → depths l ≤ d → TreeR w F ct t → (qaL d l v flex t).length ≤ 1099511627776 →
  Calls Tryd.prog 19 #[.slice A l.length c,.int .i64 v,.bool flex,.agg ct.toArray] w (qc6 w 5 (qaL d l v flex t))
theorem qhx {d:Nat} (hp:qhw d) (kind:Int) (A:Option Addr) (c:Nat) (l:List Fld) (null:Bool) (v:Int) (flex:Bool) (ct:List Value) (t:Tree) (w:World) (F:Nat → Nat → Prop) (hl:FldsR w F A c l) (hd:depths l ≤ d) (ht:TreeR w F ct t) (hroom:(qaD (qaL d l v flex) kind null flex t).length ≤ 1099511627776) :
  Calls Tryd.prog 51 #[.int .i64 kind,.slice A l.length c,.bool null,.int .i64 v,.bool flex,.agg ct.toArray] w (qc6 w 5 (qaD (qaL d l v flex) kind null flex t)):=by
 obtain ⟨n1,s2,b3,l4,u5,A6,c7,A8,c9,dh,di,d9,rfl,rfl,aX,ea,fz,fA⟩:=ht.open_
 have dM:=aX.small
 have dN:=ea.small
 have hl0:=hl
 obtain ⟨xfs,h1,h2⟩:=hl.ex
 have hsm:=h1.small
 refine enter (n:=70) Tryd.func51 rfl Tryd.ntmps51 kz fun a hE=>?_
 have hW:=WOk.start w Nil
 refine qac [0,1] kz ?_
 refine qaj (qa9 hW hE (d:=11) (cs:=[.int .i64 n1,.slice A6 s2.length c7,.bool b3,.slice A8 l4.length c9,.slice dh u5.length di]) kz fun fB fC fD eb ec ee aa dj=>?_)
 refine qai [1] [] [(0,.v (.int .i64 kind)),(1,.v (.slice A l.length c)),(2,.v (.bool null)),(3,.v (.int .i64 v)),(4,.v (.bool flex)),(11,.p 0 0)] aa dj fun fE dl=>?_
 refine qae (qab ?_)
 refine wp_seq ?_
 refine qao [(0,.v (.int .i64 kind)),(1,.v (.slice A l.length c)),(2,.v (.bool null)),(3,.v (.int .i64 v)),(4,.v (.bool flex)),(11,.p 0 0),(16,.v (.int .i64 kind))] aa dl fun fF dp=>?_
 refine wp_block ?_
 refine qao [(0,.v (.int .i64 kind)),(1,.v (.slice A l.length c)),(2,.v (.bool null)),(3,.v (.int .i64 v)),(4,.v (.bool flex)),(11,.p 0 0),(16,.v (.int .i64 kind)),(17,.v (.bool (kind == 0)))] aa dp fun fG bk=>?_
 refine qax bk (b:=kind == 0) kz (fun ac=>?_) (fun ac=>?_)
 ·
  have dq:kind = 0:=by simpa using ac
  refine qac [0,1,2,3,4,5] kz ?_
  refine qai [0,1,2,3] [4,5] [(22,.v (.int .u8 (IntKind.u8.wrap (IntKind.i64.wrap (BitVec.ofInt 64 n1 &&& BitVec.ofInt 64 1).toNat))))] aa bk fun fH dr=>?_
  refine qaj (qdo aa dr (e:=5) (size:=1) (len:=1) (cs:=[.int .u8 (IntKind.u8.wrap (IntKind.i64.wrap (BitVec.ofInt 64 n1 &&& BitVec.ofInt 64 1).toNat))]) (d:=23) kz kz fun bn fI fJ ef eg eh dt du=>?_)
  have dv:(⟨some ⟨bn,0,none⟩,1,5,1,1,[.int .u8 (IntKind.u8.wrap (IntKind.i64.wrap (BitVec.ofInt 64 n1 &&& BitVec.ofInt 64 1).toNat))]⟩:Rw) = brow (some ⟨bn,0,none⟩) 1 5 [by8 (IntKind.i64.wrap (BitVec.ofInt 64 n1 &&& BitVec.ofInt 64 1).toNat)]:=by first | rfl | (simp only [brow,bc,List.map,qdq]; try rfl)
  obtain ⟨bo,ei⟩:=dt.rowEq 0 [brow (some ⟨bn,0,none⟩) 1 5 [by8 (IntKind.i64.wrap (BitVec.ofInt 64 n1 &&& BitVec.ofInt 64 1).toNat)]] dv
  have dw:=EnvOk.pick du (ks:=[22,23]) (env':=[(22,.v (.int .u8 (IntKind.u8.wrap (IntKind.i64.wrap (BitVec.ofInt 64 n1 &&& BitVec.ofInt 64 1).toNat)))),(23,.v (.slice (some ⟨bn,0,none⟩) 1 1))]) kz
  have dx:=dw.cast (env':=[(22,.v (.int .u8 (IntKind.u8.wrap (IntKind.i64.wrap (BitVec.ofInt 64 n1 &&& BitVec.ofInt 64 1).toNat)))),(23,.v (.slice (some ⟨bn,0,none⟩) ([by8 (IntKind.i64.wrap (BitVec.ofInt 64 n1 &&& BitVec.ofInt 64 1).toNat)].length) 1))]) rfl
  refine qai [5] [] [(12,.v (.slice (some ⟨bn,0,none⟩) ([by8 (IntKind.i64.wrap (BitVec.ofInt 64 n1 &&& BitVec.ofInt 64 1).toNat)].length) 1))] bo dx fun fK dy=>?_
  refine qae (qab ?_)
  refine wp_ret ?_
  refine qaE ?_
  refine qat ?_
  refine qaG dy bo.cells (v:=.slice (some ⟨bn,0,none⟩) ([by8 (IntKind.i64.wrap (BitVec.ofInt 64 n1 &&& BitVec.ofInt 64 1).toNat)].length) 1) kz ?_
  exact qaU bo (k:=0) rfl (by (try simp only [and1]); simp [qaD,Tree.S,Tree.N,dq,ac])
 have ak:kind ≠ 0:=by simpa using ac
 refine qao [(0,.v (.int .i64 kind)),(1,.v (.slice A l.length c)),(2,.v (.bool null)),(3,.v (.int .i64 v)),(4,.v (.bool flex)),(11,.p 0 0),(16,.v (.int .i64 kind)),(24,.v (.bool (kind == 7)))] aa bk fun fL bp=>?_
 refine qax bp (b:=kind == 7) kz (fun ae=>?_) (fun ae=>?_)
 ·
  have dz:kind = 7:=by simpa using ae
  refine qac [0,1] kz ?_
  refine qaj (qgh aa bp (d:=26) (j:=16) (t:=22) (e:=5) (bytes:=1) (z:=.int .u8 0) kz kz kz kz (rfl) (rfl) (by omega) fun aB fM fN ej ek em aC dA=>?_)
  refine qai [1] [] [(11,.p 0 0),(13,.v (.slice (some ⟨aB,0,none⟩) 16 16))] aC dA fun fO dB=>?_
  refine qae (qab ?_)
  refine qac [0,1,2,3] kz ?_
  refine qai [0,1,2] [3] [(13,.v (.slice (some ⟨aB,0,none⟩) 16 16)),(27,.v (.slice (some ⟨aB,0,none⟩) 16 16)),(29,.v (.slice A6 s2.length c7))] aC dB fun fP dC=>?_
  refine qaj (qgg aC dC (k:=0) (d:=30) (t:=22) (u:=22) (e:=5) (bytes:=1) (A:=(some ⟨aB,0,none⟩)) (As:=A6) (m:=s2.length) (cs:=c7) (m0:=16) (c:=16) (xs:=(List.replicate 16 (.int .u8 0))) (news:=bc s2) kz kz rfl (aX.move aC.step nilM aC.imm).src fun fQ fR eo dD dE=>?_)
  have dF:(⟨(some ⟨aB,0,none⟩),16,5,1,16,qa6 (List.replicate 16 (.int .u8 0)) 0 ((bc s2).take (min s2.length 16))⟩:Rw) = brow (some ⟨aB,0,none⟩) 16 5 (qdt s2):=qh2 _ _ _
  obtain ⟨bq,ep⟩:=dD.rowEq 0 [brow (some ⟨aB,0,none⟩) 16 5 (qdt s2)] dF
  have dG:=EnvOk.pick dE (ks:=[13,27,29,30]) (env':=[(13,.v (.slice (some ⟨aB,0,none⟩) 16 16)),(27,.v (.slice (some ⟨aB,0,none⟩) 16 16)),(29,.v (.slice A6 s2.length c7)),(30,.v (.int .i64 ((min s2.length 16:Nat):Int)))]) kz
  have dH:=dG.cast (env':=[(13,.v (.slice (some ⟨aB,0,none⟩) ((qdt s2).length) 16)),(27,.v (.slice (some ⟨aB,0,none⟩) ((qdt s2).length) 16)),(29,.v (.slice A6 s2.length c7)),(30,.v (.int .i64 ((min s2.length 16:Nat):Int)))]) (by rw [qby _])
  refine qae (qab ?_)
  refine qao [(12,.v (.slice (some ⟨aB,0,none⟩) ((qdt s2).length) 16))] bq dH fun fS dI=>?_
  refine wp_ret ?_
  refine qaE ?_
  refine qat ?_
  refine qaG dI bq.cells (v:=.slice (some ⟨aB,0,none⟩) ((qdt s2).length) 16) kz ?_
  exact qaU bq (k:=0) rfl (by (try simp only [and1]); simp [qaD,Tree.S,Tree.N,ak,dz,ac,ae])
 have am:kind ≠ 7:=by simpa using ae
 refine qao [(0,.v (.int .i64 kind)),(1,.v (.slice A l.length c)),(2,.v (.bool null)),(3,.v (.int .i64 v)),(4,.v (.bool flex)),(11,.p 0 0),(16,.v (.int .i64 kind)),(32,.v (.bool (kind == 8)))] aa bp fun fT bt=>?_
 refine qax bt (b:=kind == 8) kz (fun ag=>?_) (fun ag=>?_)
 ·
  have bA:kind = 8:=by simpa using ag
  refine qac [0,1,2,3] kz ?_
  refine qai [0,1] [2,3] [(2,.v (.bool null)),(4,.v (.bool flex)),(35,.v (.slice A6 s2.length c7))] aa bt fun fU dJ=>?_
  have dO:=qa1 s2
  refine qaj (qal dJ (f:=34) (vs:=[.slice A6 s2.length c7]) (d:=36) kz Tryd.call34 (qhv _ _ s2 (aX.move aa.step nilM aa.imm).le _) ?_)
  rintro e_ fV ⟨rfl,bB⟩
  refine ⟨_,rfl,fun fW dK=>?_⟩
  have ao:=aa.next_nil bB
  have eu:=aa.frN bB
  refine qai [3] [] [(2,.v (.bool null)),(4,.v (.bool flex)),(14,.v (.slice A6 ((qaz s2).length) c7))] ao dK fun fX bC=>?_
  refine qae (qab ?_)
  refine wp_seq ?_
  refine qao [(2,.v (.bool null)),(4,.v (.bool flex)),(14,.v (.slice A6 ((qaz s2).length) c7)),(37,.v (.bool null))] ao bC fun ev aD=>?_
  refine qax aD (b:=null) kz (fun aE=>?_) (fun aE=>?_)
  ·
   refine qap [0] kz ?_
   refine qai [0] [] [(2,.v (.bool null)),(4,.v (.bool flex)),(14,.v (.slice none 0 0))] ao aD fun ew bD=>?_
   refine qae (qab ?_)
   refine qac [0,1,2,3,4,5,6,7] kz ?_
   refine qai [0,1,2,3] [4,5,6,7] [(14,.v (.slice none 0 0)),(38,.v (.bool flex)),(39,.v (.bool null)),(41,.v (.int .i64 0))] ao bD fun ey bE=>?_
   refine qaj (qal bE (f:=50) (vs:=[.bool flex,.bool null,.int .i64 0,.int .i64 2]) (d:=42) kz Tryd.call50 (qcX flex null 0 2 (by first | omega | exact Nat.le_trans (qa1 _) (by decide) | exact Nat.le_trans (qbY _) (by decide) | (simp; done) | (have:=hroom; omega)) (by first | decide | omega) _) ?_)
   rintro e_ ez ⟨aF,aG,rfl,bF,bG⟩
   refine ⟨_,rfl,fun eB bH=>?_⟩
   obtain ⟨aY,dP⟩:=ao.frFresh bG (brow aF aG 5 (qak flex null 0 2)) (Nat.le_refl _) bF
   refine qai [5] [6,7] [(42,.v (.slice aF ((qak flex null 0 2).length) aG)),(43,.v (.slice none 0 0))] aY bH fun eC bI=>?_
   refine qaj (qaS aY bI (k:=0) (d:=44) (t:=22) (e:=5) (size:=1) (bytes:=1) (A:=aF) (As:=none) (m0:=((qak flex null 0 2).length)) (c:=aG) (m:=0) (cs:=0) (xs:=(bc (qak flex null 0 2))) (news:=bc ([]:Bs)) kz kz rfl (Octs.nil _ (fun _ _=>True)).src (fun _=>rfl) (by first | exact qcy (by omega) (by decide) (by omega) | exact qcy (Nat.le_trans (qa1 _) (by decide)) (by decide) (Nat.le_trans (qa1 _) (by decide)) | (simp; done)) fun ap ar eD eE dQ bJ bK=>?_)
   have bL:(⟨ap,ar,5,1,(qak flex null 0 2).length + 0,bc (qak flex null 0 2) ++ bc ([]:Bs)⟩:Rw) = brow ap ar 5 (qak flex null 0 2 ++ ([]:Bs)):=qbm (rfl) rfl
   obtain ⟨aH,dR⟩:=bJ.rowEq 0 [brow ap ar 5 (qak flex null 0 2 ++ ([]:Bs))] bL
   have bM:=EnvOk.pick bK (ks:=[42,43,44]) (env':=[(42,.v (.slice aF ((qak flex null 0 2).length) aG)),(43,.v (.slice none 0 0)),(44,.v (.slice ap ((qak flex null 0 2).length + 0) ar))]) kz
   have bN:=bM.cast (env':=[(42,.v (.slice aF ((qak flex null 0 2).length) aG)),(43,.v (.slice none 0 0)),(44,.v (.slice ap ((qak flex null 0 2 ++ ([]:Bs)).length) ar))]) (by simp only [List.length_append,List.length_cons,List.length_nil,Nat.zero_add])
   refine qai [7] [] [(12,.v (.slice ap ((qak flex null 0 2 ++ ([]:Bs)).length) ar))] aH bN fun eF bO=>?_
   refine qae (qab ?_)
   refine wp_ret ?_
   refine qaE ?_
   refine qat ?_
   refine qaG bO aH.cells (v:=.slice ap ((qak flex null 0 2 ++ ([]:Bs)).length) ar) kz ?_
   exact qaU aH (k:=0) rfl (by (try simp only [and1]); simp [qaD,Tree.S,Tree.N,ak,am,bA,ac,ae,ag,aE])
  refine wp_skip ?_
  refine qab ?_
  refine qac [0,1,2,3,4,5,6,7] kz ?_
  refine qai [0,1,2,3] [4,5,6,7] [(14,.v (.slice A6 ((qaz s2).length) c7)),(38,.v (.bool flex)),(39,.v (.bool null)),(41,.v (.int .i64 (((qaz s2).length:Nat):Int)))] ao aD fun eG bP=>?_
  refine qaj (qal bP (f:=50) (vs:=[.bool flex,.bool null,.int .i64 (((qaz s2).length:Nat):Int),.int .i64 2]) (d:=42) kz Tryd.call50 (qcX flex null ((qaz s2).length) 2 (by first | omega | exact Nat.le_trans (qa1 _) (by decide) | exact Nat.le_trans (qbY _) (by decide) | (simp; done) | (have:=hroom; omega)) (by first | decide | omega) _) ?_)
  rintro e_ eH ⟨aI,aJ,rfl,bQ,bR⟩
  refine ⟨_,rfl,fun eI bS=>?_⟩
  obtain ⟨ah,dS⟩:=ao.frFresh bR (brow aI aJ 5 (qak flex null ((qaz s2).length) 2)) (Nat.le_refl _) bQ
  refine qai [5] [6,7] [(42,.v (.slice aI ((qak flex null ((qaz s2).length) 2).length) aJ)),(43,.v (.slice A6 ((qaz s2).length) c7))] ah bS fun eJ bT=>?_
  refine qaj (qaS ah bT (k:=0) (d:=44) (t:=22) (e:=5) (size:=1) (bytes:=1) (A:=aI) (As:=A6) (m0:=((qak flex null ((qaz s2).length) 2).length)) (c:=aJ) (m:=((qaz s2).length)) (cs:=c7) (xs:=(bc (qak flex null ((qaz s2).length) 2))) (news:=bc (qaz s2)) kz kz rfl ((aX.take 32767).move ah.step nilM ah.imm).src ((aX.take 32767).move ah.step nilM ah.imm).cap (by first | exact qcy (by omega) (by decide) (by omega) | exact qcy (Nat.le_trans (qa1 _) (by decide)) (by decide) (Nat.le_trans (qa1 _) (by decide)) | (simp; done)) fun au av eK eL dT bU bV=>?_)
  have bW:(⟨au,av,5,1,(qak flex null ((qaz s2).length) 2).length + (qaz s2).length,bc (qak flex null ((qaz s2).length) 2) ++ bc (qaz s2)⟩:Rw) = brow au av 5 (qak flex null ((qaz s2).length) 2 ++ (qaz s2)):=qbm (rfl) rfl
  obtain ⟨aK,dU⟩:=bU.rowEq 0 [brow au av 5 (qak flex null ((qaz s2).length) 2 ++ (qaz s2))] bW
  have bX:=EnvOk.pick bV (ks:=[42,43,44]) (env':=[(42,.v (.slice aI ((qak flex null ((qaz s2).length) 2).length) aJ)),(43,.v (.slice A6 ((qaz s2).length) c7)),(44,.v (.slice au ((qak flex null ((qaz s2).length) 2).length + (qaz s2).length) av))]) kz
  have bY:=bX.cast (env':=[(42,.v (.slice aI ((qak flex null ((qaz s2).length) 2).length) aJ)),(43,.v (.slice A6 ((qaz s2).length) c7)),(44,.v (.slice au ((qak flex null ((qaz s2).length) 2 ++ (qaz s2)).length) av))]) (by simp only [List.length_append,List.length_cons,List.length_nil,Nat.zero_add])
  refine qai [7] [] [(12,.v (.slice au ((qak flex null ((qaz s2).length) 2 ++ (qaz s2)).length) av))] aK bY fun eM bZ=>?_
  refine qae (qab ?_)
  refine wp_ret ?_
  refine qaE ?_
  refine qat ?_
  refine qaG bZ aK.cells (v:=.slice au ((qak flex null ((qaz s2).length) 2 ++ (qaz s2)).length) av) kz ?_
  exact qaU aK (k:=0) rfl (by (try simp only [and1]); simp [qaD,Tree.S,Tree.N,ak,am,bA,ac,ae,ag,aE])
 have al:kind ≠ 8:=by simpa using ag
 refine qao [(0,.v (.int .i64 kind)),(1,.v (.slice A l.length c)),(2,.v (.bool null)),(3,.v (.int .i64 v)),(4,.v (.bool flex)),(11,.p 0 0),(16,.v (.int .i64 kind)),(45,.v (.bool (kind == 9)))] aa bt fun eN aL=>?_
 refine qax aL (b:=kind == 9) kz (fun ab=>?_) (fun ab=>?_)
 ·
  have aZ:kind = 9:=by simpa using ab
  refine qac [0,1,2,3] kz ?_
  refine qai [0,1] [2,3] [(2,.v (.bool null)),(4,.v (.bool flex)),(48,.v (.slice A6 s2.length c7))] aa aL fun eO b8=>?_
  have dL:=qa1 s2
  refine qaj (qal b8 (f:=34) (vs:=[.slice A6 s2.length c7]) (d:=49) kz Tryd.call34 (qhv _ _ s2 (aX.move aa.step nilM aa.imm).le _) ?_)
  rintro e_ eP ⟨rfl,ba⟩
  refine ⟨_,rfl,fun eQ cd=>?_⟩
  have af:=aa.next_nil ba
  have dV:=aa.frN ba
  refine qai [3] [] [(2,.v (.bool null)),(4,.v (.bool flex)),(15,.v (.slice A6 ((qaz s2).length) c7))] af cd fun eR ce=>?_
  refine qae (qab ?_)
  refine wp_seq ?_
  refine qao [(2,.v (.bool null)),(4,.v (.bool flex)),(15,.v (.slice A6 ((qaz s2).length) c7)),(50,.v (.bool null))] af ce fun eS aM=>?_
  refine qax aM (b:=null) kz (fun aN=>?_) (fun aN=>?_)
  ·
   refine qap [0] kz ?_
   refine qai [0] [] [(2,.v (.bool null)),(4,.v (.bool flex)),(15,.v (.slice none 0 0))] af aM fun eU cg=>?_
   refine qae (qab ?_)
   refine qac [0,1,2,3,4,5,6,7] kz ?_
   refine qai [0,1,2,3] [4,5,6,7] [(15,.v (.slice none 0 0)),(51,.v (.bool flex)),(52,.v (.bool null)),(54,.v (.int .i64 0))] af cg fun eV cm=>?_
   refine qaj (qal cm (f:=50) (vs:=[.bool flex,.bool null,.int .i64 0,.int .i64 4]) (d:=55) kz Tryd.call50 (qcX flex null 0 4 (by first | omega | exact Nat.le_trans (qa1 _) (by decide) | exact Nat.le_trans (qbY _) (by decide) | (simp; done) | (have:=hroom; omega)) (by first | decide | omega) _) ?_)
   rintro e_ eW ⟨aO,aP,rfl,cq,cr⟩
   refine ⟨_,rfl,fun eX cu=>?_⟩
   obtain ⟨bd,dW⟩:=af.frFresh cr (brow aO aP 5 (qak flex null 0 4)) (Nat.le_refl _) cq
   refine qai [5] [6,7] [(55,.v (.slice aO ((qak flex null 0 4).length) aP)),(56,.v (.slice none 0 0))] bd cu fun eY cw=>?_
   refine qaj (qaS bd cw (k:=0) (d:=57) (t:=22) (e:=5) (size:=1) (bytes:=1) (A:=aO) (As:=none) (m0:=((qak flex null 0 4).length)) (c:=aP) (m:=0) (cs:=0) (xs:=(bc (qak flex null 0 4))) (news:=bc ([]:Bs)) kz kz rfl (Octs.nil _ (fun _ _=>True)).src (fun _=>rfl) (by first | exact qcy (by omega) (by decide) (by omega) | exact qcy (Nat.le_trans (qa1 _) (by decide)) (by decide) (Nat.le_trans (qa1 _) (by decide)) | (simp; done)) fun aw ax eZ e9 dX cz cA=>?_)
   have cB:(⟨aw,ax,5,1,(qak flex null 0 4).length + 0,bc (qak flex null 0 4) ++ bc ([]:Bs)⟩:Rw) = brow aw ax 5 (qak flex null 0 4 ++ ([]:Bs)):=qbm (rfl) rfl
   obtain ⟨aQ,dY⟩:=cz.rowEq 0 [brow aw ax 5 (qak flex null 0 4 ++ ([]:Bs))] cB
   have cC:=EnvOk.pick cA (ks:=[55,56,57]) (env':=[(55,.v (.slice aO ((qak flex null 0 4).length) aP)),(56,.v (.slice none 0 0)),(57,.v (.slice aw ((qak flex null 0 4).length + 0) ax))]) kz
   have cD:=cC.cast (env':=[(55,.v (.slice aO ((qak flex null 0 4).length) aP)),(56,.v (.slice none 0 0)),(57,.v (.slice aw ((qak flex null 0 4 ++ ([]:Bs)).length) ax))]) (by simp only [List.length_append,List.length_cons,List.length_nil,Nat.zero_add])
   refine qai [7] [] [(12,.v (.slice aw ((qak flex null 0 4 ++ ([]:Bs)).length) ax))] aQ cD fun fa cE=>?_
   refine qae (qab ?_)
   refine wp_ret ?_
   refine qaE ?_
   refine qat ?_
   refine qaG cE aQ.cells (v:=.slice aw ((qak flex null 0 4 ++ ([]:Bs)).length) ax) kz ?_
   exact qaU aQ (k:=0) rfl (by (try simp only [and1]); simp [qaD,Tree.S,Tree.N,ak,am,al,aZ,ac,ae,ag,ab,aN])
  refine wp_skip ?_
  refine qab ?_
  refine qac [0,1,2,3,4,5,6,7] kz ?_
  refine qai [0,1,2,3] [4,5,6,7] [(15,.v (.slice A6 ((qaz s2).length) c7)),(51,.v (.bool flex)),(52,.v (.bool null)),(54,.v (.int .i64 (((qaz s2).length:Nat):Int)))] af aM fun fb cG=>?_
  refine qaj (qal cG (f:=50) (vs:=[.bool flex,.bool null,.int .i64 (((qaz s2).length:Nat):Int),.int .i64 4]) (d:=55) kz Tryd.call50 (qcX flex null ((qaz s2).length) 4 (by first | omega | exact Nat.le_trans (qa1 _) (by decide) | exact Nat.le_trans (qbY _) (by decide) | (simp; done) | (have:=hroom; omega)) (by first | decide | omega) _) ?_)
  rintro e_ fe ⟨aR,aS,rfl,cH,cI⟩
  refine ⟨_,rfl,fun ff cJ=>?_⟩
  obtain ⟨ai,dZ⟩:=af.frFresh cI (brow aR aS 5 (qak flex null ((qaz s2).length) 4)) (Nat.le_refl _) cH
  refine qai [5] [6,7] [(55,.v (.slice aR ((qak flex null ((qaz s2).length) 4).length) aS)),(56,.v (.slice A6 ((qaz s2).length) c7))] ai cJ fun fg cK=>?_
  refine qaj (qaS ai cK (k:=0) (d:=57) (t:=22) (e:=5) (size:=1) (bytes:=1) (A:=aR) (As:=A6) (m0:=((qak flex null ((qaz s2).length) 4).length)) (c:=aS) (m:=((qaz s2).length)) (cs:=c7) (xs:=(bc (qak flex null ((qaz s2).length) 4))) (news:=bc (qaz s2)) kz kz rfl ((aX.take 32767).move ai.step nilM ai.imm).src ((aX.take 32767).move ai.step nilM ai.imm).cap (by first | exact qcy (by omega) (by decide) (by omega) | exact qcy (Nat.le_trans (qa1 _) (by decide)) (by decide) (Nat.le_trans (qa1 _) (by decide)) | (simp; done)) fun ay az fh fi d5 cL cM=>?_)
  have cN:(⟨ay,az,5,1,(qak flex null ((qaz s2).length) 4).length + (qaz s2).length,bc (qak flex null ((qaz s2).length) 4) ++ bc (qaz s2)⟩:Rw) = brow ay az 5 (qak flex null ((qaz s2).length) 4 ++ (qaz s2)):=qbm (rfl) rfl
  obtain ⟨aT,d6⟩:=cL.rowEq 0 [brow ay az 5 (qak flex null ((qaz s2).length) 4 ++ (qaz s2))] cN
  have cO:=EnvOk.pick cM (ks:=[55,56,57]) (env':=[(55,.v (.slice aR ((qak flex null ((qaz s2).length) 4).length) aS)),(56,.v (.slice A6 ((qaz s2).length) c7)),(57,.v (.slice ay ((qak flex null ((qaz s2).length) 4).length + (qaz s2).length) az))]) kz
  have cP:=cO.cast (env':=[(55,.v (.slice aR ((qak flex null ((qaz s2).length) 4).length) aS)),(56,.v (.slice A6 ((qaz s2).length) c7)),(57,.v (.slice ay ((qak flex null ((qaz s2).length) 4 ++ (qaz s2)).length) az))]) (by simp only [List.length_append,List.length_cons,List.length_nil,Nat.zero_add])
  refine qai [7] [] [(12,.v (.slice ay ((qak flex null ((qaz s2).length) 4 ++ (qaz s2)).length) az))] aT cP fun fj cQ=>?_
  refine qae (qab ?_)
  refine wp_ret ?_
  refine qaE ?_
  refine qat ?_
  refine qaG cQ aT.cells (v:=.slice ay ((qak flex null ((qaz s2).length) 4 ++ (qaz s2)).length) az) kz ?_
  exact qaU aT (k:=0) rfl (by (try simp only [and1]); simp [qaD,Tree.S,Tree.N,ak,am,al,aZ,ac,ae,ag,ab,aN])
 have aU:kind ≠ 9:=by simpa using ab
 refine qao [(0,.v (.int .i64 kind)),(1,.v (.slice A l.length c)),(3,.v (.int .i64 v)),(4,.v (.bool flex)),(11,.p 0 0),(58,.v (.bool (kind == 10)))] aa aL fun fk aV=>?_
 refine qax aV (b:=kind == 10) kz (fun aj=>?_) (fun aj=>?_)
 ·
  have bf:kind = 10:=by simpa using aj
  refine qac [0,1,2,3,4,5] kz ?_
  refine qai [0,1,2,3] [4,5] [(60,.v (.slice A l.length c)),(61,.v (.int .i64 v)),(62,.v (.bool flex)),(63,.v (.agg #[.int .i64 n1,.slice A6 s2.length c7,.bool b3,.slice A8 l4.length c9,.slice dh u5.length di]))] aa aV fun fl cR=>?_
  refine qaj (qal cR (f:=19) (vs:=[.slice A l.length c,.int .i64 v,.bool flex,.agg #[.int .i64 n1,.slice A6 s2.length c7,.bool b3,.slice A8 l4.length c9,.slice dh u5.length di]]) (d:=64) kz Tryd.call19 (hp _ _ l v flex _ (Tree.mk n1 s2 b3 l4 u5) _ _ ⟨xfs,(h1.move aa.step nilM aa.imm),(fun i_ x_ h_=>((h2 i_ x_ h_).move aa.step nilM aa.imm))⟩ hd (ht.move aa.step nilM aa.imm) (by simpa [qaD,ak,am,al,aU,bf,ac,ae,ag,ab,aj] using hroom)) ?_)
  rintro e_ fm ⟨bu,bw,rfl,cS,cT⟩
  refine ⟨_,rfl,fun fo cU=>?_⟩
  obtain ⟨aW,d7⟩:=aa.frFresh cT (brow bu bw 5 (qaL d l v flex (Tree.mk n1 s2 b3 l4 u5))) (Nat.le_refl _) cS
  refine qai [5] [] [(12,.v (.slice bu ((qaL d l v flex (Tree.mk n1 s2 b3 l4 u5)).length) bw))] aW cU fun fq cV=>?_
  refine qae (qab ?_)
  refine wp_ret ?_
  refine qaE ?_
  refine qat ?_
  refine qaG cV aW.cells (v:=.slice bu ((qaL d l v flex (Tree.mk n1 s2 b3 l4 u5)).length) bw) kz ?_
  exact qaU aW (k:=0) rfl (by (try simp only [and1]); simp [qaD,Tree.S,Tree.N,ak,am,al,aU,bf,ac,ae,ag,ab,aj])
 have cW:kind ≠ 10:=by simpa using aj
 refine wp_skip ?_
 refine qav ?_
 refine qab ?_
 refine qaZ 5 kz aa fun fr d8 bg cX=>?_
 refine qaM [0,1,2] [(66,.v (.int .i64 n1)),(67,.v (.int .i64 kind))] 3 (qaa qaf) (fun _ h=>h.cells) cX aV fun ft cY=>?_
 refine qaJ (i:=3) kz (qal cY (f:=54) (vs:=[.int .i64 kind]) (d:=68) kz Tryd.call54 (qhu kind _) ?_)
 rintro e_ fu ⟨rfl,bh⟩
 refine ⟨_,rfl,fun fv cZ=>?_⟩
 have bi:=bg.next_nil bh
 have bj:=bg.frN bh
 have c5:=TT.ofW bj bi
 refine ⟨fun _=>c5,?_⟩
 refine qaJ (i:=4) kz (qal cZ (f:=52) (vs:=[.int .i64 n1,.int .i64 ((qa7 kind:Nat):Int)]) (d:=69) kz Tryd.call52 (qeg n1 (qa7 kind) (by first | decide | exact qbq _ | omega) _) ?_)
 rintro e_ fw ⟨bx,bz,rfl,c6,da⟩
 refine ⟨_,rfl,fun fx db=>?_⟩
 obtain ⟨aA,dc⟩:=bi.frFresh da (brow bx bz 5 (be (qa7 kind) n1)) (Nat.le_refl _) c6
 have de:=TT.ofW (bj.trans dc) aA
 refine ⟨fun _=>de,?_⟩
 refine qaJ (i:=5) kz (qbB [12] aA.cells db (env':=[(12,.v (.slice bx ((be (qa7 kind) n1).length) bz))]) kz fun fy dg=>?_)
 refine ⟨fun h=>absurd rfl h,?_⟩
 refine qaN kz ?_ _
 refine qab ?_
 refine wp_ret ?_
 refine qaG dg aA.cells (v:=.slice bx ((be (qa7 kind) n1).length) bz) kz ?_
 exact qaU aA (k:=0) rfl (by (try simp only [and1]); simp [qaD,Tree.S,Tree.N,ak,am,al,aU,cW,ac,ae,ag,ab,aj])
theorem qjv {d:Nat} (hp:qhw d) (cf:List Value) (f:Fld) (v:Int) (flex:Bool) (ct:List Value) (t:Tree) (w:World) (F:Nat → Nat → Prop) (hf:FldR w F cf f) (hd:depths f.sub ≤ d) (ht:TreeR w F ct t) (hroom:(qbW d f v flex t).length ≤ 1099511627776) :
  Calls Tryd.prog 29 #[.agg cf.toArray,.int .i64 v,.bool flex,.agg ct.toArray] w (qc6 w 5 (qbW d f v flex t)):=by
 obtain ⟨n1,s2,b3,l4,u5,A6,c7,A8,c9,aK,aL,eY,rfl,rfl,eZ,dW,e9,gm⟩:=ht.open_
 have ev:=eZ.small
 have ew:=dW.small
 obtain ⟨ac,af,ag,ae,ah,ai,ab,aa,ay,az,bw,rfl,rfl,b8,dV⟩:=hf.open_
 have ey:=b8.small
 refine enter (n:=76) Tryd.func29 rfl Tryd.ntmps29 kz fun a hE=>?_
 have hW:=WOk.start w Nil
 refine qac [0,1,2] kz ?_
 refine qaj (qa9 hW hE (d:=4) (cs:=[.int .i64 ac,.int .i64 af,.int .i64 ag,.int .i64 ae,.int .i64 ah,.int .i64 ai,.int .i64 ab,.slice ay aa.length az]) kz fun ez gn gp fa fb fe dX dY=>?_)
 refine qaj (qa9 dX dY (d:=7) (cs:=[.int .i64 n1,.slice A6 s2.length c7,.bool b3,.slice A8 l4.length c9,.slice aK u5.length aL]) kz fun eB gq gt ff fg fh bx dZ=>?_)
 refine qai [2] [] [(1,.v (.int .i64 v)),(2,.v (.bool flex)),(4,.p 0 0),(7,.p 1 0)] bx dZ fun gv d5=>?_
 refine qae (qab ?_)
 refine qac [0,1,2,3,4] kz ?_
 refine qai [0,1,2] [3,4] [(1,.v (.int .i64 v)),(2,.v (.bool flex)),(4,.p 0 0),(7,.p 1 0),(13,.v (.agg #[.int .i64 ac,.int .i64 af,.int .i64 ag,.int .i64 ae,.int .i64 ah,.int .i64 ai,.int .i64 ab,.slice ay aa.length az])),(14,.v (.int .i64 v)),(15,.v (.agg #[.int .i64 n1,.slice A6 s2.length c7,.bool b3,.slice A8 l4.length c9,.slice aK u5.length aL]))] bx d5 fun gw d6=>?_
 refine qaj (qal d6 (f:=48) (vs:=[.agg #[.int .i64 ac,.int .i64 af,.int .i64 ag,.int .i64 ae,.int .i64 ah,.int .i64 ai,.int .i64 ab,.slice ay aa.length az],.int .i64 v,.agg #[.int .i64 n1,.slice A6 s2.length c7,.bool b3,.slice A8 l4.length c9,.slice aK u5.length aL]]) (d:=16) kz Tryd.call48 (qjU ac af ag ae ah ai ab aa _ _ v n1 s2 b3 l4 u5 _ _ _ _ _ _ _) ?_)
 rintro e_ gx ⟨rfl,cd⟩
 refine ⟨_,rfl,fun gy d7=>?_⟩
 have aj:=bx.next_nil cd
 have fi:=bx.frN cd
 refine qai [4] [] [(1,.v (.int .i64 v)),(2,.v (.bool flex)),(4,.p 0 0),(7,.p 1 0),(9,.v (.bool (Fld.nul (Fld.mk ac af ag ae ah ai ab aa) v (Tree.mk n1 s2 b3 l4 u5))))] aj d7 fun gz d8=>?_
 refine qae (qab ?_)
 refine wp_seq ?_
 refine qao [(1,.v (.int .i64 v)),(2,.v (.bool flex)),(4,.p 0 0),(7,.p 1 0),(9,.v (.bool (Fld.nul (Fld.mk ac af ag ae ah ai ab aa) v (Tree.mk n1 s2 b3 l4 u5)))),(19,.v (.bool (ac == 11)))] aj d8 fun gA bM=>?_
 refine qax bM (b:=ac == 11) kz (fun bN=>?_) (fun bN=>?_)
 ·
  have fj:ac = 11:=by simpa using bN
  refine qac [0,1,2,3] kz ?_
  refine qai [0,1] [2,3] [(1,.v (.int .i64 v)),(2,.v (.bool flex)),(4,.p 0 0),(9,.v (.bool (Fld.nul (Fld.mk ac af ag ae ah ai ab aa) v (Tree.mk n1 s2 b3 l4 u5)))),(21,.v (.slice A8 l4.length c9))] aj bM fun gB d9=>?_
  refine qaj (qal d9 (f:=49) (vs:=[.slice A8 l4.length c9]) (d:=22) kz Tryd.call49 (qi1 _ _ l4 (dW.move aj.step nilM aj.imm).le _) ?_)
  rintro e_ gC ⟨rfl,ce⟩
  refine ⟨_,rfl,fun gD ea=>?_⟩
  have aB:=aj.next_nil ce
  have fk:=aj.frN ce
  refine qai [3] [] [(1,.v (.int .i64 v)),(2,.v (.bool flex)),(4,.p 0 0),(9,.v (.bool (Fld.nul (Fld.mk ac af ag ae ah ai ab aa) v (Tree.mk n1 s2 b3 l4 u5)))),(10,.v (.slice A8 ((qaq l4).length) c9))] aB ea fun gE eb=>?_
  refine qae (qab ?_)
  refine wp_seq ?_
  refine qao [(1,.v (.int .i64 v)),(2,.v (.bool flex)),(4,.p 0 0),(9,.v (.bool (Fld.nul (Fld.mk ac af ag ae ah ai ab aa) v (Tree.mk n1 s2 b3 l4 u5)))),(10,.v (.slice A8 ((qaq l4).length) c9)),(23,.v (.bool (Fld.nul (Fld.mk ac af ag ae ah ai ab aa) v (Tree.mk n1 s2 b3 l4 u5))))] aB eb fun gF bO=>?_
  refine qax bO (b:=Fld.nul (Fld.mk ac af ag ae ah ai ab aa) v (Tree.mk n1 s2 b3 l4 u5)) kz (fun ec=>?_) (fun ec=>?_)
  ·
   refine qap [0] kz ?_
   refine qai [0] [] [(1,.v (.int .i64 v)),(2,.v (.bool flex)),(4,.p 0 0),(9,.v (.bool (Fld.nul (Fld.mk ac af ag ae ah ai ab aa) v (Tree.mk n1 s2 b3 l4 u5)))),(10,.v (.slice none 0 0))] aB bO fun gG ee=>?_
   refine qae (qab ?_)
   refine qac [0,1,2,3,4,5] kz ?_
   refine qai [0,1,2,3] [4,5] [(1,.v (.int .i64 v)),(2,.v (.bool flex)),(4,.p 0 0),(10,.v (.slice none 0 0)),(24,.v (.bool flex)),(25,.v (.bool (Fld.nul (Fld.mk ac af ag ae ah ai ab aa) v (Tree.mk n1 s2 b3 l4 u5)))),(27,.v (.int .i64 0))] aB ee fun gH ef=>?_
   refine qaj (qal ef (f:=50) (vs:=[.bool flex,.bool (Fld.nul (Fld.mk ac af ag ae ah ai ab aa) v (Tree.mk n1 s2 b3 l4 u5)),.int .i64 0,.int .i64 4]) (d:=28) kz Tryd.call50 (qcX flex (Fld.nul (Fld.mk ac af ag ae ah ai ab aa) v (Tree.mk n1 s2 b3 l4 u5)) 0 4 (by first | omega | exact Nat.le_trans (qa1 _) (by decide) | exact Nat.le_trans (qbY _) (by decide) | (simp; done) | (have:=hroom; omega)) (by first | decide | omega) _) ?_)
   rintro e_ gI ⟨bY,bZ,rfl,eg,eh⟩
   refine ⟨_,rfl,fun gJ ei=>?_⟩
   obtain ⟨bP,fl⟩:=aB.frFresh eh (brow bY bZ 5 (qak flex (Fld.nul (Fld.mk ac af ag ae ah ai ab aa) v (Tree.mk n1 s2 b3 l4 u5)) 0 4)) (Nat.le_refl _) eg
   refine qai [5] [] [(1,.v (.int .i64 v)),(2,.v (.bool flex)),(4,.p 0 0),(10,.v (.slice none 0 0)),(11,.v (.slice bY ((qak flex (Fld.nul (Fld.mk ac af ag ae ah ai ab aa) v (Tree.mk n1 s2 b3 l4 u5)) 0 4).length) bZ))] bP ei fun gK ej=>?_
   refine qae (qab ?_)
   refine wp_seq ?_
   refine qao [(1,.v (.int .i64 v)),(2,.v (.bool flex)),(4,.p 0 0),(10,.v (.slice none 0 0)),(11,.v (.slice bY ((qak flex (Fld.nul (Fld.mk ac af ag ae ah ai ab aa) v (Tree.mk n1 s2 b3 l4 u5)) 0 4).length) bZ)),(30,.v (.int .i64 0)),(31,.v (.int .i64 0))] bP ej fun gL cg=>?_
   refine wp_block ?_
   have hr2:(qak flex (Fld.nul (Fld.mk ac af ag ae ah ai ab aa) v (Tree.mk n1 s2 b3 l4 u5)) 0 4 ++ ([]:List Tree).flatMap (qaD (qaL d aa v flex) ab false flex)).length ≤ 1099511627776:=by have h_:=hroom; rw [qer ‹_› ‹_›] at h_; exact h_
   rw [List.length_append] at hr2
   have hr3:=qbZ ([]:List Tree) (qaD (qaL d aa v flex) ab false flex)
   have cm:(qak flex (Fld.nul (Fld.mk ac af ag ae ah ai ab aa) v (Tree.mk n1 s2 b3 l4 u5)) 0 4) = (qak flex (Fld.nul (Fld.mk ac af ag ae ah ai ab aa) v (Tree.mk n1 s2 b3 l4 u5)) 0 4 ++ (([]:List Tree).take 0).flatMap (qaD (qaL d aa v flex) ab false flex)):=by simp
   have cq:=congrArg (brow bY bZ 5) cm
   obtain ⟨bB,eC⟩:=bP.rowEq 0 [brow bY bZ 5 (qak flex (Fld.nul (Fld.mk ac af ag ae ah ai ab aa) v (Tree.mk n1 s2 b3 l4 u5)) 0 4 ++ (([]:List Tree).take 0).flatMap (qaD (qaL d aa v flex) ab false flex))] cq
   rw [cm] at cg
   refine wp_loop_ghost (fun n_ a_ w_=>∃ (k:Nat) (A_:Option Addr) (c_:Nat),n_ = 0 - k ∧ k ≤ 0 ∧ LInv bB 76 [⟨ez,0,[.int .i64 ac,.int .i64 af,.int .i64 ag,.int .i64 ae,.int .i64 ah,.int .i64 ai,.int .i64 ab,.slice ay aa.length az],true⟩,⟨eB,0,[.int .i64 n1,.slice A6 s2.length c7,.bool b3,.slice A8 l4.length c9,.slice aK u5.length aL],true⟩] [brow A_ c_ 5 (qak flex (Fld.nul (Fld.mk ac af ag ae ah ai ab aa) v (Tree.mk n1 s2 b3 l4 u5)) 0 4 ++ (([]:List Tree).take k).flatMap (qaD (qaL d aa v flex) ab false flex))] [(1,.v (.int .i64 v)),(2,.v (.bool flex)),(4,.p 0 0),(10,.v (.slice none 0 0)),(11,.v (.slice A_ ((qak flex (Fld.nul (Fld.mk ac af ag ae ah ai ab aa) v (Tree.mk n1 s2 b3 l4 u5)) 0 4 ++ (([]:List Tree).take k).flatMap (qaD (qaL d aa v flex) ab false flex)).length) c_)),(30,.v (.int .i64 0)),(31,.v (.int .i64 ((k:Nat):Int)))] a_ w_) (0) ⟨0,bY,bZ,by omega,by omega,cg.pk,bB,Fr.refl _ _ _⟩ ?_
   rintro fm fo fq ⟨k,A_,c_,eD,eE,cr,aE,eF⟩
   refine qao [(1,.v (.int .i64 v)),(2,.v (.bool flex)),(4,.p 0 0),(10,.v (.slice none 0 0)),(11,.v (.slice A_ ((qak flex (Fld.nul (Fld.mk ac af ag ae ah ai ab aa) v (Tree.mk n1 s2 b3 l4 u5)) 0 4 ++ (([]:List Tree).take k).flatMap (qaD (qaL d aa v flex) ab false flex)).length) c_)),(30,.v (.int .i64 0)),(31,.v (.int .i64 ((k:Nat):Int))),(32,.v (.bool (decide (((k:Nat):Int) < 0))))] aE cr fun fr bC=>?_
   refine wp_seq ?_
   refine qar bC (b:=decide (((k:Nat):Int) < 0)) kz (decide_eq_false (by omega)) ?_
   refine wp_exit ?_
   refine qau ?_
   refine qau ?_
   refine qaH ?_
   refine qab ?_
   refine qao [(8,.v (.slice A_ ((qak flex (Fld.nul (Fld.mk ac af ag ae ah ai ab aa) v (Tree.mk n1 s2 b3 l4 u5)) 0 4 ++ (([]:List Tree).take k).flatMap (qaD (qaL d aa v flex) ab false flex)).length) c_))] aE bC fun ft cu=>?_
   refine wp_ret ?_
   refine qat ?_
   refine qaG cu aE.cells (v:=.slice A_ ((qak flex (Fld.nul (Fld.mk ac af ag ae ah ai ab aa) v (Tree.mk n1 s2 b3 l4 u5)) 0 4 ++ (([]:List Tree).take k).flatMap (qaD (qaL d aa v flex) ab false flex)).length) c_) kz ?_
   exact qaU aE (k:=0) rfl (by rw [qer ‹_› ‹_›]; simp)
  refine wp_skip ?_
  refine qab ?_
  refine qac [0,1,2,3,4,5] kz ?_
  refine qai [0,1,2,3] [4,5] [(1,.v (.int .i64 v)),(2,.v (.bool flex)),(4,.p 0 0),(10,.v (.slice A8 ((qaq l4).length) c9)),(24,.v (.bool flex)),(25,.v (.bool (Fld.nul (Fld.mk ac af ag ae ah ai ab aa) v (Tree.mk n1 s2 b3 l4 u5)))),(27,.v (.int .i64 (((qaq l4).length:Nat):Int)))] aB bO fun fu cw=>?_
  refine qaj (qal cw (f:=50) (vs:=[.bool flex,.bool (Fld.nul (Fld.mk ac af ag ae ah ai ab aa) v (Tree.mk n1 s2 b3 l4 u5)),.int .i64 (((qaq l4).length:Nat):Int),.int .i64 4]) (d:=28) kz Tryd.call50 (qcX flex (Fld.nul (Fld.mk ac af ag ae ah ai ab aa) v (Tree.mk n1 s2 b3 l4 u5)) ((qaq l4).length) 4 (by first | omega | exact Nat.le_trans (qa1 _) (by decide) | exact Nat.le_trans (qbY _) (by decide) | (simp; done) | (have:=hroom; omega)) (by first | decide | omega) _) ?_)
  rintro e_ fv ⟨aM,aN,rfl,cz,cA⟩
  refine ⟨_,rfl,fun fw cB=>?_⟩
  obtain ⟨aO,eG⟩:=aB.frFresh cA (brow aM aN 5 (qak flex (Fld.nul (Fld.mk ac af ag ae ah ai ab aa) v (Tree.mk n1 s2 b3 l4 u5)) ((qaq l4).length) 4)) (Nat.le_refl _) cz
  refine qai [5] [] [(1,.v (.int .i64 v)),(2,.v (.bool flex)),(4,.p 0 0),(10,.v (.slice A8 ((qaq l4).length) c9)),(11,.v (.slice aM ((qak flex (Fld.nul (Fld.mk ac af ag ae ah ai ab aa) v (Tree.mk n1 s2 b3 l4 u5)) ((qaq l4).length) 4).length) aN))] aO cB fun fx cC=>?_
  refine qae (qab ?_)
  refine wp_seq ?_
  refine qao [(1,.v (.int .i64 v)),(2,.v (.bool flex)),(4,.p 0 0),(10,.v (.slice A8 ((qaq l4).length) c9)),(11,.v (.slice aM ((qak flex (Fld.nul (Fld.mk ac af ag ae ah ai ab aa) v (Tree.mk n1 s2 b3 l4 u5)) ((qaq l4).length) 4).length) aN)),(30,.v (.int .i64 (((qaq l4).length:Nat):Int))),(31,.v (.int .i64 0))] aO cC fun fy bD=>?_
  refine wp_block ?_
  have hr2:(qak flex (Fld.nul (Fld.mk ac af ag ae ah ai ab aa) v (Tree.mk n1 s2 b3 l4 u5)) ((qaq l4).length) 4 ++ (qaq l4).flatMap (qaD (qaL d aa v flex) ab false flex)).length ≤ 1099511627776:=by have h_:=hroom; rw [qe3 ‹_› ‹_›] at h_; exact h_
  rw [List.length_append] at hr2
  have hr3:=qbZ (qaq l4) (qaD (qaL d aa v flex) ab false flex)
  have hsm3:(qaq l4).length ≤ 32767:=by simp only [qaq,List.length_take]; omega
  have bE:(qak flex (Fld.nul (Fld.mk ac af ag ae ah ai ab aa) v (Tree.mk n1 s2 b3 l4 u5)) ((qaq l4).length) 4) = (qak flex (Fld.nul (Fld.mk ac af ag ae ah ai ab aa) v (Tree.mk n1 s2 b3 l4 u5)) ((qaq l4).length) 4 ++ ((qaq l4).take 0).flatMap (qaD (qaL d aa v flex) ab false flex)):=by simp
  have cD:=congrArg (brow aM aN 5) bE
  obtain ⟨bF,eH⟩:=aO.rowEq 0 [brow aM aN 5 (qak flex (Fld.nul (Fld.mk ac af ag ae ah ai ab aa) v (Tree.mk n1 s2 b3 l4 u5)) ((qaq l4).length) 4 ++ ((qaq l4).take 0).flatMap (qaD (qaL d aa v flex) ab false flex))] cD
  rw [bE] at bD
  refine wp_loop_ghost (fun n_ a_ w_=>∃ (k:Nat) (A_:Option Addr) (c_:Nat),n_ = (qaq l4).length - k ∧ k ≤ (qaq l4).length ∧ LInv bF 76 [⟨ez,0,[.int .i64 ac,.int .i64 af,.int .i64 ag,.int .i64 ae,.int .i64 ah,.int .i64 ai,.int .i64 ab,.slice ay aa.length az],true⟩,⟨eB,0,[.int .i64 n1,.slice A6 s2.length c7,.bool b3,.slice A8 l4.length c9,.slice aK u5.length aL],true⟩] [brow A_ c_ 5 (qak flex (Fld.nul (Fld.mk ac af ag ae ah ai ab aa) v (Tree.mk n1 s2 b3 l4 u5)) ((qaq l4).length) 4 ++ ((qaq l4).take k).flatMap (qaD (qaL d aa v flex) ab false flex))] [(1,.v (.int .i64 v)),(2,.v (.bool flex)),(4,.p 0 0),(10,.v (.slice A8 ((qaq l4).length) c9)),(11,.v (.slice A_ ((qak flex (Fld.nul (Fld.mk ac af ag ae ah ai ab aa) v (Tree.mk n1 s2 b3 l4 u5)) ((qaq l4).length) 4 ++ ((qaq l4).take k).flatMap (qaD (qaL d aa v flex) ab false flex)).length) c_)),(30,.v (.int .i64 (((qaq l4).length:Nat):Int))),(31,.v (.int .i64 ((k:Nat):Int)))] a_ w_) ((qaq l4).length) ⟨0,aM,aN,by omega,by omega,bD.pk,bF,Fr.refl _ _ _⟩ ?_
  rintro fz fA fB ⟨k,A_,c_,eI,eJ,cE,ax,cG⟩
  refine qao [(1,.v (.int .i64 v)),(2,.v (.bool flex)),(4,.p 0 0),(10,.v (.slice A8 ((qaq l4).length) c9)),(11,.v (.slice A_ ((qak flex (Fld.nul (Fld.mk ac af ag ae ah ai ab aa) v (Tree.mk n1 s2 b3 l4 u5)) ((qaq l4).length) 4 ++ ((qaq l4).take k).flatMap (qaD (qaL d aa v flex) ab false flex)).length) c_)),(30,.v (.int .i64 (((qaq l4).length:Nat):Int))),(31,.v (.int .i64 ((k:Nat):Int))),(32,.v (.bool (decide (((k:Nat):Int) < (((qaq l4).length:Nat):Int)))))] ax cE fun fC aP=>?_
  refine wp_seq ?_
  refine qax aP (b:=decide (((k:Nat):Int) < (((qaq l4).length:Nat):Int))) kz (fun aQ=>?_) (fun aQ=>?_)
  ·
   have eK:=of_decide_eq_true aQ
   refine wp_skip ?_
   refine qab ?_
   refine wp_seq ?_
   refine wp_block ?_
   refine qao [(1,.v (.int .i64 v)),(2,.v (.bool flex)),(4,.p 0 0),(10,.v (.slice A8 ((qaq l4).length) c9)),(11,.v (.slice A_ ((qak flex (Fld.nul (Fld.mk ac af ag ae ah ai ab aa) v (Tree.mk n1 s2 b3 l4 u5)) ((qaq l4).length) 4 ++ ((qaq l4).take k).flatMap (qaD (qaL d aa v flex) ab false flex)).length) c_)),(12,.v (.int .i64 ((k:Nat):Int))),(30,.v (.int .i64 (((qaq l4).length:Nat):Int))),(31,.v (.int .i64 ((k:Nat):Int)))] ax aP fun fD cH=>?_
   refine qdV 13 kz ax fun fE cI ar aR=>?_
   refine qaM [0,1,2,3,4,5,6,7,8] [(1,.v (.int .i64 v)),(2,.v (.bool flex)),(4,.p 0 0),(10,.v (.slice A8 ((qaq l4).length) c9)),(11,.v (.slice A_ ((qak flex (Fld.nul (Fld.mk ac af ag ae ah ai ab aa) v (Tree.mk n1 s2 b3 l4 u5)) ((qaq l4).length) 4 ++ ((qaq l4).take k).flatMap (qaD (qaL d aa v flex) ab false flex)).length) c_)),(30,.v (.int .i64 (((qaq l4).length:Nat):Int))),(31,.v (.int .i64 ((k:Nat):Int))),(34,.v (.slice A_ ((qak flex (Fld.nul (Fld.mk ac af ag ae ah ai ab aa) v (Tree.mk n1 s2 b3 l4 u5)) ((qaq l4).length) 4 ++ ((qaq l4).take k).flatMap (qaD (qaL d aa v flex) ab false flex)).length) c_)),(36,.v (.int .i64 ab)),(38,.v (.slice ay aa.length az)),(39,.v (.int .i64 v)),(40,.v (.bool flex)),(41,.v (.slice A8 ((qaq l4).length) c9)),(42,.v (.int .i64 ((k:Nat):Int)))] 5 (qad (qaa (qaa (qad (qaa (qaa qaf)))))) (fun _ h=>h.cells) aR cH fun fF cJ=>?_
   obtain ⟨bQ,bR,cK,eL,aS⟩:=Slots.get (qeZ dW) (i:=k) (by omega)
   obtain ⟨ek,aF⟩:∃ x,(qaq l4)[k]? = some x:=⟨_,List.getElem?_eq_getElem (by omega)⟩
   have aT:=(qfu e9) k ek aF
   obtain ⟨ak,al,am,ao,ap,aU,aV,aW,aX,aY,aZ,eM,rfl,ba,em,eo,fG,fH⟩:=aT.open_
   rw [ba] at aT
   have ep:=em.small
   have eu:=eo.small
   rw [ba] at aS
   refine qaW cJ (i:=9) (t:=23) (A:=A8) (m:=((qaq l4).length)) (q:=((k:Nat):Int)) (d:=43) kz (e:=26) (size:=5) (bytes:=88) kz cK rfl (by omega) kz kz (qad (qaa (qaa (qad (qaa (qaa qaf)))))) aR fun fI cL=>?_
   refine qa4 cL (i:=10) (t:=26) (b:=bQ) (o:=bR + k * 5) (d:=44) kz (cs:=[.int .i64 ak,.slice aU al.length aV,.bool am,.slice aW ao.length aX,.slice aY ap.length aZ]) (v:=.agg #[.int .i64 ak,.slice aU al.length aV,.bool am,.slice aW ao.length aX,.slice aY ap.length aZ]) kz (fun w' h'=>(AtF.move aS (TT.step0 ar h') nilM qaV).at_) kz kz (qad (qaa (qaa (qad (qaa (qaa qaf)))))) aR fun fJ cM=>?_
   refine qaJ (i:=11) kz (qal cM (f:=51) (vs:=[.int .i64 ab,.slice ay aa.length az,.bool false,.int .i64 v,.bool flex,.agg #[.int .i64 ak,.slice aU al.length aV,.bool am,.slice aW ao.length aX,.slice aY ap.length aZ]]) (d:=45) kz Tryd.call51 (qhx hp ab _ _ aa false v flex _ (Tree.mk ak al am ao ap) _ _ ⟨bw,(b8.move ar.step nilM ar.imm),(fun i_ x_ h_=>((dV i_ x_ h_).move ar.step nilM ar.imm))⟩ hd (aT.move ar.step nilM ar.imm) (by have:=qeq (g:=qaD (qaL d aa v flex) ab false flex) aF; omega)) ?_)
   rintro e_ fK ⟨bd,bf,rfl,cN,cO⟩
   refine ⟨_,rfl,fun fL cP=>?_⟩
   obtain ⟨aG,bg⟩:=ar.frFresh cO (brow bd bf 5 (qaD (qaL d aa v flex) ab false flex (Tree.mk ak al am ao ap))) (Nat.le_refl _) cN
   have cQ:=TT.ofW bg aG
   refine ⟨fun _=>cQ,?_⟩
   refine qaJ (i:=12) kz (qaS aG cP (k:=0) (d:=46) (t:=22) (e:=5) (size:=1) (bytes:=1) (A:=A_) (As:=bd) (m0:=((qak flex (Fld.nul (Fld.mk ac af ag ae ah ai ab aa) v (Tree.mk n1 s2 b3 l4 u5)) ((qaq l4).length) 4 ++ ((qaq l4).take k).flatMap (qaD (qaL d aa v flex) ab false flex)).length)) (c:=c_) (m:=((qaD (qaL d aa v flex) ab false flex (Tree.mk ak al am ao ap)).length)) (cs:=bf) (xs:=(bc (qak flex (Fld.nul (Fld.mk ac af ag ae ah ai ab aa) v (Tree.mk n1 s2 b3 l4 u5)) ((qaq l4).length) 4 ++ ((qaq l4).take k).flatMap (qaD (qaL d aa v flex) ab false flex)))) (news:=bc (qaD (qaL d aa v flex) ab false flex (Tree.mk ak al am ao ap))) kz kz rfl (qbA (aG.own 1 _ rfl) (qcm _)) (qbN (aG.own 1 _ rfl)) (by rw [List.length_append]; have h8_:=hr3 k; have h9_:=qeq (g:=qaD (qaL d aa v flex) ab false flex) aF; omega) fun av aw fM fN bG cR cS=>?_)
   have cT:(⟨av,aw,5,1,(qak flex (Fld.nul (Fld.mk ac af ag ae ah ai ab aa) v (Tree.mk n1 s2 b3 l4 u5)) ((qaq l4).length) 4 ++ ((qaq l4).take k).flatMap (qaD (qaL d aa v flex) ab false flex)).length + (qaD (qaL d aa v flex) ab false flex (Tree.mk ak al am ao ap)).length,bc (qak flex (Fld.nul (Fld.mk ac af ag ae ah ai ab aa) v (Tree.mk n1 s2 b3 l4 u5)) ((qaq l4).length) 4 ++ ((qaq l4).take k).flatMap (qaD (qaL d aa v flex) ab false flex)) ++ bc (qaD (qaL d aa v flex) ab false flex (Tree.mk ak al am ao ap))⟩:Rw) = brow av aw 5 (qak flex (Fld.nul (Fld.mk ac af ag ae ah ai ab aa) v (Tree.mk n1 s2 b3 l4 u5)) ((qaq l4).length) 4 ++ ((qaq l4).take k).flatMap (qaD (qaL d aa v flex) ab false flex) ++ (qaD (qaL d aa v flex) ab false flex (Tree.mk ak al am ao ap))):=qbm (rfl) rfl
   obtain ⟨aH,bH⟩:=cR.rowEq 0 [brow av aw 5 (qak flex (Fld.nul (Fld.mk ac af ag ae ah ai ab aa) v (Tree.mk n1 s2 b3 l4 u5)) ((qaq l4).length) 4 ++ ((qaq l4).take k).flatMap (qaD (qaL d aa v flex) ab false flex) ++ (qaD (qaL d aa v flex) ab false flex (Tree.mk ak al am ao ap))),brow bd bf 5 (qaD (qaL d aa v flex) ab false flex (Tree.mk ak al am ao ap))] cT
   have cU:=EnvOk.pick cS (ks:=[1,2,4,10,11,30,31,34,36,38,39,40,41,42,43,44,45,46]) (env':=[(1,.v (.int .i64 v)),(2,.v (.bool flex)),(4,.p 0 0),(10,.v (.slice A8 ((qaq l4).length) c9)),(11,.v (.slice A_ ((qak flex (Fld.nul (Fld.mk ac af ag ae ah ai ab aa) v (Tree.mk n1 s2 b3 l4 u5)) ((qaq l4).length) 4 ++ ((qaq l4).take k).flatMap (qaD (qaL d aa v flex) ab false flex)).length) c_)),(30,.v (.int .i64 (((qaq l4).length:Nat):Int))),(31,.v (.int .i64 ((k:Nat):Int))),(34,.v (.slice A_ ((qak flex (Fld.nul (Fld.mk ac af ag ae ah ai ab aa) v (Tree.mk n1 s2 b3 l4 u5)) ((qaq l4).length) 4 ++ ((qaq l4).take k).flatMap (qaD (qaL d aa v flex) ab false flex)).length) c_)),(36,.v (.int .i64 ab)),(38,.v (.slice ay aa.length az)),(39,.v (.int .i64 v)),(40,.v (.bool flex)),(41,.v (.slice A8 ((qaq l4).length) c9)),(42,.v (.int .i64 ((k:Nat):Int))),(43,.v (.pointer (some ⟨bQ,bR + k * 5,none⟩))),(44,.v (.agg #[.int .i64 ak,.slice aU al.length aV,.bool am,.slice aW ao.length aX,.slice aY ap.length aZ])),(45,.v (.slice bd ((qaD (qaL d aa v flex) ab false flex (Tree.mk ak al am ao ap)).length) bf)),(46,.v (.slice av ((qak flex (Fld.nul (Fld.mk ac af ag ae ah ai ab aa) v (Tree.mk n1 s2 b3 l4 u5)) ((qaq l4).length) 4 ++ ((qaq l4).take k).flatMap (qaD (qaL d aa v flex) ab false flex)).length + (qaD (qaL d aa v flex) ab false flex (Tree.mk ak al am ao ap)).length) aw))]) kz
   have cV:=cU.cast (env':=[(1,.v (.int .i64 v)),(2,.v (.bool flex)),(4,.p 0 0),(10,.v (.slice A8 ((qaq l4).length) c9)),(11,.v (.slice A_ ((qak flex (Fld.nul (Fld.mk ac af ag ae ah ai ab aa) v (Tree.mk n1 s2 b3 l4 u5)) ((qaq l4).length) 4 ++ ((qaq l4).take k).flatMap (qaD (qaL d aa v flex) ab false flex)).length) c_)),(30,.v (.int .i64 (((qaq l4).length:Nat):Int))),(31,.v (.int .i64 ((k:Nat):Int))),(34,.v (.slice A_ ((qak flex (Fld.nul (Fld.mk ac af ag ae ah ai ab aa) v (Tree.mk n1 s2 b3 l4 u5)) ((qaq l4).length) 4 ++ ((qaq l4).take k).flatMap (qaD (qaL d aa v flex) ab false flex)).length) c_)),(36,.v (.int .i64 ab)),(38,.v (.slice ay aa.length az)),(39,.v (.int .i64 v)),(40,.v (.bool flex)),(41,.v (.slice A8 ((qaq l4).length) c9)),(42,.v (.int .i64 ((k:Nat):Int))),(43,.v (.pointer (some ⟨bQ,bR + k * 5,none⟩))),(44,.v (.agg #[.int .i64 ak,.slice aU al.length aV,.bool am,.slice aW ao.length aX,.slice aY ap.length aZ])),(45,.v (.slice bd ((qaD (qaL d aa v flex) ab false flex (Tree.mk ak al am ao ap)).length) bf)),(46,.v (.slice av ((qak flex (Fld.nul (Fld.mk ac af ag ae ah ai ab aa) v (Tree.mk n1 s2 b3 l4 u5)) ((qaq l4).length) 4 ++ ((qaq l4).take k).flatMap (qaD (qaL d aa v flex) ab false flex) ++ (qaD (qaL d aa v flex) ab false flex (Tree.mk ak al am ao ap))).length) aw))]) (by simp only [List.length_append,List.length_cons,List.length_nil,Nat.zero_add])
   have cW:=TT.ofW ((bg.trans bG).trans bH) aH
   refine ⟨fun _=>cW,?_⟩
   refine qaJ (i:=13) kz (qbB [1,2,4,10,11,30,31] aH.cells cV (env':=[(1,.v (.int .i64 v)),(2,.v (.bool flex)),(4,.p 0 0),(10,.v (.slice A8 ((qaq l4).length) c9)),(11,.v (.slice av ((qak flex (Fld.nul (Fld.mk ac af ag ae ah ai ab aa) v (Tree.mk n1 s2 b3 l4 u5)) ((qaq l4).length) 4 ++ ((qaq l4).take k).flatMap (qaD (qaL d aa v flex) ab false flex) ++ (qaD (qaL d aa v flex) ab false flex (Tree.mk ak al am ao ap))).length) aw)),(30,.v (.int .i64 (((qaq l4).length:Nat):Int))),(31,.v (.int .i64 ((k:Nat):Int)))]) kz fun fO cX=>?_)
   refine ⟨fun h=>absurd rfl h,?_⟩
   refine qaN kz ?_ _
   refine qav ?_
   refine qab ?_
   refine qap [0,1] kz ?_
   refine qai [0,1] [] [(1,.v (.int .i64 v)),(2,.v (.bool flex)),(4,.p 0 0),(10,.v (.slice A8 ((qaq l4).length) c9)),(11,.v (.slice av ((qak flex (Fld.nul (Fld.mk ac af ag ae ah ai ab aa) v (Tree.mk n1 s2 b3 l4 u5)) ((qaq l4).length) 4 ++ ((qaq l4).take k).flatMap (qaD (qaL d aa v flex) ab false flex) ++ (qaD (qaL d aa v flex) ab false flex (Tree.mk ak al am ao ap))).length) aw)),(30,.v (.int .i64 (((qaq l4).length:Nat):Int))),(31,.v (.int .i64 (IntKind.i64.wrap (((k:Nat):Int) + 1))))] aH cX fun fP bh=>?_
   refine qae (qab ?_)
   obtain ⟨cY,cZ⟩:=aH.cutR 1 [brow av aw 5 (qak flex (Fld.nul (Fld.mk ac af ag ae ah ai ab aa) v (Tree.mk n1 s2 b3 l4 u5)) ((qaq l4).length) 4 ++ ((qaq l4).take k).flatMap (qaD (qaL d aa v flex) ab false flex) ++ (qaD (qaL d aa v flex) ab false flex (Tree.mk ak al am ao ap)))]
   have bI:(qak flex (Fld.nul (Fld.mk ac af ag ae ah ai ab aa) v (Tree.mk n1 s2 b3 l4 u5)) ((qaq l4).length) 4 ++ ((qaq l4).take k).flatMap (qaD (qaL d aa v flex) ab false flex) ++ (qaD (qaL d aa v flex) ab false flex (Tree.mk ak al am ao ap))) = (qak flex (Fld.nul (Fld.mk ac af ag ae ah ai ab aa) v (Tree.mk n1 s2 b3 l4 u5)) ((qaq l4).length) 4 ++ ((qaq l4).take (k + 1)).flatMap (qaD (qaL d aa v flex) ab false flex)):=by rw [qca aF,List.append_assoc]
   have c5:=congrArg (brow av aw 5) bI
   obtain ⟨c6,da⟩:=cY.rowEq 0 [brow av aw 5 (qak flex (Fld.nul (Fld.mk ac af ag ae ah ai ab aa) v (Tree.mk n1 s2 b3 l4 u5)) ((qaq l4).length) 4 ++ ((qaq l4).take (k + 1)).flatMap (qaD (qaL d aa v flex) ab false flex))] c5
   rw [bI] at bh
   have db:IntKind.i64.wrap (((k:Nat):Int) + 1) = ((k + 1:Nat):Int):=qaO (by omega)
   rw [db] at bh
   exact ⟨(qaq l4).length - (k + 1),by omega,k + 1,av,aw,rfl,by omega,bh.pk,c6,((((((cG.trans cI).trans bg).trans bG).trans bH).trans cZ).trans da)⟩
  have eN:=of_decide_eq_false aQ
  refine wp_exit ?_
  refine qau ?_
  refine qau ?_
  refine qaH ?_
  refine qab ?_
  refine qao [(8,.v (.slice A_ ((qak flex (Fld.nul (Fld.mk ac af ag ae ah ai ab aa) v (Tree.mk n1 s2 b3 l4 u5)) ((qaq l4).length) 4 ++ ((qaq l4).take k).flatMap (qaD (qaL d aa v flex) ab false flex)).length) c_))] ax aP fun fQ dc=>?_
  refine wp_ret ?_
  refine qat ?_
  refine qaG dc ax.cells (v:=.slice A_ ((qak flex (Fld.nul (Fld.mk ac af ag ae ah ai ab aa) v (Tree.mk n1 s2 b3 l4 u5)) ((qaq l4).length) 4 ++ ((qaq l4).take k).flatMap (qaD (qaL d aa v flex) ab false flex)).length) c_) kz ?_
  have hkk:(qaq l4).take k = qaq l4:=List.take_of_length_le (by omega)
  exact qaU ax (k:=0) rfl (by rw [hkk,qe3 ‹_› ‹_›]; rfl)
 have eO:ac ≠ 11:=by simpa using bN
 refine wp_skip ?_
 refine qab ?_
 refine wp_seq ?_
 refine qac [0,1,2,3,4,5,6,7] kz ?_
 refine qai [0,1,2,3] [4,5,6,7] [(1,.v (.int .i64 v)),(2,.v (.bool flex)),(4,.p 0 0),(7,.p 1 0),(9,.v (.bool (Fld.nul (Fld.mk ac af ag ae ah ai ab aa) v (Tree.mk n1 s2 b3 l4 u5)))),(52,.v (.bool (ac == 10)))] aj bM fun fR bJ=>?_
 refine (Bool.eq_false_or_eq_true (ac == 10)).elim (fun aA=>?_) (fun aA=>?_)
 ·
  have eP:ac = 10:=by simpa using aA
  have de:=bJ.cast (env':=[(1,.v (.int .i64 v)),(2,.v (.bool flex)),(4,.p 0 0),(7,.p 1 0),(9,.v (.bool (Fld.nul (Fld.mk ac af ag ae ah ai ab aa) v (Tree.mk n1 s2 b3 l4 u5)))),(52,.v (.bool true))]) (by rw [aA])
  refine qai [4,5,6,7] [] [(1,.v (.int .i64 v)),(2,.v (.bool flex)),(4,.p 0 0),(7,.p 1 0),(9,.v (.bool (Fld.nul (Fld.mk ac af ag ae ah ai ab aa) v (Tree.mk n1 s2 b3 l4 u5)))),(56,.v (.bool (decide (ae ≥ 0))))] aj de fun fS bi=>?_
  refine qae (qab ?_)
  refine qax bi (b:=decide (ae ≥ 0)) kz (fun bj=>?_) (fun bj=>?_)
  ·
   have eQ:=of_decide_eq_true bj
   refine wp_seq ?_
   refine qao [(1,.v (.int .i64 v)),(2,.v (.bool flex)),(4,.p 0 0),(7,.p 1 0),(57,.v (.bool (Fld.nul (Fld.mk ac af ag ae ah ai ab aa) v (Tree.mk n1 s2 b3 l4 u5))))] aj bi fun fT bk=>?_
   refine qax bk (b:=Fld.nul (Fld.mk ac af ag ae ah ai ab aa) v (Tree.mk n1 s2 b3 l4 u5)) kz (fun dg=>?_) (fun dg=>?_)
   ·
    refine qac [0,1] kz ?_
    refine qaj (qal bk (f:=52) (vs:=[.int .i64 (-1),.int .i64 1]) (d:=58) kz Tryd.call52 (qeg (-1) 1 (by first | decide | exact qbq _ | omega) _) ?_)
    rintro e_ fU ⟨bS,bT,rfl,dh,di⟩
    refine ⟨_,rfl,fun fV dj=>?_⟩
    obtain ⟨bn,eR⟩:=aj.frFresh di (brow bS bT 5 (be 1 (-1))) (Nat.le_refl _) dh
    refine qai [1] [] [(8,.v (.slice bS ((be 1 (-1)).length) bT))] bn dj fun fW dl=>?_
    refine qae (qab ?_)
    refine wp_ret ?_
    refine qat ?_
    refine qat ?_
    refine qaG dl bn.cells (v:=.slice bS ((be 1 (-1)).length) bT) kz ?_
    exact qaU bn (k:=0) rfl (by first | rw [qcN ‹_› ‹_›] | rw [qcM ‹_› ‹_› ‹_›] | rw [qcb ‹_› ‹_› ‹_› ‹_›] | rw [qcL ‹_› ‹_› ‹_› ‹_›])
   refine wp_skip ?_
   refine qab ?_
   refine qaZ 8 kz aj fun fX eS dp dq=>?_
   refine qaM [1,2,3,4,5] [(61,.v (.slice ay aa.length az)),(62,.v (.int .i64 v)),(63,.v (.bool flex)),(64,.v (.agg #[.int .i64 n1,.slice A6 s2.length c7,.bool b3,.slice A8 l4.length c9,.slice aK u5.length aL]))] 4 (qaa (qaa qaf)) (fun _ h=>h.cells) dq bk fun fY dr=>?_
   refine qaJ (i:=0) kz (qal dr (f:=52) (vs:=[.int .i64 1,.int .i64 1]) (d:=59) kz Tryd.call52 (qeg 1 1 (by first | decide | exact qbq _ | omega) _) ?_)
   rintro e_ fZ ⟨bz,bA,rfl,dt,du⟩
   refine ⟨_,rfl,fun f5 dv=>?_⟩
   obtain ⟨au,bo⟩:=dp.frFresh du (brow bz bA 5 (be 1 1)) (Nat.le_refl _) dt
   have dw:=TT.ofW bo au
   refine ⟨fun _=>dw,?_⟩
   refine qaJ (i:=6) kz (qal dv (f:=19) (vs:=[.slice ay aa.length az,.int .i64 v,.bool flex,.agg #[.int .i64 n1,.slice A6 s2.length c7,.bool b3,.slice A8 l4.length c9,.slice aK u5.length aL]]) (d:=65) kz Tryd.call19 (hp _ _ aa v flex _ (Tree.mk n1 s2 b3 l4 u5) _ _ ⟨bw,(b8.move au.step nilM au.imm),(fun i_ x_ h_=>((dV i_ x_ h_).move au.step nilM au.imm))⟩ hd (ht.move au.step nilM au.imm) (by have h9_:=hroom; rw [qcb ‹_› ‹_› ‹_› ‹_›,List.length_append] at h9_; omega)) ?_)
   rintro e_ f7 ⟨bp,bq,rfl,dx,dy⟩
   refine ⟨_,rfl,fun f8 dz=>?_⟩
   obtain ⟨aI,bK⟩:=au.frFresh dy (brow bp bq 5 (qaL d aa v flex (Tree.mk n1 s2 b3 l4 u5))) (Nat.le_refl _) dx
   have dA:=TT.ofW (bo.trans bK) aI
   refine ⟨fun _=>dA,?_⟩
   refine qaJ (i:=7) kz (qaS aI dz (k:=0) (d:=66) (t:=22) (e:=5) (size:=1) (bytes:=1) (A:=bz) (As:=bp) (m0:=((be 1 1).length)) (c:=bA) (m:=((qaL d aa v flex (Tree.mk n1 s2 b3 l4 u5)).length)) (cs:=bq) (xs:=(bc (be 1 1))) (news:=bc (qaL d aa v flex (Tree.mk n1 s2 b3 l4 u5))) kz kz rfl (qbA (aI.own 1 _ rfl) (qcm _)) (qbN (aI.own 1 _ rfl)) (by have h9_:=hroom; rw [qcb ‹_› ‹_› ‹_› ‹_›,List.length_append] at h9_; omega) fun aC aD f9 ga dB dC dD=>?_)
   have dE:(⟨aC,aD,5,1,(be 1 1).length + (qaL d aa v flex (Tree.mk n1 s2 b3 l4 u5)).length,bc (be 1 1) ++ bc (qaL d aa v flex (Tree.mk n1 s2 b3 l4 u5))⟩:Rw) = brow aC aD 5 (be 1 1 ++ (qaL d aa v flex (Tree.mk n1 s2 b3 l4 u5))):=qbm (rfl) rfl
   obtain ⟨aJ,dF⟩:=dC.rowEq 0 [brow aC aD 5 (be 1 1 ++ (qaL d aa v flex (Tree.mk n1 s2 b3 l4 u5))),brow bp bq 5 (qaL d aa v flex (Tree.mk n1 s2 b3 l4 u5))] dE
   have dG:=EnvOk.pick dD (ks:=[61,62,63,64,59,65,66]) (env':=[(61,.v (.slice ay aa.length az)),(62,.v (.int .i64 v)),(63,.v (.bool flex)),(64,.v (.agg #[.int .i64 n1,.slice A6 s2.length c7,.bool b3,.slice A8 l4.length c9,.slice aK u5.length aL])),(59,.v (.slice bz ((be 1 1).length) bA)),(65,.v (.slice bp ((qaL d aa v flex (Tree.mk n1 s2 b3 l4 u5)).length) bq)),(66,.v (.slice aC ((be 1 1).length + (qaL d aa v flex (Tree.mk n1 s2 b3 l4 u5)).length) aD))]) kz
   have dH:=dG.cast (env':=[(61,.v (.slice ay aa.length az)),(62,.v (.int .i64 v)),(63,.v (.bool flex)),(64,.v (.agg #[.int .i64 n1,.slice A6 s2.length c7,.bool b3,.slice A8 l4.length c9,.slice aK u5.length aL])),(59,.v (.slice bz ((be 1 1).length) bA)),(65,.v (.slice bp ((qaL d aa v flex (Tree.mk n1 s2 b3 l4 u5)).length) bq)),(66,.v (.slice aC ((be 1 1 ++ (qaL d aa v flex (Tree.mk n1 s2 b3 l4 u5))).length) aD))]) (by simp only [List.length_append,List.length_cons,List.length_nil,Nat.zero_add])
   have dI:=TT.ofW (((bo.trans bK).trans dB).trans dF) aJ
   refine ⟨fun _=>dI,?_⟩
   refine qaJ (i:=8) kz (qbB [8] aJ.cells dH (env':=[(8,.v (.slice aC ((be 1 1 ++ (qaL d aa v flex (Tree.mk n1 s2 b3 l4 u5))).length) aD))]) kz fun gb dJ=>?_)
   refine ⟨fun h=>absurd rfl h,?_⟩
   refine qaN kz ?_ _
   refine qab ?_
   refine wp_ret ?_
   refine qat ?_
   refine qaG dJ aJ.cells (v:=.slice aC ((be 1 1 ++ (qaL d aa v flex (Tree.mk n1 s2 b3 l4 u5))).length) aD) kz ?_
   exact qaU aJ (k:=0) rfl (by first | rw [qcN ‹_› ‹_›] | rw [qcM ‹_› ‹_› ‹_›] | rw [qcb ‹_› ‹_› ‹_› ‹_›] | rw [qcL ‹_› ‹_› ‹_› ‹_›])
  have eU:=of_decide_eq_false bj
  refine wp_skip ?_
  refine qab ?_
  refine qac [0,1,2,3,4,5,6,7,8,9] kz ?_
  refine qai [0,1,2,3,4,5,6,7] [8,9] [(68,.v (.int .i64 ac)),(70,.v (.slice ay aa.length az)),(71,.v (.bool (Fld.nul (Fld.mk ac af ag ae ah ai ab aa) v (Tree.mk n1 s2 b3 l4 u5)))),(72,.v (.int .i64 v)),(73,.v (.bool flex)),(74,.v (.agg #[.int .i64 n1,.slice A6 s2.length c7,.bool b3,.slice A8 l4.length c9,.slice aK u5.length aL]))] aj bi fun gc dK=>?_
  refine qaj (qal dK (f:=51) (vs:=[.int .i64 ac,.slice ay aa.length az,.bool (Fld.nul (Fld.mk ac af ag ae ah ai ab aa) v (Tree.mk n1 s2 b3 l4 u5)),.int .i64 v,.bool flex,.agg #[.int .i64 n1,.slice A6 s2.length c7,.bool b3,.slice A8 l4.length c9,.slice aK u5.length aL]]) (d:=75) kz Tryd.call51 (qhx hp ac _ _ aa (Fld.nul (Fld.mk ac af ag ae ah ai ab aa) v (Tree.mk n1 s2 b3 l4 u5)) v flex _ (Tree.mk n1 s2 b3 l4 u5) _ _ ⟨bw,(b8.move aj.step nilM aj.imm),(fun i_ x_ h_=>((dV i_ x_ h_).move aj.step nilM aj.imm))⟩ hd (ht.move aj.step nilM aj.imm) (by have h_:=hroom; (first | rw [qcN ‹_› ‹_›] at h_ | rw [qcM ‹_› ‹_› ‹_›] at h_); exact h_)) ?_)
  rintro e_ gd ⟨bU,bV,rfl,dL,dM⟩
  refine ⟨_,rfl,fun ge dN=>?_⟩
  obtain ⟨bt,eV⟩:=aj.frFresh dM (brow bU bV 5 (qaD (qaL d aa v flex) ac (Fld.nul (Fld.mk ac af ag ae ah ai ab aa) v (Tree.mk n1 s2 b3 l4 u5)) flex (Tree.mk n1 s2 b3 l4 u5))) (Nat.le_refl _) dL
  refine qai [9] [] [(8,.v (.slice bU ((qaD (qaL d aa v flex) ac (Fld.nul (Fld.mk ac af ag ae ah ai ab aa) v (Tree.mk n1 s2 b3 l4 u5)) flex (Tree.mk n1 s2 b3 l4 u5)).length) bV))] bt dN fun gg dO=>?_
  refine qae (qab ?_)
  refine wp_ret ?_
  refine qaG dO bt.cells (v:=.slice bU ((qaD (qaL d aa v flex) ac (Fld.nul (Fld.mk ac af ag ae ah ai ab aa) v (Tree.mk n1 s2 b3 l4 u5)) flex (Tree.mk n1 s2 b3 l4 u5)).length) bV) kz ?_
  exact qaU bt (k:=0) rfl (by first | rw [qcN ‹_› ‹_›] | rw [qcM ‹_› ‹_› ‹_›] | rw [qcb ‹_› ‹_› ‹_› ‹_›] | rw [qcL ‹_› ‹_› ‹_› ‹_›])
 have eW:ac ≠ 10:=by simpa using aA
 have dP:=bJ.cast (env':=[(1,.v (.int .i64 v)),(2,.v (.bool flex)),(4,.p 0 0),(7,.p 1 0),(9,.v (.bool (Fld.nul (Fld.mk ac af ag ae ah ai ab aa) v (Tree.mk n1 s2 b3 l4 u5)))),(52,.v (.bool false))]) (by rw [aA])
 refine qai [4,5,6,7] [] [(1,.v (.int .i64 v)),(2,.v (.bool flex)),(4,.p 0 0),(7,.p 1 0),(9,.v (.bool (Fld.nul (Fld.mk ac af ag ae ah ai ab aa) v (Tree.mk n1 s2 b3 l4 u5)))),(56,.v (.bool false))] aj dP fun gh bL=>?_
 refine qae (qab ?_)
 refine qar bL (b:=false) kz rfl ?_
 refine wp_skip ?_
 refine qab ?_
 refine qac [0,1,2,3,4,5,6,7,8,9] kz ?_
 refine qai [0,1,2,3,4,5,6,7] [8,9] [(68,.v (.int .i64 ac)),(70,.v (.slice ay aa.length az)),(71,.v (.bool (Fld.nul (Fld.mk ac af ag ae ah ai ab aa) v (Tree.mk n1 s2 b3 l4 u5)))),(72,.v (.int .i64 v)),(73,.v (.bool flex)),(74,.v (.agg #[.int .i64 n1,.slice A6 s2.length c7,.bool b3,.slice A8 l4.length c9,.slice aK u5.length aL]))] aj bL fun gi dQ=>?_
 refine qaj (qal dQ (f:=51) (vs:=[.int .i64 ac,.slice ay aa.length az,.bool (Fld.nul (Fld.mk ac af ag ae ah ai ab aa) v (Tree.mk n1 s2 b3 l4 u5)),.int .i64 v,.bool flex,.agg #[.int .i64 n1,.slice A6 s2.length c7,.bool b3,.slice A8 l4.length c9,.slice aK u5.length aL]]) (d:=75) kz Tryd.call51 (qhx hp ac _ _ aa (Fld.nul (Fld.mk ac af ag ae ah ai ab aa) v (Tree.mk n1 s2 b3 l4 u5)) v flex _ (Tree.mk n1 s2 b3 l4 u5) _ _ ⟨bw,(b8.move aj.step nilM aj.imm),(fun i_ x_ h_=>((dV i_ x_ h_).move aj.step nilM aj.imm))⟩ hd (ht.move aj.step nilM aj.imm) (by have h_:=hroom; (first | rw [qcN ‹_› ‹_›] at h_ | rw [qcM ‹_› ‹_› ‹_›] at h_); exact h_)) ?_)
 rintro e_ gj ⟨bW,bX,rfl,dR,dS⟩
 refine ⟨_,rfl,fun gk dT=>?_⟩
 obtain ⟨bu,eX⟩:=aj.frFresh dS (brow bW bX 5 (qaD (qaL d aa v flex) ac (Fld.nul (Fld.mk ac af ag ae ah ai ab aa) v (Tree.mk n1 s2 b3 l4 u5)) flex (Tree.mk n1 s2 b3 l4 u5))) (Nat.le_refl _) dR
 refine qai [9] [] [(8,.v (.slice bW ((qaD (qaL d aa v flex) ac (Fld.nul (Fld.mk ac af ag ae ah ai ab aa) v (Tree.mk n1 s2 b3 l4 u5)) flex (Tree.mk n1 s2 b3 l4 u5)).length) bX))] bu dT fun gl dU=>?_
 refine qae (qab ?_)
 refine wp_ret ?_
 refine qaG dU bu.cells (v:=.slice bW ((qaD (qaL d aa v flex) ac (Fld.nul (Fld.mk ac af ag ae ah ai ab aa) v (Tree.mk n1 s2 b3 l4 u5)) flex (Tree.mk n1 s2 b3 l4 u5)).length) bX) kz ?_
 exact qaU bu (k:=0) rfl (by first | rw [qcN ‹_› ‹_›] | rw [qcM ‹_› ‹_› ‹_›] | rw [qcb ‹_› ‹_› ‹_› ‹_›] | rw [qcL ‹_› ‹_› ‹_› ‹_›])
theorem qf4 (Af:Option Addr) (cf:Nat) (l:List Fld) (A:Option Addr) (c:Nat) (u:List (Int × Bs)) (w:World) (F:Nat → Nat → Prop) (hl:FldsR w F Af cf l) (hu:TagsR w F A c u) :
  Calls Tryd.prog 33 #[.slice Af l.length cf,.slice A u.length c] w (qiz w F (qag l u)):=by
 obtain ⟨xf,hf1,hf2⟩:=hl.ex
 obtain ⟨xu,hu1,hu2⟩:=hu.ex
 have hsmu:=hu1.small
 have hule:(u.take 32767).length ≤ 32767:=by rw [List.length_take]; omega
 refine enter (n:=85) Tryd.func33 rfl Tryd.ntmps33 kz fun a hE=>?_
 have hW:=WOk.start w Nil
 refine qao [(0,.v (.slice Af l.length cf)),(1,.v (.slice A u.length c))] hW hE fun a1 hE2=>?_
 refine qac [0,1,2] kz ?_
 refine qai [0] [1,2] [(1,.v (.slice A u.length c)),(11,.v (.slice Af l.length cf))] hW hE2 fun a3 hE4=>?_
 refine qaj (qal hE4 (f:=30) (vs:=[.slice Af l.length cf]) (d:=12) kz Tryd.call30 (qiF _ _ l _ _ ⟨xf,(hf1.move hW.step nilM hW.imm),(fun i_ x_ h_=>((hf2 i_ x_ h_).move hW.step nilM hW.imm))⟩) ?_)
 rintro e_ w6 ⟨rfl,hs5⟩
 refine ⟨_,rfl,fun a7 hE8=>?_⟩
 have hW9:=hW.next_nil hs5
 have fB:=hW.frN hs5
 refine qai [2] [] [(1,.v (.slice A u.length c)),(5,.v (.int .u32 (qan l)))] hW9 hE8 fun hK eF=>?_
 refine qae (qab ?_)
 refine qao [(1,.v (.slice A u.length c)),(5,.v (.int .u32 (qan l))),(6,.v (.slice none 0 0))] hW9 eF fun hY eG=>?_
 refine wp_seq ?_
 refine qac [0,1,2,3,4,5,6] kz ?_
 refine qai [0,1,2,3] [4,5,6] [(5,.v (.int .u32 (qan l))),(6,.v (.slice none 0 0)),(13,.v (.slice A u.length c)),(16,.v (.int .i64 (if 32767 < ((u.length:Nat):Int) then 32767 else ((u.length:Nat):Int))))] hW9 eG fun hZ eH=>?_
 refine qaj (qdc eH (t:=24) (A:=A) (m:=u.length) (cp:=c) (q:=(if 32767 < ((u.length:Nat):Int) then 32767 else ((u.length:Nat):Int))) (d:=17) (j:=(u.take 32767).length) kz (e:=62) (size:=2) (bytes:=32) kz (by simpa using qfr u.length) (by rw [List.length_take]; have:=hu1.le; omega) fun ia eI=>?_)
 refine qai [5,6] [] [(5,.v (.int .u32 (qan l))),(6,.v (.slice none 0 0)),(17,.v (.slice A ((u.take 32767).length) c)),(18,.v (.int .i64 (((u.take 32767).length:Nat):Int))),(19,.v (.int .i64 0))] hW9 eI fun ib eJ=>?_
 refine qae (qab ?_)
 refine wp_block ?_
 have cJ:=hW9.addNil 62 2
 have fC:=hW9.frNil 62 2
 refine wp_loop_ghost (fun n_ a_ w_=>∃ (k:Nat) (A_:Option Addr) (c_:Nat) (out:List (Int × Bs)) (css:List (List Value)),n_ = (u.take 32767).length - k ∧ k ≤ (u.take 32767).length ∧ (TagsE w_ (Imm F w w_ [] [⟨A_,c_,62,2,out.length,css.flatten⟩]) out css) ∧ (out = ((u.take 32767).take k).foldl (qbi (qan l)) []) ∧ (out.length ≤ k) ∧ LInv cJ 85 [] [⟨A_,c_,62,2,out.length,css.flatten⟩] [(5,.v (.int .u32 (qan l))),(6,.v (.slice A_ out.length c_)),(17,.v (.slice A ((u.take 32767).length) c)),(18,.v (.int .i64 (((u.take 32767).length:Nat):Int))),(19,.v (.int .i64 ((k:Nat):Int)))] a_ w_) ((u.take 32767).length) ⟨0,none,0,[],[],by omega,by omega,TagsE.nil _ _,rfl,Nat.zero_le _,eJ.pk,cJ,Fr.refl _ _ _⟩ ?_
 rintro ic ig ii ⟨k,A_,c_,out,css,fD,fE,hT,hout,hlen,eK,aO,aR⟩
 refine qao [(5,.v (.int .u32 (qan l))),(6,.v (.slice A_ out.length c_)),(17,.v (.slice A ((u.take 32767).length) c)),(18,.v (.int .i64 (((u.take 32767).length:Nat):Int))),(19,.v (.int .i64 ((k:Nat):Int))),(20,.v (.bool (decide (((k:Nat):Int) < (((u.take 32767).length:Nat):Int)))))] aO eK fun ij cB=>?_
 refine wp_seq ?_
 refine qax cB (b:=decide (((k:Nat):Int) < (((u.take 32767).length:Nat):Int))) kz (fun cC=>?_) (fun cC=>?_)
 ·
  have fF:=of_decide_eq_true cC
  refine wp_skip ?_
  refine qab ?_
  refine wp_seq ?_
  refine wp_block ?_
  refine qac [0,1,2,3] kz ?_
  obtain ⟨fG,fH,eL,fI,bF⟩:=Slots.get (qd9 hu1 32767) (i:=k) (by omega)
  obtain ⟨⟨al,ax⟩,aP⟩:∃ x,(u.take 32767)[k]? = some x:=⟨_,List.getElem?_eq_getElem (by omega)⟩
  obtain ⟨⟨aI,aJ,cK,cL⟩,fb,fe⟩:=(qej hu2 32767) k al ax aP
  rw [cK] at bF
  refine qaj (qas cB (t:=24) (A:=A) (m:=((u.take 32767).length)) (q:=((k:Nat):Int)) (d:=21) kz (e:=62) (size:=2) (bytes:=32) kz eL rfl (by omega) fun ik eM=>?_)
  refine qaj (qaA eM (t:=62) (b:=fG) (o:=fH + k * 2) (d:=22) kz (cs:=[.int .u32 al,.slice aI ax.length aJ]) (v:=.agg #[.int .u32 al,.slice aI ax.length aJ]) kz (AtF.move bF aO.step nilM qaV).at_ fun il eN=>?_)
  refine qaj (qaI aO eN (d:=8) (cs:=[.int .u32 0,.slice none 0 0]) kz fun eO im io fJ fK ac eP eQ=>?_)
  refine qaj (qaw eP eQ (oi:=0) (cs:=[.int .u32 al,.slice aI ax.length aJ]) kz fun ip ae cD eR=>?_)
  refine qae (qab ?_)
  refine qao [(5,.v (.int .u32 (qan l))),(6,.v (.slice A_ out.length c_)),(8,.p 0 0),(9,.v (.int .i64 0)),(17,.v (.slice A ((u.take 32767).length) c)),(18,.v (.int .i64 (((u.take 32767).length:Nat):Int))),(19,.v (.int .i64 ((k:Nat):Int)))] cD eR fun iq eS=>?_
  refine wp_seq ?_
  refine wp_block ?_
  refine wp_loop_ghost (fun n_ a_ w_=>∃ (i:Nat),n_ = out.length - i ∧ (i ≤ out.length) ∧ (∀ q,q < i → (out.getD q (0,[])).1 < al) ∧ LInv cD 85 [⟨eO,0,[.int .u32 al,.slice aI ax.length aJ],true⟩] [⟨A_,c_,62,2,out.length,css.flatten⟩] [(5,.v (.int .u32 (qan l))),(6,.v (.slice A_ out.length c_)),(8,.p 0 0),(9,.v (.int .i64 ((i:Nat):Int))),(17,.v (.slice A ((u.take 32767).length) c)),(18,.v (.int .i64 (((u.take 32767).length:Nat):Int))),(19,.v (.int .i64 ((k:Nat):Int)))] a_ w_) (out.length - 0) ⟨0,rfl,Nat.zero_le _,fun q h_=>absurd h_ (Nat.not_lt_zero q),eS.pk,cD,Fr.refl _ _ _⟩ ?_
  rintro ir iu iv ⟨i,fL,hi,hlt,eU,eV,aa⟩
  refine wp_seq ?_
  refine qbr kz eV fun iw ab aB=>?_
  refine qaM [0,1,2,3,4] [(5,.v (.int .u32 (qan l))),(6,.v (.slice A_ out.length c_)),(8,.p 0 0),(9,.v (.int .i64 ((i:Nat):Int))),(17,.v (.slice A ((u.take 32767).length) c)),(18,.v (.int .i64 (((u.take 32767).length:Nat):Int))),(19,.v (.int .i64 ((k:Nat):Int))),(27,.v (.bool (decide (((i:Nat):Int) < ((out.length:Nat):Int)))))] 9 (qaa (qaa (qaa (qad (qaa (qad (qaa (qaa (qad (qaa qaf)))))))))) (fun _ h=>h ▸ aB.cells) rfl eU fun ix cM=>?_
  refine (Bool.eq_false_or_eq_true (decide (((i:Nat):Int) < ((out.length:Nat):Int)))).elim (fun aN=>?_) (fun aN=>?_)
  ·
   have fM:=of_decide_eq_true aN
   have eW:=cM.cast (env':=[(5,.v (.int .u32 (qan l))),(6,.v (.slice A_ out.length c_)),(8,.p 0 0),(9,.v (.int .i64 ((i:Nat):Int))),(17,.v (.slice A ((u.take 32767).length) c)),(18,.v (.int .i64 (((u.take 32767).length:Nat):Int))),(19,.v (.int .i64 ((k:Nat):Int))),(27,.v (.bool true))]) (by rw [aN])
   refine qaM [5,6,10,11] [(5,.v (.int .u32 (qan l))),(6,.v (.slice A_ out.length c_)),(8,.p 0 0),(9,.v (.int .i64 ((i:Nat):Int))),(17,.v (.slice A ((u.take 32767).length) c)),(18,.v (.int .i64 (((u.take 32767).length:Nat):Int))),(19,.v (.int .i64 ((k:Nat):Int))),(27,.v (.bool true)),(28,.v (.slice A_ out.length c_)),(29,.v (.int .i64 ((i:Nat):Int))),(34,.v (.int .u32 al))] 5 (qaa (qaa (qaa (qad (qaa (qad (qaa (qaa (qad (qaa qaf)))))))))) (fun _ h=>h ▸ aB.cells) rfl eW fun iy eX=>?_
   obtain ⟨eY,cN⟩:=qbS (aB.own 0 _ rfl) (show 0 < out.length by omega)
   obtain ⟨⟨eE,iz⟩,bu⟩:∃ x,out[i]? = some x:=⟨_,List.getElem?_eq_getElem (by omega)⟩
   obtain ⟨iA,iB,eZ,fN,iC,iD⟩:=TagsE.get2 (hT.move (((ac.trans ae).trans aa).trans ab).step immM (((ac.trans ae).trans aa).trans ab).to') bu
   have cO:=qfN (aB.own 0 _ rfl) cN (qcQ (hT.move (((ac.trans ae).trans aa).trans ab).step immM (((ac.trans ae).trans aa).trans ab).to').two eZ)
   refine qaW eX (i:=7) (t:=24) (A:=A_) (m:=out.length) (q:=((i:Nat):Int)) (d:=30) kz (e:=62) (size:=2) (bytes:=32) kz (b:=eY) (o:=0) (j:=i) cN (rfl) (by omega) kz kz (qaa (qaa (qaa (qad (qaa (qad (qaa (qaa (qad (qaa qaf)))))))))) rfl fun iE e9=>?_
   refine qaM [8] [(5,.v (.int .u32 (qan l))),(6,.v (.slice A_ out.length c_)),(8,.p 0 0),(9,.v (.int .i64 ((i:Nat):Int))),(17,.v (.slice A ((u.take 32767).length) c)),(18,.v (.int .i64 (((u.take 32767).length:Nat):Int))),(19,.v (.int .i64 ((k:Nat):Int))),(27,.v (.bool true)),(31,.v (.pointer (some ⟨eY,0 + i * 2,none⟩))),(34,.v (.int .u32 al))] 3 (qaa (qaa (qaa (qad (qaa (qad (qaa (qaa (qad (qaa qaf)))))))))) (fun _ h=>h ▸ aB.cells) rfl e9 fun iF fa=>?_
   refine qa4 fa (i:=9) (t:=59) (b:=eY) (o:=0 + i * 2) (d:=32) kz (cs:=[.int .u32 eE]) (v:=.int .u32 eE) kz (fun w' h'=>h' ▸ (At.drop cO 0 1)) kz kz (qaa (qaa (qaa (qad (qaa (qad (qaa (qaa (qad (qaa qaf)))))))))) rfl fun fO cP=>?_
   refine qaM [12,13] [(5,.v (.int .u32 (qan l))),(6,.v (.slice A_ out.length c_)),(8,.p 0 0),(9,.v (.int .i64 ((i:Nat):Int))),(17,.v (.slice A ((u.take 32767).length) c)),(18,.v (.int .i64 (((u.take 32767).length:Nat):Int))),(19,.v (.int .i64 ((k:Nat):Int))),(36,.v (.bool (decide (eE < al))))] 0 (qaa (qaa (qaa (qad (qaa (qad (qaa (qaa (qad (qaa qaf)))))))))) (fun _ h=>h ▸ aB.cells) rfl cP fun fP aS=>?_
   refine qaN kz ?_ _
   refine qab ?_
   refine qax aS (b:=decide (eE < al)) kz (fun aT=>?_) (fun aT=>?_)
   ·
    have ff:=of_decide_eq_true aT
    refine wp_skip ?_
    refine qab ?_
    refine wp_block ?_
    refine qap [0,1,2] kz ?_
    refine qai [0,1,2] [] [(5,.v (.int .u32 (qan l))),(6,.v (.slice A_ out.length c_)),(8,.p 0 0),(9,.v (.int .i64 (IntKind.i64.wrap (((i:Nat):Int) + 1)))),(17,.v (.slice A ((u.take 32767).length) c)),(18,.v (.int .i64 (((u.take 32767).length:Nat):Int))),(19,.v (.int .i64 ((k:Nat):Int)))] aB aS fun fQ bG=>?_
    refine qae ?_
    refine qav ?_
    refine qab ?_
    have cQ:IntKind.i64.wrap (((i:Nat):Int) + 1) = ((i + 1:Nat):Int):=qaO (by omega)
    rw [cQ] at bG
    exact ⟨out.length - (i + 1),by omega,(i + 1),rfl,by omega,fun q hq=>by rcases Nat.lt_succ_iff_lt_or_eq.1 hq with h_ | h_; exact hlt q h_; rw [h_,qg6 bu]; assumption,bG.pk,aB,(aa.trans ab)⟩
   have fg:=of_decide_eq_false aT
   refine wp_exit ?_
   refine qau ?_
   refine qau ?_
   refine qaH ?_
   refine qab ?_
   refine wp_seq ?_
   refine qbr kz aB fun fR af ap=>?_
   refine qaM [0,1,2,3,4] [(5,.v (.int .u32 (qan l))),(6,.v (.slice A_ out.length c_)),(8,.p 0 0),(9,.v (.int .i64 ((i:Nat):Int))),(17,.v (.slice A ((u.take 32767).length) c)),(18,.v (.int .i64 (((u.take 32767).length:Nat):Int))),(19,.v (.int .i64 ((k:Nat):Int))),(43,.v (.bool (decide (al < (qan l)))))] 15 (qaa (qaa (qad (qaa (qaa (qad (qaa qaf))))))) (fun _ h=>h ▸ ap.cells) rfl aS fun fS bH=>?_
   refine (Bool.eq_false_or_eq_true (decide (al < (qan l)))).elim (fun aK=>?_) (fun aK=>?_)
   ·
    have fh:=of_decide_eq_true aK
    have cR:=bH.cast (env':=[(5,.v (.int .u32 (qan l))),(6,.v (.slice A_ out.length c_)),(8,.p 0 0),(9,.v (.int .i64 ((i:Nat):Int))),(17,.v (.slice A ((u.take 32767).length) c)),(18,.v (.int .i64 (((u.take 32767).length:Nat):Int))),(19,.v (.int .i64 ((k:Nat):Int))),(43,.v (.bool true))]) (by rw [aK])
    refine qaM [5,6,7,8,9,10,11,12,13,14,15,16,17,18,19] [(5,.v (.int .u32 (qan l))),(6,.v (.slice A_ out.length c_)),(8,.p 0 0),(9,.v (.int .i64 ((i:Nat):Int))),(17,.v (.slice A ((u.take 32767).length) c)),(18,.v (.int .i64 (((u.take 32767).length:Nat):Int))),(19,.v (.int .i64 ((k:Nat):Int))),(58,.v (.bool true))] 0 (qaa (qaa (qad (qaa (qaa (qad (qaa qaf))))))) (fun _ h=>h ▸ ap.cells) rfl cR fun fT bI=>?_
    refine qaN kz ?_ _
    refine qab ?_
    refine qbb bI (b:=true) kz rfl ?_
    refine wp_exit ?_
    refine qau ?_
    refine qaH ?_
    refine qab ?_
    refine qap [0,1] kz ?_
    refine qai [0,1] [] [(5,.v (.int .u32 (qan l))),(6,.v (.slice A_ out.length c_)),(17,.v (.slice A ((u.take 32767).length) c)),(18,.v (.int .i64 (((u.take 32767).length:Nat):Int))),(19,.v (.int .i64 (IntKind.i64.wrap (((k:Nat):Int) + 1))))] ap bI fun fU cS=>?_
    refine qae (qab ?_)
    obtain ⟨bJ,cT,aU⟩:=ap.cutB cS 0 [] [(5,.v (.int .u32 (qan l))),(6,.v (.slice A_ out.length c_)),(17,.v (.slice A ((u.take 32767).length) c)),(18,.v (.int .i64 (((u.take 32767).length:Nat):Int))),(19,.v (.int .i64 (IntKind.i64.wrap (((k:Nat):Int) + 1))))]
    have cU:IntKind.i64.wrap (((k:Nat):Int) + 1) = ((k + 1:Nat):Int):=qaO (by omega)
    rw [cU] at bJ
    exact ⟨(u.take 32767).length - (k + 1),by omega,k + 1,A_,c_,out,css,rfl,by omega,(hT.move (((((ac.trans ae).trans aa).trans ab).trans af).trans aU).step immM (((((ac.trans ae).trans aa).trans ab).trans af).trans aU).to'),by rw [qbs aP,← hout]; exact (qg7 ‹_›).symm,by omega,bJ.pk,cT,((((((aR.trans ac).trans ae).trans aa).trans ab).trans af).trans aU)⟩
   have fi:=of_decide_eq_false aK
   have cV:=bH.cast (env':=[(5,.v (.int .u32 (qan l))),(6,.v (.slice A_ out.length c_)),(8,.p 0 0),(9,.v (.int .i64 ((i:Nat):Int))),(17,.v (.slice A ((u.take 32767).length) c)),(18,.v (.int .i64 (((u.take 32767).length:Nat):Int))),(19,.v (.int .i64 ((k:Nat):Int))),(43,.v (.bool false))]) (by rw [aK])
   refine qaM [5,6,7,8,9] [(5,.v (.int .u32 (qan l))),(6,.v (.slice A_ out.length c_)),(8,.p 0 0),(9,.v (.int .i64 ((i:Nat):Int))),(17,.v (.slice A ((u.take 32767).length) c)),(18,.v (.int .i64 (((u.take 32767).length:Nat):Int))),(19,.v (.int .i64 ((k:Nat):Int))),(43,.v (.bool false)),(48,.v (.bool (decide (((i:Nat):Int) < ((out.length:Nat):Int)))))] 10 (qaa (qaa (qad (qaa (qaa (qad (qaa qaf))))))) (fun _ h=>h ▸ ap.cells) rfl cV fun fV cW=>?_
   have cX:(decide (((i:Nat):Int) < ((out.length:Nat):Int))) = true:=aN
   have cY:=cW.cast (env':=[(5,.v (.int .u32 (qan l))),(6,.v (.slice A_ out.length c_)),(8,.p 0 0),(9,.v (.int .i64 ((i:Nat):Int))),(17,.v (.slice A ((u.take 32767).length) c)),(18,.v (.int .i64 (((u.take 32767).length:Nat):Int))),(19,.v (.int .i64 ((k:Nat):Int))),(43,.v (.bool false)),(48,.v (.bool true))]) (by rw [cX])
   refine qaM [10,11,15,16] [(5,.v (.int .u32 (qan l))),(6,.v (.slice A_ out.length c_)),(8,.p 0 0),(9,.v (.int .i64 ((i:Nat):Int))),(17,.v (.slice A ((u.take 32767).length) c)),(18,.v (.int .i64 (((u.take 32767).length:Nat):Int))),(19,.v (.int .i64 ((k:Nat):Int))),(43,.v (.bool false)),(48,.v (.bool true)),(49,.v (.slice A_ out.length c_)),(50,.v (.int .i64 ((i:Nat):Int))),(55,.v (.int .u32 al))] 6 (qaa (qaa (qad (qaa (qaa (qad (qaa qaf))))))) (fun _ h=>h ▸ ap.cells) rfl cY fun fW cZ=>?_
   obtain ⟨cE,bK⟩:=qbS (ap.own 0 _ rfl) (show 0 < out.length by omega)
   obtain ⟨⟨aQ,fX⟩,aL⟩:∃ x,out[i]? = some x:=⟨_,List.getElem?_eq_getElem (by omega)⟩
   obtain ⟨fY,fZ,c5,fj,f5,f7⟩:=TagsE.get2 (hT.move ((((ac.trans ae).trans aa).trans ab).trans af).step immM ((((ac.trans ae).trans aa).trans ab).trans af).to') aL
   have cG:=qfN (ap.own 0 _ rfl) bK (qcQ (hT.move ((((ac.trans ae).trans aa).trans ab).trans af).step immM ((((ac.trans ae).trans aa).trans ab).trans af).to').two c5)
   refine qaW cZ (i:=12) (t:=24) (A:=A_) (m:=out.length) (q:=((i:Nat):Int)) (d:=51) kz (e:=62) (size:=2) (bytes:=32) kz (b:=cE) (o:=0) (j:=i) bK (rfl) (by omega) kz kz (qaa (qaa (qad (qaa (qaa (qad (qaa qaf))))))) rfl fun f8 c6=>?_
   refine qaM [13] [(5,.v (.int .u32 (qan l))),(6,.v (.slice A_ out.length c_)),(8,.p 0 0),(9,.v (.int .i64 ((i:Nat):Int))),(17,.v (.slice A ((u.take 32767).length) c)),(18,.v (.int .i64 (((u.take 32767).length:Nat):Int))),(19,.v (.int .i64 ((k:Nat):Int))),(43,.v (.bool false)),(48,.v (.bool true)),(52,.v (.pointer (some ⟨cE,0 + i * 2,none⟩))),(55,.v (.int .u32 al))] 4 (qaa (qaa (qad (qaa (qaa (qad (qaa qaf))))))) (fun _ h=>h ▸ ap.cells) rfl c6 fun f9 da=>?_
   refine qa4 da (i:=14) (t:=59) (b:=cE) (o:=0 + i * 2) (d:=53) kz (cs:=[.int .u32 aQ]) (v:=.int .u32 aQ) kz (fun w' h'=>h' ▸ (At.drop cG 0 1)) kz kz (qaa (qaa (qad (qaa (qaa (qad (qaa qaf))))))) rfl fun ga db=>?_
   refine qaM [17,18,19] [(5,.v (.int .u32 (qan l))),(6,.v (.slice A_ out.length c_)),(8,.p 0 0),(9,.v (.int .i64 ((i:Nat):Int))),(17,.v (.slice A ((u.take 32767).length) c)),(18,.v (.int .i64 (((u.take 32767).length:Nat):Int))),(19,.v (.int .i64 ((k:Nat):Int))),(58,.v (.bool (aQ == al)))] 0 (qaa (qaa (qad (qaa (qaa (qad (qaa qaf))))))) (fun _ h=>h ▸ ap.cells) rfl db fun gb aV=>?_
   refine qaN kz ?_ _
   refine qab ?_
   refine qax aV (b:=aQ == al) kz (fun aW=>?_) (fun aW=>?_)
   ·
    have fk:aQ = al:=by simpa using aW
    refine wp_exit ?_
    refine qau ?_
    refine qaH ?_
    refine qab ?_
    refine qap [0,1] kz ?_
    refine qai [0,1] [] [(5,.v (.int .u32 (qan l))),(6,.v (.slice A_ out.length c_)),(17,.v (.slice A ((u.take 32767).length) c)),(18,.v (.int .i64 (((u.take 32767).length:Nat):Int))),(19,.v (.int .i64 (IntKind.i64.wrap (((k:Nat):Int) + 1))))] ap aV fun gc dc=>?_
    refine qae (qab ?_)
    obtain ⟨bL,de,aX⟩:=ap.cutB dc 0 [] [(5,.v (.int .u32 (qan l))),(6,.v (.slice A_ out.length c_)),(17,.v (.slice A ((u.take 32767).length) c)),(18,.v (.int .i64 (((u.take 32767).length:Nat):Int))),(19,.v (.int .i64 (IntKind.i64.wrap (((k:Nat):Int) + 1))))]
    have dg:IntKind.i64.wrap (((k:Nat):Int) + 1) = ((k + 1:Nat):Int):=qaO (by omega)
    rw [dg] at bL
    exact ⟨(u.take 32767).length - (k + 1),by omega,k + 1,A_,c_,out,css,rfl,by omega,(hT.move (((((ac.trans ae).trans aa).trans ab).trans af).trans aX).step immM (((((ac.trans ae).trans aa).trans ab).trans af).trans aX).to'),by rw [qbs aP,← hout]; exact (qh6 (qd8 hi hlt (fun _=>by rw [qcR aL]; omega)) (by omega) (by rw [qcR aL]; omega)).symm,by omega,bL.pk,de,((((((aR.trans ac).trans ae).trans aa).trans ab).trans af).trans aX)⟩
   have fl:aQ ≠ al:=by simpa using aW
   refine wp_skip ?_
   refine qab ?_
   refine qac [0,1,2,3,4] kz ?_
   refine qai [0,1] [2,3,4] [(5,.v (.int .u32 (qan l))),(8,.p 0 0),(9,.v (.int .i64 ((i:Nat):Int))),(17,.v (.slice A ((u.take 32767).length) c)),(18,.v (.int .i64 (((u.take 32767).length:Nat):Int))),(19,.v (.int .i64 ((k:Nat):Int))),(59,.v (.slice A_ out.length c_)),(60,.v (.agg #[.int .u32 0,.slice none 0 0]))] ap aV fun gd dh=>?_
   refine qbI ap dh (k:=0) (e:=62) (size:=2) (len:=1) (cs:=[.int .u32 0,.slice none 0 0]) (d1:=61) (d:=62) kz (t:=24) (bytes:=32) kz (fun _=>by kernel_rfl) rfl kz (by omega) fun ag ai ge gg am aY ⟨_,di⟩=>?_
   refine qai [4] [] [(5,.v (.int .u32 (qan l))),(6,.v (.slice ag (out.length + 1) ai)),(8,.p 0 0),(9,.v (.int .i64 ((i:Nat):Int))),(17,.v (.slice A ((u.take 32767).length) c)),(18,.v (.int .i64 (((u.take 32767).length:Nat):Int))),(19,.v (.int .i64 ((k:Nat):Int)))] aY di fun gh dj=>?_
   refine qae (qab ?_)
   refine wp_seq ?_
   refine qao [(5,.v (.int .u32 (qan l))),(6,.v (.slice ag (out.length + 1) ai)),(8,.p 0 0),(9,.v (.int .i64 ((i:Nat):Int))),(10,.v (.int .i64 (IntKind.i64.wrap (((out.length + 1:Nat):Int) - 1)))),(17,.v (.slice A ((u.take 32767).length) c)),(18,.v (.int .i64 (((u.take 32767).length:Nat):Int))),(19,.v (.int .i64 ((k:Nat):Int)))] aY dj fun gi bM=>?_
   refine wp_block ?_
   have hcl0:=(hT.move (((((ac.trans ae).trans aa).trans ab).trans af).trans am).step immM (((((ac.trans ae).trans aa).trans ab).trans af).trans am).to').len
   have dl:(⟨ag,ai,62,2,out.length + 1,css.flatten ++ [.int .u32 0,.slice none 0 0]⟩:Rw) = ⟨ag,ai,62,2,out.length + 1,(qbh css [.int .u32 0,.slice none 0 0] out.length).flatten⟩:=by rw [qfP hcl0]
   obtain ⟨bN,av⟩:=aY.rowEq 0 [⟨ag,ai,62,2,out.length + 1,(qbh css [.int .u32 0,.slice none 0 0] out.length).flatten⟩] dl
   have dp:IntKind.i64.wrap (((out.length + 1:Nat):Int) - 1) = ((out.length:Nat):Int):=by rw [wrap_i64 (by omega) (by omega)]; omega
   rw [dp] at bM
   refine wp_loop_ghost (fun n_ a_ w_=>∃ (j:Nat),n_ = j ∧ (i ≤ j) ∧ (j ≤ out.length) ∧ LInv bN 85 [⟨eO,0,[.int .u32 al,.slice aI ax.length aJ],true⟩] [⟨ag,ai,62,2,out.length + 1,(qbh css [.int .u32 0,.slice none 0 0] j).flatten⟩] [(5,.v (.int .u32 (qan l))),(6,.v (.slice ag (out.length + 1) ai)),(8,.p 0 0),(9,.v (.int .i64 ((i:Nat):Int))),(10,.v (.int .i64 ((j:Nat):Int))),(17,.v (.slice A ((u.take 32767).length) c)),(18,.v (.int .i64 (((u.take 32767).length:Nat):Int))),(19,.v (.int .i64 ((k:Nat):Int)))] a_ w_) (out.length) ⟨out.length,rfl,hi,Nat.le_refl _,bM.pk,bN,Fr.refl _ _ _⟩ ?_
   rintro gj gk gl ⟨j,fm,hij,hjl,dq,ay,ar⟩
   refine wp_seq ?_
   refine qao [(5,.v (.int .u32 (qan l))),(6,.v (.slice ag (out.length + 1) ai)),(8,.p 0 0),(9,.v (.int .i64 ((i:Nat):Int))),(10,.v (.int .i64 ((j:Nat):Int))),(17,.v (.slice A ((u.take 32767).length) c)),(18,.v (.int .i64 (((u.take 32767).length:Nat):Int))),(19,.v (.int .i64 ((k:Nat):Int))),(68,.v (.bool (decide (((j:Nat):Int) > ((i:Nat):Int)))))] ay dq fun gm aZ=>?_
   refine qax aZ (b:=decide (((j:Nat):Int) > ((i:Nat):Int))) kz (fun ba=>?_) (fun ba=>?_)
   ·
    have fo:=of_decide_eq_true ba
    refine wp_skip ?_
    refine qab ?_
    refine wp_seq ?_
    refine wp_block ?_
    refine qap [0,1,2,3,4,5,6,7,8] kz ?_
    refine qai [0,1,2,3,4] [5,6,7,8] [(5,.v (.int .u32 (qan l))),(6,.v (.slice ag (out.length + 1) ai)),(8,.p 0 0),(9,.v (.int .i64 ((i:Nat):Int))),(10,.v (.int .i64 ((j:Nat):Int))),(17,.v (.slice A ((u.take 32767).length) c)),(18,.v (.int .i64 (((u.take 32767).length:Nat):Int))),(19,.v (.int .i64 ((k:Nat):Int))),(71,.v (.slice ag (out.length + 1) ai)),(72,.v (.int .i64 ((j:Nat):Int))),(73,.v (.slice ag (out.length + 1) ai)),(75,.v (.int .i64 (IntKind.i64.wrap (((j:Nat):Int) - 1))))] ay aZ fun gn dr=>?_
    obtain ⟨dt,bO⟩:=qbS (ay.own 0 _ rfl) (show 0 < out.length + 1 by omega)
    obtain ⟨⟨bw,bx⟩,du⟩:∃ x,out[j - 1]? = some x:=⟨_,List.getElem?_eq_getElem (by omega)⟩
    obtain ⟨bz,bA,bP,fq,gp,gq⟩:=TagsE.get2 (hT.move (((((((ac.trans ae).trans aa).trans ab).trans af).trans am).trans av).trans ar).step immM (((((((ac.trans ae).trans aa).trans ab).trans af).trans am).trans av).trans ar).to') du
    have cH:=qfN (ay.own 0 _ rfl) bO (qcQ (qdw (hT.move (((((((ac.trans ae).trans aa).trans ab).trans af).trans am).trans av).trans ar).step immM (((((((ac.trans ae).trans aa).trans ab).trans af).trans am).trans av).trans ar).to').two rfl j) (qe8 (show j - 1 < j by omega) bP))
    refine qaj (qas dr (t:=24) (A:=ag) (m:=(out.length + 1)) (q:=(IntKind.i64.wrap (((j:Nat):Int) - 1))) (d:=76) kz (e:=62) (size:=2) (bytes:=32) kz (b:=dt) (o:=0) (j:=(j - 1)) bO (by rw [wrap_i64 (by omega) (by omega)]; omega) (by omega) fun gt dv=>?_)
    refine qaj (qaA dv (t:=62) (b:=dt) (o:=0 + (j - 1) * 2) (d:=77) kz (cs:=[.int .u32 bw,.slice bz bx.length bA]) (v:=.agg #[.int .u32 bw,.slice bz bx.length bA]) kz cH fun gv dw=>?_)
    obtain ⟨dx,bQ⟩:=qbS (ay.own 0 _ rfl) (show 0 < out.length + 1 by omega)
    refine qaj (qas dw (t:=24) (A:=ag) (m:=(out.length + 1)) (q:=((j:Nat):Int)) (d:=78) kz (e:=62) (size:=2) (bytes:=32) kz (b:=dx) (o:=0) (j:=j) bQ (rfl) (by omega) fun gw dy=>?_)
    refine qaj (qch ay dy (k:=0) (g:=dx) (o:=j * 2) (c:=ai) (m:=(out.length + 1)) (size:=2) (e:=62) (A:=ag) (xs:=((qbh css [.int .u32 0,.slice none 0 0] j).flatten)) (vs:=[.int .u32 bw,.slice bz bx.length bA]) kz rfl bQ (by simp only [List.length_cons,List.length_nil]; omega) fun gx bd bR dz=>?_)
    refine qae ?_
    refine qav ?_
    refine qab ?_
    refine qap [0,1,2] kz ?_
    refine qai [0,1,2] [] [(5,.v (.int .u32 (qan l))),(6,.v (.slice ag (out.length + 1) ai)),(8,.p 0 0),(9,.v (.int .i64 ((i:Nat):Int))),(10,.v (.int .i64 (IntKind.i64.wrap (((j:Nat):Int) - 1)))),(17,.v (.slice A ((u.take 32767).length) c)),(18,.v (.int .i64 (((u.take 32767).length:Nat):Int))),(19,.v (.int .i64 ((k:Nat):Int)))] bR dz fun gy bS=>?_
    refine qae (qab ?_)
    have dA:(⟨ag,ai,62,2,out.length + 1,qa6 ((qbh css [.int .u32 0,.slice none 0 0] j).flatten) (j * 2) [.int .u32 bw,.slice bz bx.length bA]⟩:Rw) = ⟨ag,ai,62,2,out.length + 1,(qbh css [.int .u32 0,.slice none 0 0] (j - 1)).flatten⟩:=by rw [qe9 (hT.move ((((((((ac.trans ae).trans aa).trans ab).trans af).trans am).trans av).trans ar).trans bd).step immM ((((((((ac.trans ae).trans aa).trans ab).trans af).trans am).trans av).trans ar).trans bd).to').two rfl (by omega) (by omega) bP]
    obtain ⟨dB,dC⟩:=bR.rowEq 0 [⟨ag,ai,62,2,out.length + 1,(qbh css [.int .u32 0,.slice none 0 0] (j - 1)).flatten⟩] dA
    have dD:IntKind.i64.wrap (((j:Nat):Int) - 1) = ((j - 1:Nat):Int):=by rw [wrap_i64 (by omega) (by omega)]; omega
    rw [dD] at bS
    exact ⟨(j - 1),by omega,(j - 1),rfl,by omega,by omega,bS.pk,dB,((ar.trans bd).trans dC)⟩
   have fr:=of_decide_eq_false ba
   refine wp_exit ?_
   refine qau ?_
   refine qau ?_
   refine qaH ?_
   refine qab ?_
   refine qap [0,1,2,3,4] kz ?_
   refine qai [0,1,2] [3,4] [(5,.v (.int .u32 (qan l))),(6,.v (.slice ag (out.length + 1) ai)),(17,.v (.slice A ((u.take 32767).length) c)),(18,.v (.int .i64 (((u.take 32767).length:Nat):Int))),(19,.v (.int .i64 ((k:Nat):Int))),(79,.v (.slice ag (out.length + 1) ai)),(80,.v (.int .i64 ((i:Nat):Int))),(81,.v (.agg #[.int .u32 al,.slice aI ax.length aJ]))] ay aZ fun gz dE=>?_
   have hji:j = i:=by omega
   have dF:(⟨ag,ai,62,2,out.length + 1,(qbh css [.int .u32 0,.slice none 0 0] j).flatten⟩:Rw) = ⟨ag,ai,62,2,out.length + 1,(qbh css [.int .u32 0,.slice none 0 0] i).flatten⟩:=by rw [hji]
   obtain ⟨bT,aC⟩:=ay.rowEq 0 [⟨ag,ai,62,2,out.length + 1,(qbh css [.int .u32 0,.slice none 0 0] i).flatten⟩] dF
   obtain ⟨dG,bU⟩:=qbS (bT.own 0 _ rfl) (show 0 < out.length + 1 by omega)
   refine qaj (qas dE (t:=24) (A:=ag) (m:=(out.length + 1)) (q:=((i:Nat):Int)) (d:=82) kz (e:=62) (size:=2) (bytes:=32) kz (b:=dG) (o:=0) (j:=i) bU (rfl) (by omega) fun gA dH=>?_)
   refine qaj (qch bT dH (k:=0) (g:=dG) (o:=i * 2) (c:=ai) (m:=(out.length + 1)) (size:=2) (e:=62) (A:=ag) (xs:=((qbh css [.int .u32 0,.slice none 0 0] i).flatten)) (vs:=[.int .u32 al,.slice aI ax.length aJ]) kz rfl bU (by simp only [List.length_cons,List.length_nil]; omega) fun gB aD bV dI=>?_)
   refine qae ?_
   refine qav ?_
   refine qab ?_
   refine qap [0,1] kz ?_
   refine qai [0,1] [] [(5,.v (.int .u32 (qan l))),(6,.v (.slice ag (out.length + 1) ai)),(17,.v (.slice A ((u.take 32767).length) c)),(18,.v (.int .i64 (((u.take 32767).length:Nat):Int))),(19,.v (.int .i64 (IntKind.i64.wrap (((k:Nat):Int) + 1))))] bV dI fun gC dJ=>?_
   refine qae (qab ?_)
   obtain ⟨bf,dK,aE⟩:=bV.cutB dJ 0 [] [(5,.v (.int .u32 (qan l))),(6,.v (.slice ag (out.length + 1) ai)),(17,.v (.slice A ((u.take 32767).length) c)),(18,.v (.int .i64 (((u.take 32767).length:Nat):Int))),(19,.v (.int .i64 (IntKind.i64.wrap (((k:Nat):Int) + 1))))]
   have hcl:=(hT.move ((((((((((ac.trans ae).trans aa).trans ab).trans af).trans am).trans av).trans ar).trans aC).trans aD).trans aE).step immM ((((((((((ac.trans ae).trans aa).trans ab).trans af).trans am).trans av).trans ar).trans aC).trans aD).trans aE).to').len
   have dL:(⟨ag,ai,62,2,out.length + 1,qa6 ((qbh css [.int .u32 0,.slice none 0 0] i).flatten) (i * 2) [.int .u32 al,.slice aI ax.length aJ]⟩:Rw) = ⟨ag,ai,62,2,(out.take i ++ (al,ax) :: out.drop i).length,(css.take i ++ [.int .u32 al,.slice aI ax.length aJ] :: css.drop i).flatten⟩:=by rw [qfa (hT.move ((((((((((ac.trans ae).trans aa).trans ab).trans af).trans am).trans av).trans ar).trans aC).trans aD).trans aE).step immM ((((((((((ac.trans ae).trans aa).trans ab).trans af).trans am).trans av).trans ar).trans aC).trans aD).trans aE).to').two rfl (by omega) rfl,qbU (al,ax) hi]
   obtain ⟨bg,bh⟩:=dK.rowEq 0 [⟨ag,ai,62,2,(out.take i ++ (al,ax) :: out.drop i).length,(css.take i ++ [.int .u32 al,.slice aI ax.length aJ] :: css.drop i).flatten⟩] dL
   have dM:IntKind.i64.wrap (((k:Nat):Int) + 1) = ((k + 1:Nat):Int):=qaO (by omega)
   rw [dM] at bf
   have dN:out.length + 1 = (out.take i ++ (al,ax) :: out.drop i).length:=qbU (al,ax) hi
   rw [dN] at bf
   exact ⟨(u.take 32767).length - (k + 1),by omega,k + 1,ag,ai,(out.take i ++ (al,ax) :: out.drop i),(css.take i ++ [.int .u32 al,.slice aI ax.length aJ] :: css.drop i),rfl,by omega,(hT.move (((((((((((ac.trans ae).trans aa).trans ab).trans af).trans am).trans av).trans ar).trans aC).trans aD).trans aE).trans bh).step immM (((((((((((ac.trans ae).trans aa).trans ab).trans af).trans am).trans av).trans ar).trans aC).trans aD).trans aE).trans bh).to').ins ⟨⟨aI,aJ,rfl,(cL.move bg.step nilM bg.imm)⟩,fb,fe⟩ hi,by rw [qbs aP,← hout]; exact (qg8 (qd8 hi hlt (fun _=>by first | (rw [qcR bu]; omega) | (rw [qcR aL]; omega))) ‹_› (fun _=>by first | (rw [qcR bu]; omega) | (rw [qcR aL]; omega))).symm,by rw [← qbU (al,ax) hi]; omega,bf.pk,bg,((((((((((((aR.trans ac).trans ae).trans aa).trans ab).trans af).trans am).trans av).trans ar).trans aC).trans aD).trans aE).trans bh)⟩
  have ft:=of_decide_eq_false aN
  have dO:=cM.cast (env':=[(5,.v (.int .u32 (qan l))),(6,.v (.slice A_ out.length c_)),(8,.p 0 0),(9,.v (.int .i64 ((i:Nat):Int))),(17,.v (.slice A ((u.take 32767).length) c)),(18,.v (.int .i64 (((u.take 32767).length:Nat):Int))),(19,.v (.int .i64 ((k:Nat):Int))),(27,.v (.bool false))]) (by rw [aN])
  refine qaM [5,6,7,8,9,10,11,12,13] [(5,.v (.int .u32 (qan l))),(6,.v (.slice A_ out.length c_)),(8,.p 0 0),(9,.v (.int .i64 ((i:Nat):Int))),(17,.v (.slice A ((u.take 32767).length) c)),(18,.v (.int .i64 (((u.take 32767).length:Nat):Int))),(19,.v (.int .i64 ((k:Nat):Int))),(36,.v (.bool false))] 0 (qaa (qaa (qaa (qad (qaa (qad (qaa (qaa (qad (qaa qaf)))))))))) (fun _ h=>h ▸ aB.cells) rfl dO fun gD bW=>?_
  refine qaN kz ?_ _
  refine qab ?_
  refine qar bW (b:=false) kz rfl ?_
  refine wp_exit ?_
  refine qau ?_
  refine qau ?_
  refine qaH ?_
  refine qab ?_
  refine wp_seq ?_
  refine qbr kz aB fun gE ak az=>?_
  refine qaM [0,1,2,3,4] [(5,.v (.int .u32 (qan l))),(6,.v (.slice A_ out.length c_)),(8,.p 0 0),(9,.v (.int .i64 ((i:Nat):Int))),(17,.v (.slice A ((u.take 32767).length) c)),(18,.v (.int .i64 (((u.take 32767).length:Nat):Int))),(19,.v (.int .i64 ((k:Nat):Int))),(43,.v (.bool (decide (al < (qan l)))))] 15 (qaa (qaa (qad (qaa (qaa (qad (qaa qaf))))))) (fun _ h=>h ▸ az.cells) rfl bW fun gF bX=>?_
  refine (Bool.eq_false_or_eq_true (decide (al < (qan l)))).elim (fun aM=>?_) (fun aM=>?_)
  ·
   have fu:=of_decide_eq_true aM
   have dP:=bX.cast (env':=[(5,.v (.int .u32 (qan l))),(6,.v (.slice A_ out.length c_)),(8,.p 0 0),(9,.v (.int .i64 ((i:Nat):Int))),(17,.v (.slice A ((u.take 32767).length) c)),(18,.v (.int .i64 (((u.take 32767).length:Nat):Int))),(19,.v (.int .i64 ((k:Nat):Int))),(43,.v (.bool true))]) (by rw [aM])
   refine qaM [5,6,7,8,9,10,11,12,13,14,15,16,17,18,19] [(5,.v (.int .u32 (qan l))),(6,.v (.slice A_ out.length c_)),(8,.p 0 0),(9,.v (.int .i64 ((i:Nat):Int))),(17,.v (.slice A ((u.take 32767).length) c)),(18,.v (.int .i64 (((u.take 32767).length:Nat):Int))),(19,.v (.int .i64 ((k:Nat):Int))),(58,.v (.bool true))] 0 (qaa (qaa (qad (qaa (qaa (qad (qaa qaf))))))) (fun _ h=>h ▸ az.cells) rfl dP fun gG bY=>?_
   refine qaN kz ?_ _
   refine qab ?_
   refine qbb bY (b:=true) kz rfl ?_
   refine wp_exit ?_
   refine qau ?_
   refine qaH ?_
   refine qab ?_
   refine qap [0,1] kz ?_
   refine qai [0,1] [] [(5,.v (.int .u32 (qan l))),(6,.v (.slice A_ out.length c_)),(17,.v (.slice A ((u.take 32767).length) c)),(18,.v (.int .i64 (((u.take 32767).length:Nat):Int))),(19,.v (.int .i64 (IntKind.i64.wrap (((k:Nat):Int) + 1))))] az bY fun gH dQ=>?_
   refine qae (qab ?_)
   obtain ⟨bZ,dR,bi⟩:=az.cutB dQ 0 [] [(5,.v (.int .u32 (qan l))),(6,.v (.slice A_ out.length c_)),(17,.v (.slice A ((u.take 32767).length) c)),(18,.v (.int .i64 (((u.take 32767).length:Nat):Int))),(19,.v (.int .i64 (IntKind.i64.wrap (((k:Nat):Int) + 1))))]
   have dS:IntKind.i64.wrap (((k:Nat):Int) + 1) = ((k + 1:Nat):Int):=qaO (by omega)
   rw [dS] at bZ
   exact ⟨(u.take 32767).length - (k + 1),by omega,k + 1,A_,c_,out,css,rfl,by omega,(hT.move (((((ac.trans ae).trans aa).trans ab).trans ak).trans bi).step immM (((((ac.trans ae).trans aa).trans ab).trans ak).trans bi).to'),by rw [qbs aP,← hout]; exact (qg7 ‹_›).symm,by omega,bZ.pk,dR,((((((aR.trans ac).trans ae).trans aa).trans ab).trans ak).trans bi)⟩
  have fv:=of_decide_eq_false aM
  have dT:=bX.cast (env':=[(5,.v (.int .u32 (qan l))),(6,.v (.slice A_ out.length c_)),(8,.p 0 0),(9,.v (.int .i64 ((i:Nat):Int))),(17,.v (.slice A ((u.take 32767).length) c)),(18,.v (.int .i64 (((u.take 32767).length:Nat):Int))),(19,.v (.int .i64 ((k:Nat):Int))),(43,.v (.bool false))]) (by rw [aM])
  refine qaM [5,6,7,8,9] [(5,.v (.int .u32 (qan l))),(6,.v (.slice A_ out.length c_)),(8,.p 0 0),(9,.v (.int .i64 ((i:Nat):Int))),(17,.v (.slice A ((u.take 32767).length) c)),(18,.v (.int .i64 (((u.take 32767).length:Nat):Int))),(19,.v (.int .i64 ((k:Nat):Int))),(43,.v (.bool false)),(48,.v (.bool (decide (((i:Nat):Int) < ((out.length:Nat):Int)))))] 10 (qaa (qaa (qad (qaa (qaa (qad (qaa qaf))))))) (fun _ h=>h ▸ az.cells) rfl dT fun gI dU=>?_
  have dV:(decide (((i:Nat):Int) < ((out.length:Nat):Int))) = false:=aN
  have dW:=dU.cast (env':=[(5,.v (.int .u32 (qan l))),(6,.v (.slice A_ out.length c_)),(8,.p 0 0),(9,.v (.int .i64 ((i:Nat):Int))),(17,.v (.slice A ((u.take 32767).length) c)),(18,.v (.int .i64 (((u.take 32767).length:Nat):Int))),(19,.v (.int .i64 ((k:Nat):Int))),(43,.v (.bool false)),(48,.v (.bool false))]) (by rw [dV])
  refine qaM [10,11,12,13,14,15,16,17,18,19] [(5,.v (.int .u32 (qan l))),(6,.v (.slice A_ out.length c_)),(8,.p 0 0),(9,.v (.int .i64 ((i:Nat):Int))),(17,.v (.slice A ((u.take 32767).length) c)),(18,.v (.int .i64 (((u.take 32767).length:Nat):Int))),(19,.v (.int .i64 ((k:Nat):Int))),(58,.v (.bool false))] 0 (qaa (qaa (qad (qaa (qaa (qad (qaa qaf))))))) (fun _ h=>h ▸ az.cells) rfl dW fun gJ b8=>?_
  refine qaN kz ?_ _
  refine qab ?_
  refine qar b8 (b:=false) kz rfl ?_
  refine wp_skip ?_
  refine qab ?_
  refine qac [0,1,2,3,4] kz ?_
  refine qai [0,1] [2,3,4] [(5,.v (.int .u32 (qan l))),(8,.p 0 0),(9,.v (.int .i64 ((i:Nat):Int))),(17,.v (.slice A ((u.take 32767).length) c)),(18,.v (.int .i64 (((u.take 32767).length:Nat):Int))),(19,.v (.int .i64 ((k:Nat):Int))),(59,.v (.slice A_ out.length c_)),(60,.v (.agg #[.int .u32 0,.slice none 0 0]))] az b8 fun gK dX=>?_
  refine qbI az dX (k:=0) (e:=62) (size:=2) (len:=1) (cs:=[.int .u32 0,.slice none 0 0]) (d1:=61) (d:=62) kz (t:=24) (bytes:=32) kz (fun _=>by kernel_rfl) rfl kz (by omega) fun ah aj gL gM ao bj ⟨_,dY⟩=>?_
  refine qai [4] [] [(5,.v (.int .u32 (qan l))),(6,.v (.slice ah (out.length + 1) aj)),(8,.p 0 0),(9,.v (.int .i64 ((i:Nat):Int))),(17,.v (.slice A ((u.take 32767).length) c)),(18,.v (.int .i64 (((u.take 32767).length:Nat):Int))),(19,.v (.int .i64 ((k:Nat):Int)))] bj dY fun gN dZ=>?_
  refine qae (qab ?_)
  refine wp_seq ?_
  refine qao [(5,.v (.int .u32 (qan l))),(6,.v (.slice ah (out.length + 1) aj)),(8,.p 0 0),(9,.v (.int .i64 ((i:Nat):Int))),(10,.v (.int .i64 (IntKind.i64.wrap (((out.length + 1:Nat):Int) - 1)))),(17,.v (.slice A ((u.take 32767).length) c)),(18,.v (.int .i64 (((u.take 32767).length:Nat):Int))),(19,.v (.int .i64 ((k:Nat):Int)))] bj dZ fun gO cd=>?_
  refine wp_block ?_
  have hcl0:=(hT.move (((((ac.trans ae).trans aa).trans ab).trans ak).trans ao).step immM (((((ac.trans ae).trans aa).trans ab).trans ak).trans ao).to').len
  have d5:(⟨ah,aj,62,2,out.length + 1,css.flatten ++ [.int .u32 0,.slice none 0 0]⟩:Rw) = ⟨ah,aj,62,2,out.length + 1,(qbh css [.int .u32 0,.slice none 0 0] out.length).flatten⟩:=by rw [qfP hcl0]
  obtain ⟨ce,aw⟩:=bj.rowEq 0 [⟨ah,aj,62,2,out.length + 1,(qbh css [.int .u32 0,.slice none 0 0] out.length).flatten⟩] d5
  have d6:IntKind.i64.wrap (((out.length + 1:Nat):Int) - 1) = ((out.length:Nat):Int):=by rw [wrap_i64 (by omega) (by omega)]; omega
  rw [d6] at cd
  refine wp_loop_ghost (fun n_ a_ w_=>∃ (j:Nat),n_ = j ∧ (i ≤ j) ∧ (j ≤ out.length) ∧ LInv ce 85 [⟨eO,0,[.int .u32 al,.slice aI ax.length aJ],true⟩] [⟨ah,aj,62,2,out.length + 1,(qbh css [.int .u32 0,.slice none 0 0] j).flatten⟩] [(5,.v (.int .u32 (qan l))),(6,.v (.slice ah (out.length + 1) aj)),(8,.p 0 0),(9,.v (.int .i64 ((i:Nat):Int))),(10,.v (.int .i64 ((j:Nat):Int))),(17,.v (.slice A ((u.take 32767).length) c)),(18,.v (.int .i64 (((u.take 32767).length:Nat):Int))),(19,.v (.int .i64 ((k:Nat):Int)))] a_ w_) (out.length) ⟨out.length,rfl,hi,Nat.le_refl _,cd.pk,ce,Fr.refl _ _ _⟩ ?_
  rintro gP gQ gR ⟨j,fw,hij,hjl,d7,aA,au⟩
  refine wp_seq ?_
  refine qao [(5,.v (.int .u32 (qan l))),(6,.v (.slice ah (out.length + 1) aj)),(8,.p 0 0),(9,.v (.int .i64 ((i:Nat):Int))),(10,.v (.int .i64 ((j:Nat):Int))),(17,.v (.slice A ((u.take 32767).length) c)),(18,.v (.int .i64 (((u.take 32767).length:Nat):Int))),(19,.v (.int .i64 ((k:Nat):Int))),(68,.v (.bool (decide (((j:Nat):Int) > ((i:Nat):Int)))))] aA d7 fun gS bk=>?_
  refine qax bk (b:=decide (((j:Nat):Int) > ((i:Nat):Int))) kz (fun bn=>?_) (fun bn=>?_)
  ·
   have fx:=of_decide_eq_true bn
   refine wp_skip ?_
   refine qab ?_
   refine wp_seq ?_
   refine wp_block ?_
   refine qap [0,1,2,3,4,5,6,7,8] kz ?_
   refine qai [0,1,2,3,4] [5,6,7,8] [(5,.v (.int .u32 (qan l))),(6,.v (.slice ah (out.length + 1) aj)),(8,.p 0 0),(9,.v (.int .i64 ((i:Nat):Int))),(10,.v (.int .i64 ((j:Nat):Int))),(17,.v (.slice A ((u.take 32767).length) c)),(18,.v (.int .i64 (((u.take 32767).length:Nat):Int))),(19,.v (.int .i64 ((k:Nat):Int))),(71,.v (.slice ah (out.length + 1) aj)),(72,.v (.int .i64 ((j:Nat):Int))),(73,.v (.slice ah (out.length + 1) aj)),(75,.v (.int .i64 (IntKind.i64.wrap (((j:Nat):Int) - 1))))] aA bk fun gT d8=>?_
   obtain ⟨d9,cg⟩:=qbS (aA.own 0 _ rfl) (show 0 < out.length + 1 by omega)
   obtain ⟨⟨bB,bC⟩,ea⟩:∃ x,out[j - 1]? = some x:=⟨_,List.getElem?_eq_getElem (by omega)⟩
   obtain ⟨bD,bE,cm,fy,gU,gV⟩:=TagsE.get2 (hT.move (((((((ac.trans ae).trans aa).trans ab).trans ak).trans ao).trans aw).trans au).step immM (((((((ac.trans ae).trans aa).trans ab).trans ak).trans ao).trans aw).trans au).to') ea
   have cI:=qfN (aA.own 0 _ rfl) cg (qcQ (qdw (hT.move (((((((ac.trans ae).trans aa).trans ab).trans ak).trans ao).trans aw).trans au).step immM (((((((ac.trans ae).trans aa).trans ab).trans ak).trans ao).trans aw).trans au).to').two rfl j) (qe8 (show j - 1 < j by omega) cm))
   refine qaj (qas d8 (t:=24) (A:=ah) (m:=(out.length + 1)) (q:=(IntKind.i64.wrap (((j:Nat):Int) - 1))) (d:=76) kz (e:=62) (size:=2) (bytes:=32) kz (b:=d9) (o:=0) (j:=(j - 1)) cg (by rw [wrap_i64 (by omega) (by omega)]; omega) (by omega) fun gW eb=>?_)
   refine qaj (qaA eb (t:=62) (b:=d9) (o:=0 + (j - 1) * 2) (d:=77) kz (cs:=[.int .u32 bB,.slice bD bC.length bE]) (v:=.agg #[.int .u32 bB,.slice bD bC.length bE]) kz cI fun gX ec=>?_)
   obtain ⟨ee,cq⟩:=qbS (aA.own 0 _ rfl) (show 0 < out.length + 1 by omega)
   refine qaj (qas ec (t:=24) (A:=ah) (m:=(out.length + 1)) (q:=((j:Nat):Int)) (d:=78) kz (e:=62) (size:=2) (bytes:=32) kz (b:=ee) (o:=0) (j:=j) cq (rfl) (by omega) fun gY ef=>?_)
   refine qaj (qch aA ef (k:=0) (g:=ee) (o:=j * 2) (c:=aj) (m:=(out.length + 1)) (size:=2) (e:=62) (A:=ah) (xs:=((qbh css [.int .u32 0,.slice none 0 0] j).flatten)) (vs:=[.int .u32 bB,.slice bD bC.length bE]) kz rfl cq (by simp only [List.length_cons,List.length_nil]; omega) fun gZ bo cr eg=>?_)
   refine qae ?_
   refine qav ?_
   refine qab ?_
   refine qap [0,1,2] kz ?_
   refine qai [0,1,2] [] [(5,.v (.int .u32 (qan l))),(6,.v (.slice ah (out.length + 1) aj)),(8,.p 0 0),(9,.v (.int .i64 ((i:Nat):Int))),(10,.v (.int .i64 (IntKind.i64.wrap (((j:Nat):Int) - 1)))),(17,.v (.slice A ((u.take 32767).length) c)),(18,.v (.int .i64 (((u.take 32767).length:Nat):Int))),(19,.v (.int .i64 ((k:Nat):Int)))] cr eg fun g6 cu=>?_
   refine qae (qab ?_)
   have eh:(⟨ah,aj,62,2,out.length + 1,qa6 ((qbh css [.int .u32 0,.slice none 0 0] j).flatten) (j * 2) [.int .u32 bB,.slice bD bC.length bE]⟩:Rw) = ⟨ah,aj,62,2,out.length + 1,(qbh css [.int .u32 0,.slice none 0 0] (j - 1)).flatten⟩:=by rw [qe9 (hT.move ((((((((ac.trans ae).trans aa).trans ab).trans ak).trans ao).trans aw).trans au).trans bo).step immM ((((((((ac.trans ae).trans aa).trans ab).trans ak).trans ao).trans aw).trans au).trans bo).to').two rfl (by omega) (by omega) cm]
   obtain ⟨ei,ej⟩:=cr.rowEq 0 [⟨ah,aj,62,2,out.length + 1,(qbh css [.int .u32 0,.slice none 0 0] (j - 1)).flatten⟩] eh
   have ek:IntKind.i64.wrap (((j:Nat):Int) - 1) = ((j - 1:Nat):Int):=by rw [wrap_i64 (by omega) (by omega)]; omega
   rw [ek] at cu
   exact ⟨(j - 1),by omega,(j - 1),rfl,by omega,by omega,cu.pk,ei,((au.trans bo).trans ej)⟩
  have fz:=of_decide_eq_false bn
  refine wp_exit ?_
  refine qau ?_
  refine qau ?_
  refine qaH ?_
  refine qab ?_
  refine qap [0,1,2,3,4] kz ?_
  refine qai [0,1,2] [3,4] [(5,.v (.int .u32 (qan l))),(6,.v (.slice ah (out.length + 1) aj)),(17,.v (.slice A ((u.take 32767).length) c)),(18,.v (.int .i64 (((u.take 32767).length:Nat):Int))),(19,.v (.int .i64 ((k:Nat):Int))),(79,.v (.slice ah (out.length + 1) aj)),(80,.v (.int .i64 ((i:Nat):Int))),(81,.v (.agg #[.int .u32 al,.slice aI ax.length aJ]))] aA bk fun g7 em=>?_
  have hji:j = i:=by omega
  have eo:(⟨ah,aj,62,2,out.length + 1,(qbh css [.int .u32 0,.slice none 0 0] j).flatten⟩:Rw) = ⟨ah,aj,62,2,out.length + 1,(qbh css [.int .u32 0,.slice none 0 0] i).flatten⟩:=by rw [hji]
  obtain ⟨cw,aF⟩:=aA.rowEq 0 [⟨ah,aj,62,2,out.length + 1,(qbh css [.int .u32 0,.slice none 0 0] i).flatten⟩] eo
  obtain ⟨ep,cz⟩:=qbS (cw.own 0 _ rfl) (show 0 < out.length + 1 by omega)
  refine qaj (qas em (t:=24) (A:=ah) (m:=(out.length + 1)) (q:=((i:Nat):Int)) (d:=82) kz (e:=62) (size:=2) (bytes:=32) kz (b:=ep) (o:=0) (j:=i) cz (rfl) (by omega) fun g8 eu=>?_)
  refine qaj (qch cw eu (k:=0) (g:=ep) (o:=i * 2) (c:=aj) (m:=(out.length + 1)) (size:=2) (e:=62) (A:=ah) (xs:=((qbh css [.int .u32 0,.slice none 0 0] i).flatten)) (vs:=[.int .u32 al,.slice aI ax.length aJ]) kz rfl cz (by simp only [List.length_cons,List.length_nil]; omega) fun g9 aG cA ev=>?_)
  refine qae ?_
  refine qav ?_
  refine qab ?_
  refine qap [0,1] kz ?_
  refine qai [0,1] [] [(5,.v (.int .u32 (qan l))),(6,.v (.slice ah (out.length + 1) aj)),(17,.v (.slice A ((u.take 32767).length) c)),(18,.v (.int .i64 (((u.take 32767).length:Nat):Int))),(19,.v (.int .i64 (IntKind.i64.wrap (((k:Nat):Int) + 1))))] cA ev fun hC ew=>?_
  refine qae (qab ?_)
  obtain ⟨bp,ey,aH⟩:=cA.cutB ew 0 [] [(5,.v (.int .u32 (qan l))),(6,.v (.slice ah (out.length + 1) aj)),(17,.v (.slice A ((u.take 32767).length) c)),(18,.v (.int .i64 (((u.take 32767).length:Nat):Int))),(19,.v (.int .i64 (IntKind.i64.wrap (((k:Nat):Int) + 1))))]
  have hcl:=(hT.move ((((((((((ac.trans ae).trans aa).trans ab).trans ak).trans ao).trans aw).trans au).trans aF).trans aG).trans aH).step immM ((((((((((ac.trans ae).trans aa).trans ab).trans ak).trans ao).trans aw).trans au).trans aF).trans aG).trans aH).to').len
  have ez:(⟨ah,aj,62,2,out.length + 1,qa6 ((qbh css [.int .u32 0,.slice none 0 0] i).flatten) (i * 2) [.int .u32 al,.slice aI ax.length aJ]⟩:Rw) = ⟨ah,aj,62,2,(out.take i ++ (al,ax) :: out.drop i).length,(css.take i ++ [.int .u32 al,.slice aI ax.length aJ] :: css.drop i).flatten⟩:=by rw [qfa (hT.move ((((((((((ac.trans ae).trans aa).trans ab).trans ak).trans ao).trans aw).trans au).trans aF).trans aG).trans aH).step immM ((((((((((ac.trans ae).trans aa).trans ab).trans ak).trans ao).trans aw).trans au).trans aF).trans aG).trans aH).to').two rfl (by omega) rfl,qbU (al,ax) hi]
  obtain ⟨bq,bt⟩:=ey.rowEq 0 [⟨ah,aj,62,2,(out.take i ++ (al,ax) :: out.drop i).length,(css.take i ++ [.int .u32 al,.slice aI ax.length aJ] :: css.drop i).flatten⟩] ez
  have eB:IntKind.i64.wrap (((k:Nat):Int) + 1) = ((k + 1:Nat):Int):=qaO (by omega)
  rw [eB] at bp
  have eC:out.length + 1 = (out.take i ++ (al,ax) :: out.drop i).length:=qbU (al,ax) hi
  rw [eC] at bp
  exact ⟨(u.take 32767).length - (k + 1),by omega,k + 1,ah,aj,(out.take i ++ (al,ax) :: out.drop i),(css.take i ++ [.int .u32 al,.slice aI ax.length aJ] :: css.drop i),rfl,by omega,(hT.move (((((((((((ac.trans ae).trans aa).trans ab).trans ak).trans ao).trans aw).trans au).trans aF).trans aG).trans aH).trans bt).step immM (((((((((((ac.trans ae).trans aa).trans ab).trans ak).trans ao).trans aw).trans au).trans aF).trans aG).trans aH).trans bt).to').ins ⟨⟨aI,aJ,rfl,(cL.move bq.step nilM bq.imm)⟩,fb,fe⟩ hi,by rw [qbs aP,← hout]; exact (qg8 (qd8 hi hlt (fun h_=>absurd h_ (by omega))) ‹_› (fun h_=>absurd h_ (by omega))).symm,by rw [← qbU (al,ax) hi]; omega,bp.pk,bq,((((((((((((aR.trans ac).trans ae).trans aa).trans ab).trans ak).trans ao).trans aw).trans au).trans aF).trans aG).trans aH).trans bt)⟩
 have fA:=of_decide_eq_false cC
 refine wp_exit ?_
 refine qau ?_
 refine qau ?_
 refine qaH ?_
 refine qab ?_
 refine qao [(4,.v (.slice A_ out.length c_))] aO cB fun hJ eD=>?_
 refine wp_ret ?_
 refine qaG eD aO.cells (v:=.slice A_ out.length c_) kz ?_
 exact qfy aO (k:=0) rfl rfl rfl hT (by omega) (by rw [hout,List.take_of_length_le (by omega)]; rfl)
def qhy (d:Nat):Prop:=∀ (cf:List Value) (f:Fld) (ct:List Value) (t:Tree) (w:World) (F:Nat → Nat → Prop),FldR w F cf f → f.depth ≤ d → TreeR w F ct t →
  Calls Tryd.prog 31 #[.agg cf.toArray,.agg ct.toArray] w (qbR w (.bool (f.usual t)))
theorem qfG {d:Nat} (hu:qhy d) (cf:List Value) (f:Fld) (ct:List Value) (t:Tree) (w:World) (F:Nat → Nat → Prop) (hf:FldR w F cf f) (hd:f.depth ≤ d + 1) (ht:TreeR w F ct t) :
  Calls Tryd.prog 31 #[.agg cf.toArray,.agg ct.toArray] w (qbR w (.bool (f.usual t))):=by
 obtain ⟨k1,y2,y3,y4,y5,y6,y7,l8,A9,aA,dD,rfl,rfl,dE,em⟩:=hf.open_
 have eo:=dE.small
 obtain ⟨af,ab,aC,aK,aB,ah,ai,bS,bT,bt,bu,ff,rfl,rfl,ep,fg,gK,fh⟩:=ht.open_
 have eu:=ep.small
 have ev:=fg.small
 refine enter (n:=91) Tryd.func31 rfl Tryd.ntmps31 kz fun a hE=>?_
 have hW:=WOk.start w Nil
 refine qac [0,1,2] kz ?_
 refine qaj (qa9 hW hE (d:=2) (cs:=[.int .i64 k1,.int .i64 y2,.int .i64 y3,.int .i64 y4,.int .i64 y5,.int .i64 y6,.int .i64 y7,.slice A9 l8.length aA]) kz fun dF gL gM fi fj fk dG dH=>?_)
 refine qaj (qa9 dG dH (d:=3) (cs:=[.int .i64 af,.slice ah ab.length ai,.bool aC,.slice bS aK.length bT,.slice bt aB.length bu]) kz fun dI gN gO fl fm fo aa dJ=>?_)
 refine qai [2] [] [(2,.p 0 0),(3,.p 1 0)] aa dJ fun gP dK=>?_
 refine qae (qab ?_)
 refine wp_seq ?_
 refine qao [(2,.p 0 0),(3,.p 1 0),(10,.v (.int .i64 k1))] aa dK fun gQ dL=>?_
 refine wp_block ?_
 refine qao [(2,.p 0 0),(3,.p 1 0),(10,.v (.int .i64 k1)),(11,.v (.bool (k1 == 0)))] aa dL fun gR bM=>?_
 refine qax bM (b:=k1 == 0) kz (fun bN=>?_) (fun bN=>?_)
 ·
  have fq:k1 = 0:=by simpa using bN
  refine qao [(4,.v (.bool ((IntKind.i64.wrap (BitVec.ofInt 64 af &&& BitVec.ofInt 64 1).toNat) == y6)))] aa bM fun gS dM=>?_
  refine wp_ret ?_
  refine qaE ?_
  refine qat ?_
  refine qaG dM aa.cells (v:=.bool ((IntKind.i64.wrap (BitVec.ofInt 64 af &&& BitVec.ofInt 64 1).toNat) == y6)) kz ?_
  refine ⟨congrArg (fun b_=>Ending.returned (Value.bool b_)) ?_,aa.step⟩
  first
   | (rw [qb0 ‹_›]; simp only [and1]; done)
   | (rw [qbd ‹_› ‹_›]; exact qbc hz (by omega); done)
   | (rw [qbd ‹_› ‹_›]; exact qa5 (k:=k) (by omega) (by omega) ‹_›; done)
   | (rw [qbt ‹_› ‹_› (by omega) ‹_›]; done)
   | (rw [qbC ‹_› ‹_› (by omega) ‹_›]; done)
   | (rw [qbD ‹_› ‹_› ‹_› ‹_› ‹_›]; done)
   | (rw [qbw ‹_› ‹_› ‹_› ‹_› ‹_› ‹_›,huu,qbg (by omega),Bool.true_and]; done)
   | (rw [qbf ‹_› ‹_› ‹_› ‹_› ‹_› ‹_›]; done)
 have fr:k1 ≠ 0:=by simpa using bN
 refine qao [(2,.p 0 0),(3,.p 1 0),(10,.v (.int .i64 k1)),(19,.v (.bool (k1 == 7)))] aa bM fun gT bO=>?_
 refine qax bO (b:=k1 == 7) kz (fun bP=>?_) (fun bP=>?_)
 ·
  have ft:k1 = 7:=by simpa using bP
  refine wp_seq ?_
  refine qao [(22,.v (.slice ah ab.length ai)),(23,.v (.int .i64 ((ab.length:Nat):Int))),(24,.v (.int .i64 0))] aa bO fun gU dN=>?_
  refine wp_block ?_
  refine wp_loop_ghost (fun n_ a_ w_=>∃ (k:Nat),n_ = ab.length - k ∧ k ≤ ab.length ∧ (∀ q,q < k → q < 16 → (((ab.getD q 0).toNat:Nat):Int) = 0) ∧ LInv aa 91 [⟨dF,0,[.int .i64 k1,.int .i64 y2,.int .i64 y3,.int .i64 y4,.int .i64 y5,.int .i64 y6,.int .i64 y7,.slice A9 l8.length aA],true⟩,⟨dI,0,[.int .i64 af,.slice ah ab.length ai,.bool aC,.slice bS aK.length bT,.slice bt aB.length bu],true⟩] [] [(22,.v (.slice ah ab.length ai)),(23,.v (.int .i64 ((ab.length:Nat):Int))),(24,.v (.int .i64 ((k:Nat):Int)))] a_ w_) (ab.length) ⟨0,by omega,by omega,fun q h_=>absurd h_ (Nat.not_lt_zero q),dN.pk,aa,Fr.refl _ _ _⟩ ?_
  rintro gV gW gX ⟨k,fu,fv,hz,dO,ae,bU⟩
  refine qao [(22,.v (.slice ah ab.length ai)),(23,.v (.int .i64 ((ab.length:Nat):Int))),(24,.v (.int .i64 ((k:Nat):Int))),(25,.v (.bool (decide (((k:Nat):Int) < ((ab.length:Nat):Int)))))] ae dO fun gY bQ=>?_
  refine wp_seq ?_
  refine qax bQ (b:=decide (((k:Nat):Int) < ((ab.length:Nat):Int))) kz (fun bR=>?_) (fun bR=>?_)
  ·
   have fw:=of_decide_eq_true bR
   refine wp_skip ?_
   refine qab ?_
   refine wp_seq ?_
   refine wp_block ?_
   refine qac [0,1,2,3,4] kz ?_
   refine qai [0] [1,2,3,4] [(22,.v (.slice ah ab.length ai)),(23,.v (.int .i64 ((ab.length:Nat):Int))),(24,.v (.int .i64 ((k:Nat):Int))),(26,.v (.int .i64 ((k:Nat):Int)))] ae bQ fun gZ dP=>?_
   obtain ⟨fx,fy,dQ,fz,bV⟩:=Slots.get ep (i:=k) (by omega)
   refine qaj (qas dP (t:=22) (A:=ah) (m:=ab.length) (q:=((k:Nat):Int)) (d:=27) kz (e:=5) (size:=1) (bytes:=1) kz dQ rfl (by omega) fun g6 dR=>?_)
   refine qaj (qaA dR (t:=5) (b:=fx) (o:=fy + k * 1) (d:=28) kz (cs:=[.int .u8 ((ab.getD k 0).toNat:Int)]) (v:=.int .u8 ((ab.getD k 0).toNat:Int)) kz (AtF.move bV ae.step nilM qaV).at_ fun g7 dS=>?_)
   refine qai [3,4] [] [(5,.v (.int .i64 ((k:Nat):Int))),(6,.v (.int .u8 ((ab.getD k 0).toNat:Int))),(22,.v (.slice ah ab.length ai)),(23,.v (.int .i64 ((ab.length:Nat):Int))),(24,.v (.int .i64 ((k:Nat):Int)))] ae dS fun g8 dT=>?_
   refine qae (qab ?_)
   refine qac [0,1,2,3,4,5] kz ?_
   refine qai [0,1,2] [3,4,5] [(6,.v (.int .u8 ((ab.getD k 0).toNat:Int))),(22,.v (.slice ah ab.length ai)),(23,.v (.int .i64 ((ab.length:Nat):Int))),(24,.v (.int .i64 ((k:Nat):Int))),(31,.v (.bool (decide (((k:Nat):Int) < 16))))] ae dT fun g9 bW=>?_
   refine (Bool.eq_false_or_eq_true (decide (((k:Nat):Int) < 16))).elim (fun aL=>?_) (fun aL=>?_)
   ·
    have fA:=of_decide_eq_true aL
    have dU:=bW.cast (env':=[(6,.v (.int .u8 ((ab.getD k 0).toNat:Int))),(22,.v (.slice ah ab.length ai)),(23,.v (.int .i64 ((ab.length:Nat):Int))),(24,.v (.int .i64 ((k:Nat):Int))),(31,.v (.bool true))]) (by rw [aL])
    refine qai [3,4,5] [] [(22,.v (.slice ah ab.length ai)),(23,.v (.int .i64 ((ab.length:Nat):Int))),(24,.v (.int .i64 ((k:Nat):Int))),(34,.v (.bool (((ab.getD k 0).toNat:Int) != 0)))] ae dU fun hC aM=>?_
    refine qae (qab ?_)
    refine qax aM (b:=((ab.getD k 0).toNat:Int) != 0) kz (fun aN=>?_) (fun aN=>?_)
    ·
     have ew:((ab.getD k 0).toNat:Int) ≠ 0:=by simpa using aN
     refine qao [(4,.v (.bool false))] ae aM fun fB bX=>?_
     refine wp_ret ?_
     refine qaE ?_
     refine qat ?_
     refine qat ?_
     refine qaE ?_
     refine qat ?_
     refine qaE ?_
     refine qat ?_
     refine qaG bX ae.cells (v:=.bool false) kz ?_
     refine ⟨congrArg (fun b_=>Ending.returned (Value.bool b_)) ?_,ae.step⟩
     first
      | (rw [qb0 ‹_›]; simp only [and1]; done)
      | (rw [qbd ‹_› ‹_›]; exact qbc hz (by omega); done)
      | (rw [qbd ‹_› ‹_›]; exact qa5 (k:=k) (by omega) (by omega) ‹_›; done)
      | (rw [qbt ‹_› ‹_› (by omega) ‹_›]; done)
      | (rw [qbC ‹_› ‹_› (by omega) ‹_›]; done)
      | (rw [qbD ‹_› ‹_› ‹_› ‹_› ‹_›]; done)
      | (rw [qbw ‹_› ‹_› ‹_› ‹_› ‹_› ‹_›,huu,qbg (by omega),Bool.true_and]; done)
      | (rw [qbf ‹_› ‹_› ‹_› ‹_› ‹_› ‹_›]; done)
    have ey:((ab.getD k 0).toNat:Int) = 0:=by simpa using aN
    refine wp_skip ?_
    refine qav ?_
    refine qab ?_
    refine qap [0,1] kz ?_
    refine qai [0,1] [] [(22,.v (.slice ah ab.length ai)),(23,.v (.int .i64 ((ab.length:Nat):Int))),(24,.v (.int .i64 (IntKind.i64.wrap (((k:Nat):Int) + 1))))] ae aM fun fC bw=>?_
    refine qae (qab ?_)
    have bY:IntKind.i64.wrap (((k:Nat):Int) + 1) = ((k + 1:Nat):Int):=qaO (by omega)
    rw [bY] at bw
    exact ⟨ab.length - (k + 1),by omega,k + 1,rfl,by omega,fun q hq bZ=>by rcases Nat.lt_succ_iff_lt_or_eq.1 hq with h_ | h_; exact hz q h_ bZ; rw [h_] at bZ ⊢; first | assumption | omega,bw.pk,ae,bU⟩
   have ez:=of_decide_eq_false aL
   have b8:=bW.cast (env':=[(6,.v (.int .u8 ((ab.getD k 0).toNat:Int))),(22,.v (.slice ah ab.length ai)),(23,.v (.int .i64 ((ab.length:Nat):Int))),(24,.v (.int .i64 ((k:Nat):Int))),(31,.v (.bool false))]) (by rw [aL])
   refine qai [3,4,5] [] [(22,.v (.slice ah ab.length ai)),(23,.v (.int .i64 ((ab.length:Nat):Int))),(24,.v (.int .i64 ((k:Nat):Int))),(34,.v (.bool false))] ae b8 fun fD bx=>?_
   refine qae (qab ?_)
   refine qar bx (b:=false) kz rfl ?_
   refine wp_skip ?_
   refine qav ?_
   refine qab ?_
   refine qap [0,1] kz ?_
   refine qai [0,1] [] [(22,.v (.slice ah ab.length ai)),(23,.v (.int .i64 ((ab.length:Nat):Int))),(24,.v (.int .i64 (IntKind.i64.wrap (((k:Nat):Int) + 1))))] ae bx fun fE bz=>?_
   refine qae (qab ?_)
   have cd:IntKind.i64.wrap (((k:Nat):Int) + 1) = ((k + 1:Nat):Int):=qaO (by omega)
   rw [cd] at bz
   exact ⟨ab.length - (k + 1),by omega,k + 1,rfl,by omega,fun q hq bZ=>by rcases Nat.lt_succ_iff_lt_or_eq.1 hq with h_ | h_; exact hz q h_ bZ; rw [h_] at bZ ⊢; first | assumption | omega,bz.pk,ae,bU⟩
  have eB:=of_decide_eq_false bR
  refine wp_exit ?_
  refine qau ?_
  refine qau ?_
  refine qaH ?_
  refine qab ?_
  refine qao [(4,.v (.bool true))] ae bQ fun fF ce=>?_
  refine wp_ret ?_
  refine qaE ?_
  refine qat ?_
  refine qaG ce ae.cells (v:=.bool true) kz ?_
  refine ⟨congrArg (fun b_=>Ending.returned (Value.bool b_)) ?_,ae.step⟩
  first
   | (rw [qb0 ‹_›]; simp only [and1]; done)
   | (rw [qbd ‹_› ‹_›]; exact qbc hz (by omega); done)
   | (rw [qbd ‹_› ‹_›]; exact qa5 (k:=k) (by omega) (by omega) ‹_›; done)
   | (rw [qbt ‹_› ‹_› (by omega) ‹_›]; done)
   | (rw [qbC ‹_› ‹_› (by omega) ‹_›]; done)
   | (rw [qbD ‹_› ‹_› ‹_› ‹_› ‹_›]; done)
   | (rw [qbw ‹_› ‹_› ‹_› ‹_› ‹_› ‹_›,huu,qbg (by omega),Bool.true_and]; done)
   | (rw [qbf ‹_› ‹_› ‹_› ‹_› ‹_› ‹_›]; done)
 have eC:k1 ≠ 7:=by simpa using bP
 refine wp_seq ?_
 refine qao [(2,.p 0 0),(3,.p 1 0),(10,.v (.int .i64 k1)),(36,.v (.bool (k1 == 8)))] aa bO fun fG aD=>?_
 refine qax aD (b:=k1 == 8) kz (fun aE=>?_) (fun aE=>?_)
 ·
  have eD:k1 = 8:=by simpa using aE
  refine wp_skip ?_
  refine qab ?_
  refine qbb aD (b:=k1 == 8) kz (aE) ?_
  refine wp_seq ?_
  refine qao [(3,.p 1 0),(41,.v (.bool (decide (y4 ≥ 0))))] aa aD fun fH aO=>?_
  refine qax aO (b:=decide (y4 ≥ 0)) kz (fun aP=>?_) (fun aP=>?_)
  ·
   have eE:=of_decide_eq_true aP
   refine qao [(4,.v (.bool aC))] aa aO fun fI cg=>?_
   refine wp_ret ?_
   refine qat ?_
   refine qaE ?_
   refine qat ?_
   refine qaG cg aa.cells (v:=.bool aC) kz ?_
   refine ⟨congrArg (fun b_=>Ending.returned (Value.bool b_)) ?_,aa.step⟩
   first
    | (rw [qb0 ‹_›]; simp only [and1]; done)
    | (rw [qbd ‹_› ‹_›]; exact qbc hz (by omega); done)
    | (rw [qbd ‹_› ‹_›]; exact qa5 (k:=k) (by omega) (by omega) ‹_›; done)
    | (rw [qbt ‹_› ‹_› (by omega) ‹_›]; done)
    | (rw [qbC ‹_› ‹_› (by omega) ‹_›]; done)
    | (rw [qbD ‹_› ‹_› ‹_› ‹_› ‹_›]; done)
    | (rw [qbw ‹_› ‹_› ‹_› ‹_› ‹_› ‹_›,huu,qbg (by omega),Bool.true_and]; done)
    | (rw [qbf ‹_› ‹_› ‹_› ‹_› ‹_› ‹_›]; done)
  have eF:=of_decide_eq_false aP
  refine wp_skip ?_
  refine qab ?_
  refine qao [(4,.v (.bool (((ab.length:Nat):Int) == 0)))] aa aO fun fJ cm=>?_
  refine wp_ret ?_
  refine qaE ?_
  refine qat ?_
  refine qaG cm aa.cells (v:=.bool (((ab.length:Nat):Int) == 0)) kz ?_
  refine ⟨congrArg (fun b_=>Ending.returned (Value.bool b_)) ?_,aa.step⟩
  first
   | (rw [qb0 ‹_›]; simp only [and1]; done)
   | (rw [qbd ‹_› ‹_›]; exact qbc hz (by omega); done)
   | (rw [qbd ‹_› ‹_›]; exact qa5 (k:=k) (by omega) (by omega) ‹_›; done)
   | (rw [qbt ‹_› ‹_› (by omega) ‹_›]; done)
   | (rw [qbC ‹_› ‹_› (by omega) ‹_›]; done)
   | (rw [qbD ‹_› ‹_› ‹_› ‹_› ‹_›]; done)
   | (rw [qbw ‹_› ‹_› ‹_› ‹_› ‹_› ‹_›,huu,qbg (by omega),Bool.true_and]; done)
   | (rw [qbf ‹_› ‹_› ‹_› ‹_› ‹_› ‹_›]; done)
 have eG:k1 ≠ 8:=by simpa using aE
 refine qap [0,1] kz ?_
 refine qai [0,1] [] [(2,.p 0 0),(3,.p 1 0),(10,.v (.int .i64 k1)),(36,.v (.bool (k1 == 9)))] aa aD fun fK aQ=>?_
 refine qae (qab ?_)
 refine qax aQ (b:=k1 == 9) kz (fun aR=>?_) (fun aR=>?_)
 ·
  have eH:k1 = 9:=by simpa using aR
  refine wp_seq ?_
  refine qao [(3,.p 1 0),(41,.v (.bool (decide (y4 ≥ 0))))] aa aQ fun fL aS=>?_
  refine qax aS (b:=decide (y4 ≥ 0)) kz (fun aT=>?_) (fun aT=>?_)
  ·
   have eI:=of_decide_eq_true aT
   refine qao [(4,.v (.bool aC))] aa aS fun fM cq=>?_
   refine wp_ret ?_
   refine qat ?_
   refine qaE ?_
   refine qat ?_
   refine qaG cq aa.cells (v:=.bool aC) kz ?_
   refine ⟨congrArg (fun b_=>Ending.returned (Value.bool b_)) ?_,aa.step⟩
   first
    | (rw [qb0 ‹_›]; simp only [and1]; done)
    | (rw [qbd ‹_› ‹_›]; exact qbc hz (by omega); done)
    | (rw [qbd ‹_› ‹_›]; exact qa5 (k:=k) (by omega) (by omega) ‹_›; done)
    | (rw [qbt ‹_› ‹_› (by omega) ‹_›]; done)
    | (rw [qbC ‹_› ‹_› (by omega) ‹_›]; done)
    | (rw [qbD ‹_› ‹_› ‹_› ‹_› ‹_›]; done)
    | (rw [qbw ‹_› ‹_› ‹_› ‹_› ‹_› ‹_›,huu,qbg (by omega),Bool.true_and]; done)
    | (rw [qbf ‹_› ‹_› ‹_› ‹_› ‹_› ‹_›]; done)
  have eJ:=of_decide_eq_false aT
  refine wp_skip ?_
  refine qab ?_
  refine qao [(4,.v (.bool (((ab.length:Nat):Int) == 0)))] aa aS fun fN cr=>?_
  refine wp_ret ?_
  refine qaE ?_
  refine qat ?_
  refine qaG cr aa.cells (v:=.bool (((ab.length:Nat):Int) == 0)) kz ?_
  refine ⟨congrArg (fun b_=>Ending.returned (Value.bool b_)) ?_,aa.step⟩
  first
   | (rw [qb0 ‹_›]; simp only [and1]; done)
   | (rw [qbd ‹_› ‹_›]; exact qbc hz (by omega); done)
   | (rw [qbd ‹_› ‹_›]; exact qa5 (k:=k) (by omega) (by omega) ‹_›; done)
   | (rw [qbt ‹_› ‹_› (by omega) ‹_›]; done)
   | (rw [qbC ‹_› ‹_› (by omega) ‹_›]; done)
   | (rw [qbD ‹_› ‹_› ‹_› ‹_› ‹_›]; done)
   | (rw [qbw ‹_› ‹_› ‹_› ‹_› ‹_› ‹_›,huu,qbg (by omega),Bool.true_and]; done)
   | (rw [qbf ‹_› ‹_› ‹_› ‹_› ‹_› ‹_›]; done)
 have eK:k1 ≠ 9:=by simpa using aR
 refine qao [(2,.p 0 0),(3,.p 1 0),(10,.v (.int .i64 k1)),(48,.v (.bool (k1 == 11)))] aa aQ fun fO aU=>?_
 refine qax aU (b:=k1 == 11) kz (fun aV=>?_) (fun aV=>?_)
 ·
  have eL:k1 = 11:=by simpa using aV
  refine qao [(4,.v (.bool (((aK.length:Nat):Int) == 0)))] aa aU fun fP cu=>?_
  refine wp_ret ?_
  refine qaE ?_
  refine qat ?_
  refine qaG cu aa.cells (v:=.bool (((aK.length:Nat):Int) == 0)) kz ?_
  refine ⟨congrArg (fun b_=>Ending.returned (Value.bool b_)) ?_,aa.step⟩
  first
   | (rw [qb0 ‹_›]; simp only [and1]; done)
   | (rw [qbd ‹_› ‹_›]; exact qbc hz (by omega); done)
   | (rw [qbd ‹_› ‹_›]; exact qa5 (k:=k) (by omega) (by omega) ‹_›; done)
   | (rw [qbt ‹_› ‹_› (by omega) ‹_›]; done)
   | (rw [qbC ‹_› ‹_› (by omega) ‹_›]; done)
   | (rw [qbD ‹_› ‹_› ‹_› ‹_› ‹_›]; done)
   | (rw [qbw ‹_› ‹_› ‹_› ‹_› ‹_› ‹_›,huu,qbg (by omega),Bool.true_and]; done)
   | (rw [qbf ‹_› ‹_› ‹_› ‹_› ‹_› ‹_›]; done)
 have eM:k1 ≠ 11:=by simpa using aV
 refine qao [(2,.p 0 0),(3,.p 1 0),(54,.v (.bool (k1 == 10)))] aa aU fun fQ aW=>?_
 refine qax aW (b:=k1 == 10) kz (fun aX=>?_) (fun aX=>?_)
 ·
  have eN:k1 = 10:=by simpa using aX
  refine wp_seq ?_
  refine qao [(2,.p 0 0),(3,.p 1 0),(57,.v (.slice A9 l8.length aA)),(58,.v (.int .i64 ((l8.length:Nat):Int))),(59,.v (.int .i64 0))] aa aW fun fR cw=>?_
  refine wp_block ?_
  refine wp_loop_ghost (fun n_ a_ w_=>∃ (k:Nat),n_ = l8.length - k ∧ k ≤ l8.length ∧ (usuals l8 (Tree.mk af ab aC aK aB) 0 = usuals (l8.drop k) (Tree.mk af ab aC aK aB) k) ∧ LInv aa 91 [⟨dF,0,[.int .i64 k1,.int .i64 y2,.int .i64 y3,.int .i64 y4,.int .i64 y5,.int .i64 y6,.int .i64 y7,.slice A9 l8.length aA],true⟩,⟨dI,0,[.int .i64 af,.slice ah ab.length ai,.bool aC,.slice bS aK.length bT,.slice bt aB.length bu],true⟩] [] [(2,.p 0 0),(3,.p 1 0),(57,.v (.slice A9 l8.length aA)),(58,.v (.int .i64 ((l8.length:Nat):Int))),(59,.v (.int .i64 ((k:Nat):Int)))] a_ w_) (l8.length) ⟨0,by omega,by omega,rfl,cw.pk,aa,Fr.refl _ _ _⟩ ?_
  rintro fS fT fU ⟨k,eO,eP,huu,cz,ac,cA⟩
  refine qao [(2,.p 0 0),(3,.p 1 0),(57,.v (.slice A9 l8.length aA)),(58,.v (.int .i64 ((l8.length:Nat):Int))),(59,.v (.int .i64 ((k:Nat):Int))),(60,.v (.bool (decide (((k:Nat):Int) < ((l8.length:Nat):Int)))))] ac cz fun fV aY=>?_
  refine wp_seq ?_
  refine qax aY (b:=decide (((k:Nat):Int) < ((l8.length:Nat):Int))) kz (fun aZ=>?_) (fun aZ=>?_)
  ·
   have eQ:=of_decide_eq_true aZ
   refine wp_skip ?_
   refine qab ?_
   refine wp_seq ?_
   refine wp_block ?_
   refine qac [0,1,2,3,4,5] kz ?_
   refine qai [0] [1,2,3,4,5] [(2,.p 0 0),(3,.p 1 0),(57,.v (.slice A9 l8.length aA)),(58,.v (.int .i64 ((l8.length:Nat):Int))),(59,.v (.int .i64 ((k:Nat):Int))),(61,.v (.int .i64 ((k:Nat):Int)))] ac aY fun fW cB=>?_
   obtain ⟨dV,dW,cC,eR,ba⟩:=Slots.get dE (i:=k) (by omega)
   obtain ⟨dX,aF⟩:∃ x,l8[k]? = some x:=⟨_,List.getElem?_eq_getElem (by omega)⟩
   have bd:=em k dX aF
   obtain ⟨aj,ak,al,am,ao,ap,ar,au,aI,aJ,eS,rfl,bf,dY,fX⟩:=bd.open_
   rw [bf] at bd
   have dZ:=dY.small
   rw [bf] at ba
   refine qaj (qas cB (t:=29) (A:=A9) (m:=l8.length) (q:=((k:Nat):Int)) (d:=62) kz (e:=50) (size:=8) (bytes:=80) kz cC rfl (by omega) fun fY cD=>?_)
   refine qaj (qaA cD (t:=50) (b:=dV) (o:=dW + k * 8) (d:=63) kz (cs:=[.int .i64 aj,.int .i64 ak,.int .i64 al,.int .i64 am,.int .i64 ao,.int .i64 ap,.int .i64 ar,.slice aI au.length aJ]) (v:=.agg #[.int .i64 aj,.int .i64 ak,.int .i64 al,.int .i64 am,.int .i64 ao,.int .i64 ap,.int .i64 ar,.slice aI au.length aJ]) kz (AtF.move ba ac.step nilM qaV).at_ fun fZ cE=>?_)
   refine qaj (qaI ac cE (d:=8) (cs:=[.int .i64 0,.int .i64 0,.int .i64 0,.int .i64 0,.int .i64 0,.int .i64 0,.int .i64 0,.slice none 0 0]) kz fun f5 f7 f8 eU eV cG bA cH=>?_)
   refine qai [4] [5] [(2,.p 0 0),(3,.p 1 0),(7,.v (.int .i64 ((k:Nat):Int))),(8,.p 2 0),(57,.v (.slice A9 l8.length aA)),(58,.v (.int .i64 ((l8.length:Nat):Int))),(59,.v (.int .i64 ((k:Nat):Int))),(63,.v (.agg #[.int .i64 aj,.int .i64 ak,.int .i64 al,.int .i64 am,.int .i64 ao,.int .i64 ap,.int .i64 ar,.slice aI au.length aJ]))] bA cH fun f9 cI=>?_
   refine qaj (qaw bA cI (oi:=2) (cs:=[.int .i64 aj,.int .i64 ak,.int .i64 al,.int .i64 am,.int .i64 ao,.int .i64 ap,.int .i64 ar,.slice aI au.length aJ]) kz fun ga cJ cK cL=>?_)
   refine qae (qab ?_)
   refine qaZ 6 kz cK fun gb cM av cN=>?_
   refine qaM [0,1,2] [(2,.p 0 0),(3,.p 1 0),(57,.v (.slice A9 l8.length aA)),(58,.v (.int .i64 ((l8.length:Nat):Int))),(59,.v (.int .i64 ((k:Nat):Int))),(64,.v (.agg #[.int .i64 aj,.int .i64 ak,.int .i64 al,.int .i64 am,.int .i64 ao,.int .i64 ap,.int .i64 ar,.slice aI au.length aJ])),(65,.v (.agg #[.int .i64 af,.slice ah ab.length ai,.bool aC,.slice bS aK.length bT,.slice bt aB.length bu])),(66,.v (.int .i64 ((k:Nat):Int)))] 3 (qaa (qad (qaa (qaa (qad (qaa (qad (qaa qaf)))))))) (fun _ h=>h.cells) cN cL fun gc cO=>?_
   refine qaJ (i:=3) kz (qal cO (f:=20) (vs:=[.agg #[.int .i64 af,.slice ah ab.length ai,.bool aC,.slice bS aK.length bT,.slice bt aB.length bu],.int .i64 ((k:Nat):Int)]) (d:=67) kz Tryd.call20 (sAt _ _ k _ _ (ht.move av.step nilM av.imm)) ?_)
   rintro e_ gd ⟨eW,rfl,cP,aw⟩
   have bg:=cP.move aw nilM (fun b o h_ hb_=>av.laid (G:=F) aw b o (.inl h_) (Nat.lt_of_lt_of_le hb_ aw.size))
   obtain ⟨d5,d6,d7,d8,d9,ea,eb,ec,ee,ef,eg,eX,eY,bh,eh,ei,ge,gg⟩:=bg.open_
   rw [bh] at bg
   have ej:=eh.small
   have ek:=ei.small
   rw [bh]
   refine ⟨_,rfl,fun gh cQ=>?_⟩
   have ax:=av.next_nil aw
   have bi:=av.frN aw
   have cR:=TT.ofW bi ax
   refine ⟨fun _=>cR,?_⟩
   refine qaJ (i:=4) kz (qal cQ (f:=31) (vs:=[.agg #[.int .i64 aj,.int .i64 ak,.int .i64 al,.int .i64 am,.int .i64 ao,.int .i64 ap,.int .i64 ar,.slice aI au.length aJ],.agg #[.int .i64 d5,.slice ea d6.length eb,.bool d7,.slice ec d8.length ee,.slice ef d9.length eg]]) (d:=68) kz Tryd.call31 ( hu _ _ _ _ _ _ (bd.move ax.step nilM ax.imm) (by have h_:=qcS aF; rw [qdW] at hd; omega) bg) ?_)
   rintro e_ gi ⟨rfl,bB⟩
   refine ⟨_,rfl,fun gj cS=>?_⟩
   have ag:=ax.next_nil bB
   have bC:=ax.frN bB
   have bD:=TT.ofW (bi.trans bC) ag
   refine ⟨fun _=>bD,?_⟩
   refine qaM [5] [(2,.p 0 0),(3,.p 1 0),(57,.v (.slice A9 l8.length aA)),(58,.v (.int .i64 ((l8.length:Nat):Int))),(59,.v (.int .i64 ((k:Nat):Int))),(69,.v (.bool (!(Fld.usual (Fld.mk aj ak al am ao ap ar au) (Tree.at_ (Tree.mk af ab aC aK aB) k)))))] 0 (qaa (qad (qaa (qaa (qad (qaa (qad (qaa qaf)))))))) (fun _ h=>h.cells) bD cS fun gk bj=>?_
   refine qaN kz ?_ _
   refine qab ?_
   refine qax bj (b:=!(Fld.usual (Fld.mk aj ak al am ao ap ar au) (Tree.at_ (Tree.mk af ab aC aK aB) k))) kz (fun bk=>?_) (fun bk=>?_)
   ·
    refine qao [(4,.v (.bool false))] ag bj fun gl cT=>?_
    refine wp_ret ?_
    refine qaE ?_
    refine qat ?_
    refine qat ?_
    refine qaE ?_
    refine qat ?_
    refine qaE ?_
    refine qat ?_
    refine qaG cT ag.cells (v:=.bool false) kz ?_
    refine ⟨congrArg (fun b_=>Ending.returned (Value.bool b_)) ?_,ag.step⟩
    first
     | (rw [qb0 ‹_›]; simp only [and1]; done)
     | (rw [qbd ‹_› ‹_›]; exact qbc hz (by omega); done)
     | (rw [qbd ‹_› ‹_›]; exact qa5 (k:=k) (by omega) (by omega) ‹_›; done)
     | (rw [qbt ‹_› ‹_› (by omega) ‹_›]; done)
     | (rw [qbC ‹_› ‹_› (by omega) ‹_›]; done)
     | (rw [qbD ‹_› ‹_› ‹_› ‹_› ‹_›]; done)
     | (rw [qbw ‹_› ‹_› ‹_› ‹_› ‹_› ‹_›,huu,qbg (by omega),Bool.true_and]; done)
     | (rw [qbf ‹_› ‹_› ‹_› ‹_› ‹_› ‹_›]; done)
     | (rw [qbw ‹_› ‹_› ‹_› ‹_› ‹_› ‹_›,huu,qfA aF (by simpa using bk),Bool.false_and]; done)
   refine wp_skip ?_
   refine qav ?_
   refine qab ?_
   refine qap [0,1] kz ?_
   refine qai [0,1] [] [(2,.p 0 0),(3,.p 1 0),(57,.v (.slice A9 l8.length aA)),(58,.v (.int .i64 ((l8.length:Nat):Int))),(59,.v (.int .i64 (IntKind.i64.wrap (((k:Nat):Int) + 1))))] ag bj fun gm cU=>?_
   refine qae (qab ?_)
   obtain ⟨bE,cV,cW⟩:=ag.cutB cU 2 [⟨dF,0,[.int .i64 k1,.int .i64 y2,.int .i64 y3,.int .i64 y4,.int .i64 y5,.int .i64 y6,.int .i64 y7,.slice A9 l8.length aA],true⟩,⟨dI,0,[.int .i64 af,.slice ah ab.length ai,.bool aC,.slice bS aK.length bT,.slice bt aB.length bu],true⟩] [(2,.p 0 0),(3,.p 1 0),(57,.v (.slice A9 l8.length aA)),(58,.v (.int .i64 ((l8.length:Nat):Int))),(59,.v (.int .i64 (IntKind.i64.wrap (((k:Nat):Int) + 1))))]
   have cX:IntKind.i64.wrap (((k:Nat):Int) + 1) = ((k + 1:Nat):Int):=qaO (by omega)
   rw [cX] at bE
   exact ⟨l8.length - (k + 1),by omega,k + 1,rfl,by omega,by rw [huu]; exact qfz aF (by simpa using bk),bE.pk,cV,((((((cA.trans cG).trans cJ).trans cM).trans bi).trans bC).trans cW)⟩
  have eZ:=of_decide_eq_false aZ
  refine wp_exit ?_
  refine qau ?_
  refine qau ?_
  refine qaH ?_
  refine qab ?_
  refine qac [0,1,2,3,4,5,6,7] kz ?_
  refine qai [0,1,2,3] [4,5,6,7] [(72,.v (.slice A9 l8.length aA)),(74,.v (.slice bt aB.length bu))] ac aY fun gn cY=>?_
  refine qaj (qal cY (f:=33) (vs:=[.slice A9 l8.length aA,.slice bt aB.length bu]) (d:=75) kz Tryd.call33 (qf4 _ _ l8 _ _ aB _ _ ⟨dD,(dE.move ac.step nilM ac.imm),(fun i_ x_ h_=>((em i_ x_ h_).move ac.step nilM ac.imm))⟩ (fh.move ac.step nilM ac.imm)) ?_)
  rintro e_ gp ⟨gq,gt,rfl,cZ,bn⟩
  have e9:=cZ.move (Step.refl _ Nil) nilM (ac.laid (G:=F) bn)
  refine ⟨_,rfl,fun gv c5=>?_⟩
  have bo:=ac.next_nil bn
  have fa:=ac.frN bn
  refine qai [5,6,7] [] [(4,.v (.bool ((((qag l8 aB).length:Nat):Int) == 0)))] bo c5 fun gw c6=>?_
  refine qae (qab ?_)
  refine wp_ret ?_
  refine qaE ?_
  refine qat ?_
  refine qaG c6 bo.cells (v:=.bool ((((qag l8 aB).length:Nat):Int) == 0)) kz ?_
  refine ⟨congrArg (fun b_=>Ending.returned (Value.bool b_)) ?_,bo.step⟩
  first
   | (rw [qb0 ‹_›]; simp only [and1]; done)
   | (rw [qbd ‹_› ‹_›]; exact qbc hz (by omega); done)
   | (rw [qbd ‹_› ‹_›]; exact qa5 (k:=k) (by omega) (by omega) ‹_›; done)
   | (rw [qbt ‹_› ‹_› (by omega) ‹_›]; done)
   | (rw [qbC ‹_› ‹_› (by omega) ‹_›]; done)
   | (rw [qbD ‹_› ‹_› ‹_› ‹_› ‹_›]; done)
   | (rw [qbw ‹_› ‹_› ‹_› ‹_› ‹_› ‹_›,huu,qbg (by omega),Bool.true_and]; done)
   | (rw [qbf ‹_› ‹_› ‹_› ‹_› ‹_› ‹_›]; done)
 have fb:k1 ≠ 10:=by simpa using aX
 refine wp_skip ?_
 refine qav ?_
 refine qab ?_
 refine qaZ 13 kz aa fun gx fe bF da=>?_
 refine qaM [0,1,2,3,6,7,8,9] [(79,.v (.int .i64 af)),(81,.v (.int .i64 k1)),(85,.v (.int .i64 y6)),(87,.v (.int .i64 k1))] 6 (qaa qaf) (fun _ h=>h.cells) da aW fun gy db=>?_
 refine qaJ (i:=4) kz (qal db (f:=54) (vs:=[.int .i64 k1]) (d:=82) kz Tryd.call54 (qhu k1 _) ?_)
 rintro e_ gz ⟨rfl,bG⟩
 refine ⟨_,rfl,fun gA dc=>?_⟩
 have bH:=bF.next_nil bG
 have ay:=bF.frN bG
 have de:=TT.ofW ay bH
 refine ⟨fun _=>de,?_⟩
 refine qaJ (i:=5) kz (qal dc (f:=52) (vs:=[.int .i64 af,.int .i64 ((qa7 k1:Nat):Int)]) (d:=83) kz Tryd.call52 (qeg af (qa7 k1) (by first | decide | exact qbq _ | omega) _) ?_)
 rintro e_ gB ⟨dg,dh,rfl,di,dj⟩
 refine ⟨_,rfl,fun gC dl=>?_⟩
 obtain ⟨bp,aG⟩:=bH.frFresh dj (brow dg dh 5 (be (qa7 k1) af)) (Nat.le_refl _) di
 have dp:=TT.ofW (ay.trans aG) bp
 refine ⟨fun _=>dp,?_⟩
 refine qaJ (i:=10) kz (qal dl (f:=54) (vs:=[.int .i64 k1]) (d:=88) kz Tryd.call54 (qhu k1 _) ?_)
 rintro e_ gD ⟨rfl,bI⟩
 refine ⟨_,rfl,fun gE dq=>?_⟩
 have bJ:=bp.next_nil bI
 have bq:=bp.frN bI
 have dr:=TT.ofW ((ay.trans aG).trans bq) bJ
 refine ⟨fun _=>dr,?_⟩
 refine qaJ (i:=11) kz (qal dq (f:=52) (vs:=[.int .i64 y6,.int .i64 ((qa7 k1:Nat):Int)]) (d:=89) kz Tryd.call52 (qeg y6 (qa7 k1) (by first | decide | exact qbq _ | omega) _) ?_)
 rintro e_ gF ⟨dt,du,rfl,dv,dw⟩
 refine ⟨_,rfl,fun gG dx=>?_⟩
 obtain ⟨az,bK⟩:=bJ.frFresh dw (brow dt du 5 (be (qa7 k1) y6)) (Nat.le_refl _) dv
 have dy:=TT.ofW (((ay.trans aG).trans bq).trans bK) az
 refine ⟨fun _=>dy,?_⟩
 refine qaJ (i:=12) kz (qal dx (f:=53) (vs:=[.slice dg ((be (qa7 k1) af).length) dh,.slice dt ((be (qa7 k1) y6).length) du]) (d:=90) kz Tryd.call53 (qjV _ _ _ _ (be (qa7 k1) af) (be (qa7 k1) y6) _ _ (qds (az.own 0 _ rfl) (by first | omega | (rw [qby]; decide) | (simp only [be_length]; exact Nat.le_trans (qbq _) (by decide)) | (have:=hroom; omega) | (have:=hmade; omega) | (simp only [List.length_append,List.length_nil]; omega)) (F:=fun _ _=>True) (fun _ _ _=>trivial)) (qds (az.own 1 _ rfl) (by first | omega | (rw [qby]; decide) | (simp only [be_length]; exact Nat.le_trans (qbq _) (by decide)) | (have:=hroom; omega) | (have:=hmade; omega) | (simp only [List.length_append,List.length_nil]; omega)) (F:=fun _ _=>True) (fun _ _ _=>trivial))) ?_)
 rintro e_ gH ⟨rfl,bL⟩
 refine ⟨_,rfl,fun gI dz=>?_⟩
 have aH:=az.next_nil bL
 have dA:=az.frN bL
 have dB:=TT.ofW ((((ay.trans aG).trans bq).trans bK).trans dA) aH
 refine ⟨fun _=>dB,?_⟩
 refine qaJ (i:=13) kz (qbB [4] aH.cells dz (env':=[(4,.v (.bool (decide (be (qa7 k1) af = be (qa7 k1) y6))))]) kz fun gJ dC=>?_)
 refine ⟨fun h=>absurd rfl h,?_⟩
 refine qaN kz ?_ _
 refine qab ?_
 refine wp_ret ?_
 refine qaG dC aH.cells (v:=.bool (decide (be (qa7 k1) af = be (qa7 k1) y6))) kz ?_
 refine ⟨congrArg (fun b_=>Ending.returned (Value.bool b_)) ?_,aH.step⟩
 first
  | (rw [qb0 ‹_›]; simp only [and1]; done)
  | (rw [qbd ‹_› ‹_›]; exact qbc hz (by omega); done)
  | (rw [qbd ‹_› ‹_›]; exact qa5 (k:=k) (by omega) (by omega) ‹_›; done)
  | (rw [qbt ‹_› ‹_› (by omega) ‹_›]; done)
  | (rw [qbC ‹_› ‹_› (by omega) ‹_›]; done)
  | (rw [qbD ‹_› ‹_› ‹_› ‹_› ‹_›]; done)
  | (rw [qbw ‹_› ‹_› ‹_› ‹_› ‹_› ‹_›,huu,qbg (by omega),Bool.true_and]; done)
  | (rw [qbf ‹_› ‹_› ‹_› ‹_› ‹_› ‹_›]; done)
theorem qiG:∀ d,qhy d
 | 0=>fun cf f ct t w F hf hd ht=>by
  obtain ⟨k,x1,x2,x3,x4,x5,x6,l,A,c,xs,rfl,_⟩:=hf.open_
  rw [qdW] at hd; omega
 | d + 1=>qfG (qiG d)
end Go.Proofs.YtcbpjflgkefidaaDoor.ME