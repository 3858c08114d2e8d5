/- Packed. Own work. -/
import Derived.Test.YtoclgihkbmaolaaGreatDoorWt0P0
import Derived.Test.YtoclgihkbmaolaaGreatDoorRows
import Derived.WalkKit
import Derived.ProofKit
import Derived.OpenShut
import Derived.JoinedCond
import Derived.WideKeyArgs
import Derived.ChangeSame
import Derived.Laws.BytesArg
import Derived.Test.YtoclgihkbmaolaaGreatDoorProg
namespace Go.Proofs.YtoclgihkbmaolaaGreatDoor.ME
open Go
open Go.RowKit
set_option linter.unusedVariables false
set_option linter.unusedSimpArgs false
set_option maxRecDepth 20000
theorem Eg:∀ {l:List Fld} {i:Nat} {f:Fld},l[i]? = some f → f.depth ≤ depths l
 | [],i,f,h=>by simp at h
 | a :: r,0,f,h=>by
  simp only [List.getElem?_cons_zero,Option.some.injEq] at h
  subst h
  exact Nat.le_max_left _ _
 | a :: r,i + 1,f,h=>by
  have:=Eg (l:=r) (i:=i) (f:=f) (by simpa using h)
  exact Nat.le_trans this (Nat.le_max_right _ _)
theorem Eh (k x1 x2 x3 x4 x5 x6:Int) (l:List Fld):(Fld.mk k x1 x2 x3 x4 x5 x6 l).depth = depths l + 1:=by rw [Fld.depth]
section
variable {k x1 x2 x3 x4 x5 x6 n:Int} {l:List Fld} {s:Bs} {b:Bool} {ll:List Tree} {u:List (Int × Bs)}
theorem U4 (h:k = 0):Fld.usual (.mk k x1 x2 x3 x4 x5 x6 l) (.mk n s b ll u) = (n % 2 == x5):=by
 subst h; rw [Fld.usual,if_pos rfl]; simp [Tree.N]; rfl
theorem N3 (h0:k ≠ 0) (h:k = 7):Fld.usual (.mk k x1 x2 x3 x4 x5 x6 l) (.mk n s b ll u) = (s.take 16).all (· == 0):=by
 rw [Fld.usual,if_neg h0,if_pos h]; rfl
theorem U5 (h0:k ≠ 0) (h7:k ≠ 7) (h:k = 8 ∨ k = 9) (hn:x3 ≥ 0):Fld.usual (.mk k x1 x2 x3 x4 x5 x6 l) (.mk n s b ll u) = b:=by
 rw [Fld.usual,if_neg h0,if_neg h7,if_pos h,if_pos hn]; rfl
theorem U6 (h0:k ≠ 0) (h7:k ≠ 7) (h:k = 8 ∨ k = 9) (hn:¬ x3 ≥ 0):Fld.usual (.mk k x1 x2 x3 x4 x5 x6 l) (.mk n s b ll u) = (((s.length:Nat):Int) == 0):=by
 rw [Fld.usual,if_neg h0,if_neg h7,if_pos h,if_neg hn,Bool.eq_iff_iff,decide_eq_true_iff,beq_iff_eq]
 show s.length = 0 ↔ _
 omega
theorem U7 (h0:k ≠ 0) (h7:k ≠ 7) (h8:k ≠ 8) (h9:k ≠ 9) (h:k = 11):Fld.usual (.mk k x1 x2 x3 x4 x5 x6 l) (.mk n s b ll u) = (((ll.length:Nat):Int) == 0):=by
 rw [Fld.usual,if_neg h0,if_neg h7,if_neg (by rintro (h | h); exact h8 h; exact h9 h),if_pos h,Bool.eq_iff_iff,decide_eq_true_iff,beq_iff_eq]
 show ll.length = 0 ↔ _
 omega
theorem T1 (h0:k ≠ 0) (h7:k ≠ 7) (h8:k ≠ 8) (h9:k ≠ 9) (h11:k ≠ 11) (h:k = 10):Fld.usual (.mk k x1 x2 x3 x4 x5 x6 l) (.mk n s b ll u) = (usuals l (.mk n s b ll u) 0 && (((C4 l u).length:Nat):Int) == 0):=by
 rw [Fld.usual,if_neg h0,if_neg h7,if_neg (by rintro (h | h); exact h8 h; exact h9 h),if_neg h11,if_pos h]
 congr 1
 rw [Bool.eq_iff_iff,decide_eq_true_iff,beq_iff_eq]
 show (C4 l u).length = 0 ↔ _
 omega
theorem U8 (h0:k ≠ 0) (h7:k ≠ 7) (h8:k ≠ 8) (h9:k ≠ 9) (h11:k ≠ 11) (h10:k ≠ 10):Fld.usual (.mk k x1 x2 x3 x4 x5 x6 l) (.mk n s b ll u) = decide (be (I5 k) n = be (I5 k) x5):=by
 rw [Fld.usual,if_neg h0,if_neg h7,if_neg (by rintro (h | h); exact h8 h; exact h9 h),if_neg h11,if_neg h10]; rfl
end
theorem U9 {s:Bs} {k:Nat} (h:∀ q,q < k → q < 16 → (((s.getD q 0).toNat:Nat):Int) = 0) (hk:s.length ≤ k):true = (s.take 16).all (· == 0):=by
 symm
 rw [List.all_eq_true]
 intro x hx
 obtain ⟨i,hi,rfl⟩:=List.getElem_of_mem hx
 rw [List.length_take] at hi
 have:=h i (by omega) (by omega)
 rw [List.getD_eq_getElem?_getD,List.getElem?_eq_getElem (show i < s.length by omega)] at this
 rw [List.getElem_take]
 simp only [Option.getD_some] at this
 have h0:s[i].toNat = 0:=by omega
 have:s[i] = 0:=UInt8.toNat.inj h0
 simp [this]
theorem V0 {s:Bs} {k:Nat} (hk:k < s.length) (h:k < 16) (hn:(((s.getD k 0).toNat:Nat):Int) ≠ 0):false = (s.take 16).all (· == 0):=by
 symm
 rw [← Bool.not_eq_true,List.all_eq_true]
 intro hall
 have:=hall s[k] (by
  rw [List.mem_iff_getElem?]
  exact ⟨k,by rw [List.getElem?_take,if_pos h,List.getElem?_eq_getElem hk]⟩)
 rw [List.getD_eq_getElem?_getD,List.getElem?_eq_getElem hk] at hn
 simp only [beq_iff_eq] at this
 rw [this] at hn
 exact hn rfl
theorem T2 {α:Type} {l:List α} {k:Nat} {x:α} (h:l[k]? = some x):l.drop k = x :: l.drop (k + 1):=by
 obtain ⟨hk,rfl⟩:=List.getElem?_eq_some_iff.1 h
 exact List.drop_eq_getElem_cons hk
theorem Lq {l:List Fld} {k:Nat} {f:Fld} {T:Tree} (h:l[k]? = some f) (hu:f.usual (T.at_ k) = true):usuals (l.drop k) T k = usuals (l.drop (k + 1)) T (k + 1):=by
 rw [T2 h]
 show (f.usual (T.at_ k) && usuals (l.drop (k + 1)) T (k + 1)) = _
 rw [hu,Bool.true_and]
theorem Lr {l:List Fld} {k:Nat} {f:Fld} {T:Tree} (h:l[k]? = some f) (hu:f.usual (T.at_ k) = false):usuals (l.drop k) T k = false:=by
 rw [T2 h]
 show (f.usual (T.at_ k) && usuals (l.drop (k + 1)) T (k + 1)) = _
 rw [hu,Bool.false_and]
theorem V1 {l:List Fld} {k:Nat} {T:Tree} (h:l.length ≤ k):usuals (l.drop k) T k = true:=by
 rw [List.drop_eq_nil_of_le h]; rfl
section
variable {W:Fld → Tree → Bs} {l:List Fld} {k:Nat} {a x1 x2 x3 x4 x5 x6 v:Int} {s:List Fld} {t:Tree} {m:Nat}
theorem Ei (h:l[k]? = some (.mk a x1 x2 x3 x4 x5 x6 s)) (h1:x4 < 0) (h2:Fld.has (.mk a x1 x2 x3 x4 x5 x6 s) v = true):D8 W (l.drop k) v t k = W (.mk a x1 x2 x3 x4 x5 x6 s) (t.at_ k) ++ D8 W (l.drop (k + 1)) v t (k + 1):=by
 rw [T2 h,D8,if_pos ⟨h1,h2⟩]
theorem Ls (h:l[k]? = some (.mk a x1 x2 x3 x4 x5 x6 s)) (h1:¬ x4 < 0):D8 W (l.drop k) v t k = D8 W (l.drop (k + 1)) v t (k + 1):=by
 rw [T2 h,D8,if_neg (fun h=>h1 h.1),List.nil_append]
theorem Lt (h:l[k]? = some (.mk a x1 x2 x3 x4 x5 x6 s)) (h2:Fld.has (.mk a x1 x2 x3 x4 x5 x6 s) v = false):D8 W (l.drop k) v t k = D8 W (l.drop (k + 1)) v t (k + 1):=by
 rw [T2 h,D8,if_neg (fun h=>by rw [h2] at h; cases h.2),List.nil_append]
theorem Ih (h:l.length ≤ k):D8 W (l.drop k) v t k = []:=by rw [List.drop_eq_nil_of_le h]; rfl
theorem Ct (h:l[k]? = some (.mk a x1 x2 x3 x4 x5 x6 s)) (h1:x4 = (m:Int)) (h2:Fld.usual (.mk a x1 x2 x3 x4 x5 x6 s) (t.at_ k) = false):I0 W (l.drop k) m t k = uv m ++ uv (W (.mk a x1 x2 x3 x4 x5 x6 s) (t.at_ k)).length ++ W (.mk a x1 x2 x3 x4 x5 x6 s) (t.at_ k) ++ I0 W (l.drop (k + 1)) m t (k + 1):=by
 rw [T2 h,I0,if_pos ⟨h1,h2⟩]
theorem Lu (h:l[k]? = some (.mk a x1 x2 x3 x4 x5 x6 s)) (h1:x4 ≠ (m:Int)):I0 W (l.drop k) m t k = I0 W (l.drop (k + 1)) m t (k + 1):=by
 rw [T2 h,I0,if_neg (fun h=>h1 h.1),List.nil_append]
theorem Lv (h:l[k]? = some (.mk a x1 x2 x3 x4 x5 x6 s)) (h2:Fld.usual (.mk a x1 x2 x3 x4 x5 x6 s) (t.at_ k) = true):I0 W (l.drop k) m t k = I0 W (l.drop (k + 1)) m t (k + 1):=by
 rw [T2 h,I0,if_neg (fun h=>by rw [h2] at h; cases h.2),List.nil_append]
theorem Lw (h:l.length ≤ k):I0 W (l.drop k) m t k = []:=by rw [List.drop_eq_nil_of_le h]; rfl
theorem Lx (h:l[k]? = some (.mk a x1 x2 x3 x4 x5 x6 s)) (h1:x4 = (m:Int)) (h2:Fld.usual (.mk a x1 x2 x3 x4 x5 x6 s) (t.at_ k) = false):H9 W (l.drop k) m t k = 1 + H9 W (l.drop (k + 1)) m t (k + 1):=by
 rw [T2 h,H9,if_pos ⟨h1,h2⟩]
theorem Ly (h:l[k]? = some (.mk a x1 x2 x3 x4 x5 x6 s)) (h1:x4 ≠ (m:Int)):H9 W (l.drop k) m t k = H9 W (l.drop (k + 1)) m t (k + 1):=by
 rw [T2 h,H9,if_neg (fun h=>h1 h.1),Nat.zero_add]
theorem Lz (h:l[k]? = some (.mk a x1 x2 x3 x4 x5 x6 s)) (h2:Fld.usual (.mk a x1 x2 x3 x4 x5 x6 s) (t.at_ k) = true):H9 W (l.drop k) m t k = H9 W (l.drop (k + 1)) m t (k + 1):=by
 rw [T2 h,H9,if_neg (fun h=>by rw [h2] at h; cases h.2),Nat.zero_add]
theorem LA (h:l.length ≤ k):H9 W (l.drop k) m t k = 0:=by rw [List.drop_eq_nil_of_le h]; rfl
theorem FU (n:Nat):0 < (uv n).length:=by
 rw [uv]; split <;> simp
theorem FV (W:Fld → Tree → Bs) (m:Nat) (t:Tree):∀ (l:List Fld) (i:Nat),H9 W l m t i ≤ (I0 W l m t i).length
 | [],i=>Nat.zero_le _
 | f :: r,i=>by
  have:=FV W m t r (i + 1)
  rw [H9,I0,List.length_append]
  split
  ·have h1:=FU m
   simp only [List.length_append]; omega
  simp; omega
theorem Ii (W:Fld → Tree → Bs) (l:List Fld) (t:Tree):∀ k,E0 W l t k ≤ (D1 W l t k).length
 | 0=>Nat.zero_le _
 | k + 1=>by
  have h1:=Ii W l t k
  have h2:=FV W k t l 0
  rw [E0,D1,List.length_append]; omega
theorem LB (W:Fld → Tree → Bs) (l:List Fld) (t:Tree) {i j:Nat} (h:i ≤ j):(D1 W l t i).length ≤ (D1 W l t j).length:=by
 induction j with
 | zero=>rw [Nat.le_zero.1 h]; omega
 | succ j ih =>
  rcases Nat.eq_or_lt_of_le h with he | he
  ·rw [he]; omega
  have:=ih (by omega)
  rw [D1,List.length_append]; omega
end
theorem Ij (W:Fld → Tree → Bs) (l:List Fld) (v:Int) (n:Int) (s:Bs) (b:Bool) (ll:List Tree) (u:List (Int × Bs)):N9 W l v true (.mk n s b ll u) =
  D8 W l v (.mk n s b ll u) 0 ++ uv (E0 W l (.mk n s b ll u) (D0 l).toNat + (C4 l u).length) ++ (D1 W l (.mk n s b ll u) (D0 l).toNat ++ F4 (C4 l u)):=by
 rw [N9,if_pos rfl,List.append_assoc]; rfl
theorem LC (W:Fld → Tree → Bs) (l:List Fld) (v:Int) (t:Tree):N9 W l v false t = D8 W l v t 0:=by
 rw [N9]; simp
theorem LD (l:List Fld):IntKind.i64.wrap (D0 l) = (((D0 l).toNat:Nat):Int):=by
 have:=FM l
 rw [wrap_i64 (by omega) (by omega)]; omega
theorem Ej {l:List (Int × Bs)} {k:Nat} {i:Int} {s:Bs} (h:l[k]? = some (i,s)):F4 (l.take (k + 1)) = F4 (l.take k) ++ (uv i.toNat ++ uv (C5 s).length ++ C5 s):=by
 unfold F4; exact HH h
theorem FW {l:List (Int × Bs)} (k:Nat):(F4 (l.take k)).length ≤ (F4 l).length:=by
 unfold F4; exact FL l _ k
theorem Ik:∀ {l:List Tree} {i:Nat} {x:Tree},l[i]? = some x → x.depth ≤ deep l
 | [],i,x,h=>by simp at h
 | a :: r,0,x,h=>by
  simp only [List.getElem?_cons_zero,Option.some.injEq] at h
  subst h
  exact Nat.le_max_left _ _
 | a :: r,i + 1,x,h=>Nat.le_trans (Ik (l:=r) (i:=i) (by simpa using h)) (Nat.le_max_right _ _)
theorem Il (n:Int) (s:Bs) (b:Bool) (l:List Tree) (u:List (Int × Bs)):(Tree.mk n s b l u).depth = deep l + 1:=by rw [Tree.depth]
theorem Ek {α:Type} {l:List α} {k:Nat} {x:α} (h:l[k]? = some x):l.take (k + 1) = l.take k ++ [x]:=by rw [List.take_add_one,h]; rfl
section
variable {F:Nat → Nat → Prop} {w0 w:World} {tb:Tb} {rs:List Rw}
theorem Cu (hW:WOk w0 C1 w tb rs) {k:Nat} {r:Rw} (hk:rs[k]? = some r):∀ g,r.A.map (·.block) = some g → ∀ o,Fp F w0 g o:=by
 intro g hg o
 rcases hW.ownM k r hk g hg with h | h
 ·exact .inr h
 exact (h 0).elim
theorem Im (hW:WOk w0 C1 w tb rs) {k:Nat} {A:Option Addr} {c e n:Nat} {xs:List Value} {l:List Tree} {css:List (List Value)} (hk:rs[k]? = some ⟨A,c,e,5,n,xs⟩) (hT:Trees w (E9 F w0 w tb rs) xs l css) (hn:n = l.length) (hsm:l.length ≤ 1099511627776) :
  Slots w (Fp F w0) 5 A c l.length (fun i=>css.getD i []) ∧ ∀ (i:Nat) (x:Tree),l[i]? = some x → TreeR w (Fp F w0) (css.getD i []) x :=
 (hT.move (Step.refl w C1) A7 I8).slots (hW.own k _ hk) hn hsm (Cu hW hk)
theorem LE (hW:WOk w0 C1 w tb rs) {k:Nat} {A:Option Addr} {c e n:Nat} {xs:List Value} {l:List (Int × Bs)} {css:List (List Value)} (hk:rs[k]? = some ⟨A,c,e,2,n,xs⟩) (hT:Tags w (E9 F w0 w tb rs) xs l css) (hn:n = l.length) (hsm:l.length ≤ 1099511627776):TagsR w (Fp F w0) A c l :=
 (hT.move (Step.refl w C1) A7 I8).slots (hW.own k _ hk) hn hsm (Cu hW hk)
theorem LF (hW:WOk w0 C1 w tb rs) {A1 A2 A3:Option Addr} {c1 c2 c3 n2 n3:Nat} {n:Int} {s:Bs} {b:Bool} {l:List Tree} {u:List (Int × Bs)} {xs:Nat → List Value} {m:Nat} (hm:m = s.length) (hS:Octs w (Fp F w0) A1 c1 s) (hn2:n2 = l.length) (hL:Slots w (Fp F w0) 5 A2 c2 l.length xs ∧ ∀ (i:Nat) (x:Tree),l[i]? = some x → TreeR w (Fp F w0) (xs i) x)
  (hn3:n3 = u.length) (hU:TagsR w (Fp F w0) A3 c3 u) {t:Tree} (ht:t = .mk n s b l u):T0 w0 F t (.returned (.agg #[.int .i64 n,.slice A1 m c1,.bool b,.slice A2 n2 c2,.slice A3 n3 c3])) w:=by
 subst hm; subst hn2; subst hn3; subst ht
 exact ⟨_,rfl,TreeR.mk xs hS hL.1 hL.2 hU,hW.step⟩
theorem LG {G:Nat → Nat → Prop}:∀ b o,G b o → b < w0.heap.size → Fp G w0 b o:=fun _ _ h _=>.inl h
end
theorem In (W:Fld → Tree → Tree) (t:Tree):∀ {l:List Fld} {i k:Nat} {f:Fld},l[k]? = some f → (BA W l t i)[k]? = some (W f (t.at_ (i + k)))
 | [],i,k,f,h=>by simp at h
 | a :: r,i,0,f,h=>by
  simp only [List.getElem?_cons_zero,Option.some.injEq] at h
  subst h; rfl
 | a :: r,i,k + 1,f,h=>by
  rw [BA,List.getElem?_cons_succ,In W t (l:=r) (i:=i + 1) (by simpa using h),show i + 1 + k = i + (k + 1) by omega]
theorem LH {W:Fld → Tree → Tree} {t:Tree} {l:List Fld} {k:Nat} {f:Fld} (h:l[k]? = some f):(BA W l t 0)[k]? = some (W f (t.at_ k)):=by
 have:=In W t (i:=0) h
 rwa [Nat.zero_add] at this
def N5 (u:List (Int × Bs)):List (Int × Bs):=u.map fun x=>(x.1,C5 x.2)
theorem LI {u:List (Int × Bs)} {k:Nat} {i:Int} {s:Bs} (h:u[k]? = some (i,s)):(N5 u)[k]? = some (i,C5 s):=by
 rw [N5,List.getElem?_map,h]; rfl
theorem Y3 (u:List (Int × Bs)):(N5 u).length = u.length:=by rw [N5,List.length_map]
theorem Io:∀ {l:List Fld} {f:Fld},plains l → f ∈ l → f.plain
 | [],f,_,h=>by cases h
 | a :: r,f,hp,h=>by
  rcases List.mem_cons.1 h with rfl | h
  ·exact hp.1
  exact Io (l:=r) hp.2 h
theorem LJ {f:Fld} (h:f.plain):plains f.sub:=by cases f; exact h.2
def FX (w:World):Ending → World → Prop:=fun en w'=>∃ b,en = .returned (.bool b) ∧ Step w w' C1
structure Flds (w:World) (F:Nat → Nat → Prop) (xs:List Value) (l:List Fld) (css:List (List Value)):Prop where
 flat:Flat 8 xs css
 len:css.length = l.length
 each:∀ (i:Nat) (c:List Value) (x:Fld),css[i]? = some c → l[i]? = some x → FldR w F c x
theorem Flds.nil (w:World) (F:Nat → Nat → Prop):Flds w F [] [] []:=⟨Flat.nil 8,rfl,fun i c x h=>by simp at h⟩
theorem FldR.eight {w:World} {F:Nat → Nat → Prop} {cs:List Value} {t:Fld} (h:FldR w F cs t):cs.length = 8:=by
 obtain ⟨k,x1,x2,x3,x4,x5,x6,l,A,c,xs,rfl,rfl,_⟩:=h.open_; rfl
theorem FldR.one {w:World} {F:Nat → Nat → Prop} {cs:List Value} {t:Fld} (h:FldR w F cs t):∀ u ∈ cs,u.oneCell' = true:=by
 obtain ⟨k,x1,x2,x3,x4,x5,x6,l,A,c,xs,rfl,rfl,_⟩:=h.open_
 intro v hv
 simp only [List.mem_cons,List.not_mem_nil,or_false] at hv
 rcases hv with rfl | rfl | rfl | rfl | rfl | rfl | rfl | rfl <;> rfl
theorem Flds.snoc {w:World} {F:Nat → Nat → Prop} {xs:List Value} {l:List Fld} {css:List (List Value)} (h:Flds w F xs l css) {c:List Value} {x:Fld} (hx:FldR w F c x):Flds w F (xs ++ c) (l ++ [x]) (css ++ [c]):=by
 refine ⟨h.flat.snoc hx.eight,by simp [h.len],fun i d y hd hy=>?_⟩
 rcases Y2 hd with ⟨h1,h2⟩ | ⟨h1,rfl⟩
 ·rcases Y2 hy with ⟨_,h3⟩ | ⟨h3,_⟩
  ·exact h.each i d y h2 h3
  have:=h.len; omega
 rcases Y2 hy with ⟨h3,_⟩ | ⟨_,rfl⟩
 ·have:=h.len; omega
 exact hx
theorem Flds.slots {w0 w:World} {tb:Tb} {rs:List Rw} {F:Nat → Nat → Prop} (hW:WOk w0 C1 w tb rs) {k e n:Nat} {A:Option Addr} {c:Nat} {xs:List Value} {l:List Fld} {css:List (List Value)} (hk:rs[k]? = some ⟨A,c,e,8,n,xs⟩) (h:Flds w (Fp F w0) xs l css) (hn:n = l.length) (hsm:l.length ≤ 1099511627776) :
  Slots w (Fp F w0) 8 A c l.length (fun i=>css.getD i []) ∧ ∀ (i:Nat) (x:Fld),l[i]? = some x → FldR w (Fp F w0) (css.getD i []) x:=by
 subst hn
 have ho:=hW.own k _ hk
 have h1:∀ u ∈ xs,u.oneCell' = true:=by
  intro v hv
  rw [h.flat.eq] at hv
  obtain ⟨c,hc,hv⟩:=List.mem_flatten.1 hv
  obtain ⟨i,hi,rfl⟩:=List.getElem_of_mem hc
  have hl:=h.len
  exact (h.each i _ _ (List.getElem?_eq_getElem hi) (List.getElem?_eq_getElem (show i < l.length by omega))).one v hv
 refine ⟨?_,fun i x hx=>?_⟩
 ·have hx:=h.flat
  simp only [Rw.v] at ho
  rw [← h.len] at ho ⊢
  exact hx.slots ho h1 (by rw [h.len]; exact hsm) (Cu hW hk)
 have hi:i < css.length:=by rw [h.len]; exact (List.getElem?_eq_some_iff.1 hx).1
 have:css.getD i [] = css[i]:=by rw [List.getD_eq_getElem?_getD,List.getElem?_eq_getElem hi]; rfl
 rw [this]
 exact h.each i _ x (List.getElem?_eq_getElem hi) hx
theorem H5 (w:World) (F:Nat → Nat → Prop):Slots w F 8 none 0 ([]:List Fld).length (fun _=>[]) ∧ ∀ (i:Nat) (x:Fld),([]:List Fld)[i]? = some x → FldR w F [] x :=
 ⟨Slots.nil w F 8 _,fun i x h=>by simp at h⟩
def LK (w:World) (F:Nat → Nat → Prop) (l:List Fld) (x:Int):Ending → World → Prop:=fun en w'=>∃ A c,en = .returned (.agg #[.slice A l.length c,.int .i64 x]) ∧ FldsR w' (Fp F w) A c l ∧ Step w w' C1
theorem Ip (y:Int × Bs) (r:List (Int × Bs)) (k:Int):S9 (y :: r) k = if y.1 < k then S9 r k + 1 else 0:=by
 unfold S9
 rw [List.takeWhile_cons]
 by_cases h:y.1 < k
 ·simp [h]
 simp [h]
theorem Iq {least:Int} {y t:Int × Bs} {r:List (Int × Bs)} (h:y.1 < t.1):L6 least (y :: r) t = y :: L6 least r t:=by
 unfold L6
 rw [Ip,if_pos h]
 simp only [List.length_cons,Nat.add_lt_add_iff_right,List.getD_cons_succ,List.take_succ_cons,List.drop_succ_cons,List.cons_append]
 split <;> rfl
theorem Ir {least:Int} {y t:Int × Bs} {r:List (Int × Bs)} (h:¬ y.1 < t.1):L6 least (y :: r) t = if t.1 < least ∨ y.1 = t.1 then y :: r else t :: y :: r:=by
 unfold L6
 rw [Ip,if_neg h]
 simp only [List.length_cons,Nat.zero_lt_succ,List.getD_cons_zero,List.take_zero,List.drop_zero,List.nil_append,true_and]
theorem Is {least:Int} {t:Int × Bs}:L6 least [] t = if t.1 < least then [] else [t]:=by
 unfold L6
 simp [S9]
theorem FY {least:Int} {t:Int × Bs}:∀ {out:List (Int × Bs)},∀ x ∈ L6 least out t,x = t ∨ x ∈ out
 | [],x,hx=>by
  rw [Is] at hx
  split at hx
  ·cases hx
  exact .inl (List.mem_singleton.1 hx)
 | y :: r,x,hx=>by
  by_cases h:y.1 < t.1
  ·rw [Iq h] at hx
   rcases List.mem_cons.1 hx with rfl | hx
   ·exact .inr (List.mem_cons_self ..)
   rcases FY x hx with h1 | h1
   ·exact .inl h1
   exact .inr (List.mem_cons_of_mem _ h1)
  rw [Ir h] at hx
  split at hx
  ·exact .inr hx
  rcases List.mem_cons.1 hx with rfl | hx
  ·exact .inl rfl
  exact .inr hx
theorem It {least:Int} {t:Int × Bs}:∀ {out:List (Int × Bs)},Q0 out → Q0 (L6 least out t)
 | [],_=>by
  rw [Is]
  split
  ·exact List.Pairwise.nil
  exact List.pairwise_singleton _ _
 | y :: r,h=>by
  have h1:=@List.rel_of_pairwise_cons _ _ _ _ h
  have h2:=List.Pairwise.of_cons h
  by_cases hlt:y.1 < t.1
  ·rw [Iq hlt]
   refine List.pairwise_cons.2 ⟨fun z hz=>?_,It h2⟩
   rcases FY z hz with rfl | hz
   ·exact hlt
   exact h1 hz
  rw [Ir hlt]
  split
  ·exact h
  rename_i hn
  refine List.pairwise_cons.2 ⟨fun z hz=>?_,h⟩
  rcases List.mem_cons.1 hz with rfl | hz
  ·omega
  have:=h1 hz; omega
theorem Iu {least:Int}:∀ {l out:List (Int × Bs)},Q0 out → Q0 (l.foldl (L6 least) out)
 | [],_,h=>h
 | x :: r,_,h=>Iu (l:=r) (It h)
theorem Iv {least:Int}:∀ {l out:List (Int × Bs)},(l.foldl (L6 least) out).length ≤ out.length + l.length
 | [],_=>Nat.le_refl _
 | x :: r,out=>by
  have h1:=Iv (least:=least) (l:=r) (out:=L6 least out x)
  have h2:=Lm least out x
  rw [List.foldl_cons,List.length_cons]
  omega
theorem Iw {least:Int}:∀ {l out:List (Int × Bs)},∀ x ∈ l.foldl (L6 least) out,x ∈ out ∨ x ∈ l
 | [],_,x,hx=>.inl hx
 | y :: r,out,x,hx=>by
  rcases Iw (l:=r) x hx with h | h
  ·rcases FY x h with rfl | h
   ·exact .inr (List.mem_cons_self ..)
   exact .inl h
  exact .inr (List.mem_cons_of_mem _ h)
theorem LL (l:List Fld) (u:List (Int × Bs)):Q0 (C4 l u):=Iu List.Pairwise.nil
theorem Ix (l:List Fld) (u:List (Int × Bs)):(C4 l u).length ≤ 32767:=by
 have h:=Iv (least:=D0 l) (l:=u.take 32767) (out:=[])
 rw [List.length_take,List.length_nil] at h
 unfold C4
 omega
theorem LM {l:List Fld} {u:List (Int × Bs)}:∀ x ∈ C4 l u,x ∈ u:=fun x hx=>by
 rcases Iw x hx with h | h
 ·cases h
 exact List.mem_of_mem_take h
theorem LN {u:List (Int × Bs)} (h:Q0 u):Q0 (N5 u):=List.pairwise_map.2 h
theorem El (u:List (Int × Bs)):I1 (N5 u) = F4 u:=by
 unfold I1 N5 F4 S5
 rw [List.flatMap_map]
theorem S6 (v:Int) (d:Nat) (l:List Fld) (t:Tree):(D2 v d l t).U = N5 (C4 l t.U):=by cases d <;> rfl
theorem Iy:∀ {u:List (Int × Bs)},(∀ x ∈ u,(0 ≤ x.1 ∧ x.1 < 4294967296) ∧ x.2.length ≤ 32767) → (I1 u).length ≤ 32800 * u.length
 | [],_=>Nat.le_refl _
 | x :: r,h=>by
  have h1:=h x (List.mem_cons_self ..)
  have h2:=Iy (u:=r) fun y hy=>h y (List.mem_cons_of_mem _ hy)
  have e:I1 (x :: r) = S5 x.1 x.2 ++ I1 r:=rfl
  have h3:=Eb x.1.toNat 5 (by omega) (by omega)
  have h4:=Eb x.2.length 5 (by omega) (by omega)
  rw [e,List.length_append,List.length_cons]
  unfold S5
  simp only [List.length_append]
  omega
theorem Cv {v:Int} {d:Nat} {l:List Fld} {t:Tree} {i:Nat} {f:Fld} (h:l[i]? = some f):(D2 v (d + 1) l t).at_ i = Q6 (D2 v d) v f (t.at_ i):=by
 have h1:=LH (W:=Q6 (D2 v d) v) (t:=t) h
 have e:(D2 v (d + 1) l t).L = BA (Q6 (D2 v d) v) l t 0:=rfl
 rw [Tree.at_,e,List.getD_eq_getElem?_getD,h1]
 rfl
theorem J6 {v:Int} {d:Nat} {l:List Fld} {t:Tree} {i:Nat} {k x1 x2 x3 x4 x5 x6:Int} {s:List Fld} (h:l[i]? = some (.mk k x1 x2 x3 x4 x5 x6 s)) (hk:k < 8):((D2 v (d + 1) l t).at_ i).N = (t.at_ i).N:=by
 rw [Cv h]
 have e1:k ≠ 11:=by omega
 have e2:¬ (k = 8 ∨ k = 9):=by omega
 have e3:k ≠ 10:=by omega
 simp [Q6,N2,Fld.kind,e1,e2,e3,Tree.N]
theorem BF {v:Int} {d:Nat} {l:List Fld} {t:Tree} {i:Nat} {k x1 x2 x3 x4 x5 x6:Int} {s:List Fld} (h:l[i]? = some (.mk k x1 x2 x3 x4 x5 x6 s)) (hk:k < 8):((D2 v (d + 1) l t).at_ i).S = (t.at_ i).S:=by
 rw [Cv h]
 have e1:k ≠ 11:=by omega
 have e2:¬ (k = 8 ∨ k = 9):=by omega
 have e3:k ≠ 10:=by omega
 simp [Q6,N2,Fld.kind,e1,e2,e3,Tree.S]
theorem Iz {v:Int} (h0:0 ≤ v) (h1:v < 32768):IntKind.i16.wrap v = v:=by
 have:IntKind.i16.wrap v = (v + 32768) % 65536 - 32768:=by simp [IntKind.wrap,IntKind.signed,IntKind.bits]; omega
 omega
theorem Dg (x:Int):be 8 (IntKind.i64.wrap x) = be 8 x:=by
 rw [IntKind.wrap_i64]
 simp only [be,List.cons.injEq,and_true]
 refine ⟨M7 ?_,M7 ?_,M7 ?_,M7 ?_,M7 ?_,M7 ?_,M7 ?_,M7 ?_⟩ <;> simp only [Int.reducePow] <;> omega
theorem Dh (x:Int):be 1 (IntKind.i8.wrap x) = be 1 x:=by
 have:IntKind.i8.wrap x = (x + 128) % 256 - 128:=by simp [IntKind.wrap,IntKind.signed,IntKind.bits]; omega
 rw [this]
 simp only [be,List.cons.injEq,and_true]
 refine M7 ?_
 simp only [Int.reducePow]; omega
def C3 (s:Bs):Bs:=(List.range 16).map fun i=>s.getD i 0
theorem Di (s:Bs):(C3 s).length = 16:=by simp [C3]
theorem Dj (s:Bs):C3 s = G1 s:=by
 apply List.ext_getElem?
 intro i
 unfold C3 G1
 rw [List.getElem?_map,List.getElem?_append,List.length_take]
 by_cases h:i < 16
 ·rw [List.getElem?_range h]
  by_cases hs:i < s.length
  ·rw [if_pos (by omega),List.getElem?_take,if_pos h,Option.map_some,List.getD_eq_getElem?_getD,List.getElem?_eq_getElem hs]; rfl
  rw [if_neg (by omega),List.getElem?_replicate,if_pos (by omega),Option.map_some,List.getD_eq_getElem?_getD,List.getElem?_eq_none (by omega)]; rfl
 rw [List.getElem?_eq_none (by simp; omega)]
 by_cases hs:i < min 16 s.length
 ·omega
 rw [if_neg hs,List.getElem?_replicate,if_neg (by omega)]; rfl
theorem LO {x m:Int} (h0:0 ≤ x) (h1:x ≤ 255) (hm:0 < m) (hm':m ≤ 32768):0 ≤ Int.tmod x m ∧ Int.tmod x m < 32768:=by
 rw [Int.tmod_eq_emod_of_nonneg h0]
 have g1:=Int.emod_nonneg x (show m ≠ 0 by omega)
 have g2:=Int.emod_lt_of_pos x hm
 omega
def J5:List (Int × Bs) → Nat
 | []=>0
 | x :: r=>(1 + (uv x.1.toNat).length + x.2.length) + J5 r
def Tree.size:Tree → Nat
 | .mk _ s _ l u=>sizes l + (1 + s.length + J5 u)
where sizes:List Tree → Nat
 | []=>0
 | t :: r=>t.size + sizes r
abbrev sizes:=Tree.size.sizes
theorem Tree.size_mk (n:Int) (s:Bs) (b:Bool) (l:List Tree) (u:List (Int × Bs)):(Tree.mk n s b l u).size = sizes l + (1 + s.length + J5 u):=by rw [Tree.size]
theorem Tree.size_pos (t:Tree):1 ≤ t.size:=by cases t; rw [Tree.size_mk]; omega
theorem Tree.size_S (t:Tree):t.S.length ≤ t.size:=by cases t; rw [Tree.size_mk]; show List.length _ ≤ _; simp only [Tree.S]; omega
theorem Tree.size_U (t:Tree):J5 t.U ≤ t.size:=by cases t; rw [Tree.size_mk]; simp only [Tree.U]; omega
theorem Tree.size_L (t:Tree):sizes t.L ≤ t.size:=by cases t; rw [Tree.size_mk]; simp only [Tree.L]; omega
theorem IA:∀ {l:List Tree} {i:Nat} {x:Tree},l[i]? = some x → x.size ≤ sizes l
 | [],i,x,h=>by simp at h
 | t :: r,0,x,h=>by
  simp only [List.getElem?_cons_zero,Option.some.injEq] at h
  subst h
  exact Nat.le_add_right _ _
 | t :: r,i + 1,x,h=>Nat.le_trans (IA (l:=r) (i:=i) (by simpa using h)) (Nat.le_add_left _ _)
theorem IB:∀ (l:List Tree) (k:Nat),sizes (l.take k) ≤ sizes l
 | [],k=>by simp
 | t :: r,0=>Nat.zero_le _
 | t :: r,k + 1=>Nat.add_le_add_left (IB r k) _
theorem LP:∀ (l:List Tree),l.length ≤ sizes l
 | []=>Nat.zero_le _
 | t :: r=>by
  have h1:=t.size_pos
  have h2:=LP r
  show r.length + 1 ≤ t.size + sizes r
  omega
theorem IC (t:Tree) (i:Nat):(t.at_ i).size ≤ t.size:=by
 unfold Tree.at_
 rw [List.getD_eq_getElem?_getD]
 cases h:t.L[i]? with
 | none =>
  have h1:=t.size_pos
  have:Tree.zero.size = 1:=by unfold Tree.zero; rw [Tree.size_mk]; rfl
  show Tree.zero.size ≤ _
  omega
 | some x=>exact Nat.le_trans (IA h) t.size_L
theorem FZ:∀ (a b:List (Int × Bs)),J5 (a ++ b) = J5 a + J5 b
 | [],b=>by simp [J5]
 | x :: r,b=>by
  show (1 + _ + _) + J5 (r ++ b) = (1 + _ + _) + J5 r + J5 b
  rw [FZ r b]; omega
theorem LQ (k:Int) (out:List (Int × Bs)) (t:Int × Bs):J5 (L6 k out t) ≤ J5 out + J5 [t]:=by
 unfold L6
 dsimp only
 split
 ·omega
 have h:J5 out = J5 (out.take (S9 out t.1)) + J5 (out.drop (S9 out t.1)):=by rw [← FZ,List.take_append_drop]
 rw [FZ]
 show _ + (_ + J5 (out.drop _)) ≤ _
 rw [h]
 simp only [J5]
 omega
theorem ID (k:Int):∀ (l out:List (Int × Bs)),J5 (l.foldl (L6 k) out) ≤ J5 out + J5 l
 | [],out=>by simp [J5]
 | t :: r,out=>by
  rw [List.foldl_cons]
  refine Nat.le_trans (ID k r _) ?_
  have:=LQ k out t
  simp only [J5] at this ⊢
  omega
theorem IE:∀ (l:List (Int × Bs)) (k:Nat),J5 (l.take k) ≤ J5 l
 | [],k=>by simp
 | t :: r,0=>Nat.zero_le _
 | t :: r,k + 1=>Nat.add_le_add_left (IE r k) _
theorem LR (l:List Fld) (u:List (Int × Bs)):J5 (C4 l u) ≤ J5 u:=by
 unfold C4
 refine Nat.le_trans (ID _ _ _) ?_
 have:=IE u 32767
 simp only [J5]; omega
theorem IF (s:Bs):(C5 s).length ≤ s.length:=by simp only [C5,List.length_take]; omega
theorem IG:∀ (l:List (Int × Bs)),(F4 l).length ≤ 10 * J5 l
 | []=>by simp [F4]
 | x :: r=>by
  have h1:=IG r
  have h2:=Db (C5 x.2).length (by have:=J7 x.2; omega)
  have h3:=IF x.2
  unfold F4 at h1 ⊢
  rw [List.flatMap_cons,List.length_append,List.length_append,List.length_append]
  show _ ≤ 10 * ((1 + _ + _) + J5 r)
  omega
theorem Dk:∀ (n:Nat),(uv n).length ≤ n + 1:=by
 intro n
 induction n using Nat.strongRecOn with
 | _ n ih =>
  by_cases h:n < 128
  ·rw [W4 h]; simp
  rw [W5 (by omega),List.length_cons]
  have:=ih (n / 128) (by omega)
  omega
def Fld.cost:Fld → Nat
 | .mk _ _ _ _ _ _ _ sub=>64 + ((1 + 3 * (D0 sub).toNat) * costs sub + 64)
where costs:List Fld → Nat
 | []=>0
 | f :: r=>(20 + f.cost) + costs r
abbrev costs:=Fld.cost.costs
def BG (l:List Fld):Nat:=(1 + 3 * (D0 l).toNat) * costs l + 64
theorem LS (f:Fld):f.cost = 64 + BG f.sub:=by
 cases f; rw [Fld.cost]; rfl
theorem Ga (f:Fld) (r:List Fld):costs (f :: r) = (20 + f.cost) + costs r:=by
 show Fld.cost.costs (f :: r) = _
 rw [Fld.cost.costs]
theorem IH {p:Tree → Bs} {c:Nat} (hp:∀ t,(p t).length ≤ c * t.size) (kind:Int) (null flex:Bool) (t:Tree):(F1 p kind null flex t).length ≤ (32 + c) * t.size:=by
 have h1:=t.size_pos
 have h2:=t.size_S
 have hm:(32 + c) * t.size = 32 * t.size + c * t.size:=Nat.add_mul _ _ _
 have hs:∀ (n:Nat),n ≤ 8 → (D9 flex null (if null = true then ([]:Bs) else C5 t.S).length n ++ (if null = true then ([]:Bs) else C5 t.S)).length ≤ 32 * t.size:=by
  intro n hn
  have h3:(if null = true then ([]:Bs) else C5 t.S).length ≤ t.S.length:=by
   split
   ·exact Nat.zero_le _
   exact IF _
  have h5:(if null = true then ([]:Bs) else C5 t.S).length ≤ 32767:=by
   split
   ·exact Nat.zero_le _
   exact J7 _
  have h4:=FK flex null (if null = true then ([]:Bs) else C5 t.S).length n (by omega) hn
  rw [List.length_append]; omega
 unfold F1
 split
 ·show 1 ≤ _; omega
 split
 ·rw [P9]; omega
 split
 ·have:=hs 2 (by omega); exact Nat.le_trans this (by omega)
 split
 ·have:=hs 4 (by omega); exact Nat.le_trans this (by omega)
 split
 ·have:=hp t; omega
 rw [be_length]; have:=P7 kind; omega
theorem II {g:Tree → Bs} {c:Nat} (hg:∀ t,(g t).length ≤ c * t.size):∀ (l:List Tree),(l.flatMap g).length ≤ c * sizes l
 | []=>by simp
 | t :: r=>by
  have h1:=hg t
  have h2:=II hg r
  rw [List.flatMap_cons,List.length_append]
  show _ ≤ c * (t.size + sizes r)
  rw [Nat.mul_add]; omega
theorem LT {p:Tree → Bs} {c:Nat} (hp:∀ t,(p t).length ≤ c * t.size) (f:Fld) (v:Int) (flex:Bool) (t:Tree):(O9 p f v flex t).length ≤ (64 + c) * t.size:=by
 have h1:=t.size_pos
 have h2:=t.size_L
 have hm:(64 + c) * t.size = 64 * t.size + c * t.size:=Nat.add_mul _ _ _
 have hm2:(32 + c) * t.size = 32 * t.size + c * t.size:=Nat.add_mul _ _ _
 unfold O9
 dsimp only
 split
 ·rw [List.length_append]
  have hl:(if f.nul v t = true then ([]:List Tree) else B9 t.L).length ≤ 32767:=by
   split
   ·exact Nat.zero_le _
   exact BD _
  have h3:=FK flex (f.nul v t) (if f.nul v t = true then ([]:List Tree) else B9 t.L).length 4 (by omega) (by omega)
  have h4:=II (g:=fun x=>F1 p f.of false flex x) (fun x=>IH hp f.of false flex x) (if f.nul v t = true then ([]:List Tree) else B9 t.L)
  have h5:sizes (if f.nul v t = true then ([]:List Tree) else B9 t.L) ≤ t.size:=by
   split
   ·exact Nat.zero_le _
   exact Nat.le_trans (IB _ _) h2
  have h6:(32 + c) * sizes (if f.nul v t = true then ([]:List Tree) else B9 t.L) ≤ (32 + c) * t.size:=Nat.mul_le_mul_left _ h5
  omega
 split
 ·split
  ·rw [be_length]; omega
  rw [List.length_append,be_length]
  have:=hp t
  omega
 have:=IH hp f.kind (f.nul v t) flex t
 omega
section
variable {w:Fld → Tree → Bs}
theorem IJ (v:Int) (t:Tree):∀ (l:List Fld) (i:Nat),(∀ f ∈ l,∀ t,(w f t).length ≤ f.cost * t.size) → (D8 w l v t i).length ≤ costs l * t.size
 | [],i,_=>by simp [D8]
 | f :: r,i,h=>by
  have h1:=IJ v t r (i + 1) fun g hg=>h g (List.mem_cons_of_mem _ hg)
  have h2:f.cost * (t.at_ i).size ≤ f.cost * t.size:=Nat.mul_le_mul_left _ (IC t i)
  have h3:=h f (List.mem_cons_self ..) (t.at_ i)
  rw [D8,List.length_append,Ga,Nat.add_mul,Nat.add_mul]
  have h4:(if f.tag < 0 ∧ f.has v = true then w f (t.at_ i) else []).length ≤ f.cost * t.size:=by
   split
   ·omega
   exact Nat.zero_le _
  omega
theorem IK (t:Tree) (k:Nat) (hk:k < 18446744073709551616):∀ (l:List Fld) (i:Nat),(∀ f ∈ l,∀ t,(w f t).length ≤ f.cost * t.size) → (I0 w l k t i).length ≤ 2 * (costs l * t.size)
 | [],i,_=>by simp [I0]
 | f :: r,i,h=>by
  have h1:=IK t k hk r (i + 1) fun g hg=>h g (List.mem_cons_of_mem _ hg)
  have h2:f.cost * (t.at_ i).size ≤ f.cost * t.size:=Nat.mul_le_mul_left _ (IC t i)
  have h3:=h f (List.mem_cons_self ..) (t.at_ i)
  have h5:=t.size_pos
  have h6:=Db k hk
  have h7:=Dk (w f (t.at_ i)).length
  rw [I0,List.length_append,Ga,Nat.add_mul,Nat.add_mul]
  have h4:(if f.tag = k ∧ f.usual (t.at_ i) = false then uv k ++ uv (w f (t.at_ i)).length ++ w f (t.at_ i) else []).length ≤ 11 + 2 * (f.cost * t.size):=by
   split
   ·rw [List.length_append,List.length_append]; omega
   exact Nat.zero_le _
  omega
theorem IL (t:Tree) {l:List Fld} (h:∀ f ∈ l,∀ t,(w f t).length ≤ f.cost * t.size):∀ (k:Nat),k < 18446744073709551616 → (D1 w l t k).length ≤ 2 * (k * (costs l * t.size))
 | 0,_=>by simp [D1]
 | k + 1,hk=>by
  have h1:=IL t h k (by omega)
  have h2:=IK t k (by omega) l 0 h
  rw [D1,List.length_append,Nat.add_mul]
  omega
theorem IM (t:Tree) (k:Nat):∀ (l:List Fld) (i:Nat),H9 w l k t i ≤ costs l
 | [],i=>by simp [H9]
 | f :: r,i=>by
  have h1:=IM t k r (i + 1)
  rw [H9,Ga]
  split <;> omega
theorem IN (t:Tree) (l:List Fld):∀ (k:Nat),E0 w l t k ≤ k * costs l
 | 0=>by simp [E0]
 | k + 1=>by
  have h1:=IN t l k
  have h2:=IM (w:=w) t k l 0
  rw [E0,Nat.add_mul]
  omega
theorem IP:∀ (u:List (Int × Bs)),u.length ≤ J5 u
 | []=>Nat.le_refl _
 | x :: r=>by
  have:=IP r
  rw [List.length_cons]
  simp only [J5]; omega
theorem IQ {l:List Fld} (h:∀ f ∈ l,∀ t,(w f t).length ≤ f.cost * t.size) (hk:(D0 l).toNat < 18446744073709551616) (v:Int) (flex:Bool) (t:Tree):(N9 w l v flex t).length ≤ BG l * t.size:=by
 have h0:=t.size_pos
 have h1:=IJ v t l 0 h
 have h2:=IL t h _ hk
 have h3:=IN (w:=w) t l (D0 l).toNat
 have h4:=IG (C4 l t.U)
 have h5:=LR l t.U
 have h6:=t.size_U
 have h7:=IP (C4 l t.U)
 have h8:=Dk (E0 w l t (D0 l).toNat + (C4 l t.U).length)
 have e1:BG l * t.size = (costs l * t.size + 3 * ((D0 l).toNat * (costs l * t.size))) + 64 * t.size:=by
  unfold BG
  rw [Nat.add_mul,Nat.add_mul,Nat.one_mul,Nat.add_mul,Nat.mul_assoc,Nat.mul_assoc]
 have e3:(D0 l).toNat * costs l ≤ (D0 l).toNat * (costs l * t.size):=Nat.mul_le_mul_left _ (Nat.le_mul_of_pos_right _ h0)
 unfold N9
 rw [List.length_append,e1]
 split
 ·rw [List.length_append,List.length_append]; omega
 simp only [List.length_nil]; omega
end
theorem IR (l:List Fld):(D0 l).toNat < 18446744073709551616:=by
 have h:=FM l
 omega
theorem IS:∀ (d:Nat) (l:List Fld) (v:Int) (flex:Bool) (t:Tree),(E2 d l v flex t).length ≤ BG l * t.size
 | 0,l,v,flex,t=>IQ (fun f _ t=>by simp) (IR l) v flex t
 | d + 1,l,v,flex,t=>IQ (fun f _ t=>by
   rw [LS]
   exact LT (fun t=>IS d f.sub v flex t) f v flex t) (IR l) v flex t
theorem LU (d:Nat) (l:List Fld) (x v:Int) (t:Tree):(P6 d l x v t).length ≤ BG l * t.size:=IS d l v _ t
end Go.Proofs.YtoclgihkbmaolaaGreatDoor.ME
namespace Go.Proofs.YtoclgihkbmaolaaGreatDoor.ME
open Go
open Go.Proofs.YtoclgihkbmaolaaGreatDoor.Rows (uptoBulk uptoBulkAll)
set_option linter.unusedVariables false
set_option linter.unusedSimpArgs false
def Tree.i64s:Tree → Prop
 | .mk n _ _ l _=>(-9223372036854775808 ≤ n ∧ n ≤ 9223372036854775807) ∧ i64ss l
where i64ss:List Tree → Prop
 | []=>True
 | t :: r=>t.i64s ∧ i64ss r
abbrev i64ss:=Tree.i64s.i64ss
theorem Gb:∀ {l:List Tree},i64ss l → ∀ x ∈ l,x.i64s
 | [],_,x,h=>by cases h
 | t :: r,hr,x,h=>by
  rcases List.mem_cons.1 h with rfl | h
  ·exact hr.1
  exact Gb (l:=r) hr.2 x h
theorem IT:∀ {l:List Tree},(∀ x ∈ l,x.i64s) → i64ss l
 | [],_=>trivial
 | t :: r,h=>⟨h t List.mem_cons_self,IT (l:=r) fun x hx=>h x (List.mem_cons_of_mem _ hx)⟩
theorem Gc {H:Type} (d:DataW H):1 ≤ uptoBulk d:=by cases d <;> first | (unfold uptoBulk; omega) | (rename_i l; cases l <;> (unfold uptoBulk; omega))
theorem Gd {H:Type}:∀ (l:List (DataW H)),l.length ≤ uptoBulkAll l
 | []=>Nat.zero_le _
 | d :: r=>by
  have h1:=Gc d
  have h2:=Gd r
  unfold uptoBulkAll
  rw [List.length_cons]; omega
theorem Em {H:Type}:∀ {l:List (DataW H)} {d:DataW H},d ∈ l → uptoBulk d ≤ uptoBulkAll l
 | [],d,h=>by cases h
 | a :: r,d,h=>by
  unfold uptoBulkAll
  rcases List.mem_cons.1 h with rfl | h
  ·omega
  have:=Em h; omega
theorem IU {α β:Type} {f:α → Option β}:∀ {l:List α} {r:List β},l.mapM f = some r → r.length = l.length ∧ ∀ (i:Nat) (a:α),l[i]? = some a → ∃ b,f a = some b ∧ r[i]? = some b
 | [],r,h=>by
  simp only [List.mapM_nil,Option.pure_def,Option.some.injEq] at h
  subst h
  exact ⟨rfl,fun i a h=>by simp at h⟩
 | x :: l,r,h=>by
  rw [List.mapM_cons] at h
  cases hx:f x with
  | none=>rw [hx] at h; cases h
  | some y =>
   rw [hx] at h
   cases hl:l.mapM f with
   | none=>rw [hl] at h; cases h
   | some ys =>
    rw [hl] at h
    obtain rfl:y :: ys = r:=Option.some.inj h
    obtain ⟨h1,h2⟩:=IU hl
    refine ⟨by simp [h1],fun i a ha=>?_⟩
    cases i with
    | zero =>
     simp only [List.getElem?_cons_zero,Option.some.injEq] at ha
     subst ha
     exact ⟨y,hx,rfl⟩
    | succ i=>simpa using h2 i a (by simpa using ha)
theorem Ge {w:World} {a:Addr} {n:Nat} {cs:List Value} (h:w.cells? 0 a n = some cs):cs.length = n ∧ ∀ (j:Nat) (v:Value),cs[j]? = some v → w.cell? (a.add j) = some v:=by
 unfold World.cells? at h
 rw [if_pos (Nat.zero_le _)] at h
 obtain ⟨h1,h2⟩:=IU h
 rw [List.length_range] at h1
 refine ⟨h1,fun j v hj=>?_⟩
 have hjn:j < n:=by rw [← h1]; exact (List.getElem?_eq_some_iff.1 hj).1
 obtain ⟨b,hb,hc⟩:=h2 j j (by rw [List.getElem?_range hjn])
 rw [hj] at hc
 rw [hb,Option.some.inj hc]
theorem LV {w:World} {a:Addr} {v:Value} (h:w.cell? a = some v):a.spot = none:=by
 unfold World.cell? at h
 split at h
 ·split at h
  ·cases h
  rename_i hs; simpa using hs
 cases h
theorem LW {w:World} {size n c:Nat} {ad:Addr} {cs:Nat → List Value} (hle:n ≤ c) (hsm:n ≤ 1099511627776) (hsz:0 < size) (h:∀ i,i < n → (cs i).length = size ∧ ∀ (j:Nat) (v:Value),(cs i)[j]? = some v → w.cell? ((ad.add (i * size)).add j) = some v):Slots w (fun _ _=>True) size (some ad) c n cs:=by
 refine ⟨hle,hsm,(fun hA=>by cases hA),fun ad' hA hn=>?_⟩
 obtain rfl:=Option.some.inj hA
 have h0:=h 0 hn
 have hp:ad.spot = none:=by
  have h1:=LV (h0.2 0 _ (List.getElem?_eq_getElem (by omega)))
  unfold Addr.add at h1
  split at h1
  ·split at h1 <;> simp_all
  simp_all
 obtain ⟨b,o,sp⟩:=ad
 simp only at hp
 subst hp
 refine ⟨b,o,rfl,fun i hi=>⟨(h i hi).1,fun j v hj=>⟨trivial,?_⟩⟩⟩
 have:=(h i hi).2 j v hj
 rwa [P2,P2] at this
theorem IV {α:Type} {R:Nat → α → Prop}:∀ (n:Nat),(∀ i,i < n → ∃ x,R i x) → ∃ l:List α,l.length = n ∧ ∀ i x,l[i]? = some x → R i x
 | 0,_=>⟨[],rfl,fun i x h=>by simp at h⟩
 | n + 1,h=>by
  obtain ⟨l,h1,h2⟩:=IV n fun i hi=>h i (by omega)
  obtain ⟨x,hx⟩:=h n (by omega)
  refine ⟨l ++ [x],by simp [h1],fun i y hy=>?_⟩
  rcases M9 hy with hy | ⟨rfl,rfl⟩
  ·exact h2 i y hy
  rw [h1]; exact hx
theorem Gf {α:Type} {w:World} {a:Addr} {len cap size:Nat} (R:Nat → List Value → α → Prop) (hle:len ≤ cap) (hsm:len ≤ 1099511627776) (hsz:0 < size)
  (hex:∀ i,i < len → ∃ ci:List Value,ci.length = size ∧ (∀ (j:Nat) (v:Value),ci[j]? = some v → w.cell? ((a.add (i * size)).add j) = some v) ∧ ∃ x,R i ci x) :
  ∃ l:List α,l.length = len ∧ ∃ xs:Nat → List Value,Slots w (fun _ _=>True) size (some a) cap len xs ∧ ∀ i x,l[i]? = some x → R i (xs i) x:=by
 obtain ⟨l,h1,h2⟩:=IV (R:=fun i (z:List Value × α)=>z.1.length = size ∧ (∀ (j:Nat) (v:Value),z.1[j]? = some v → w.cell? ((a.add (i * size)).add j) = some v) ∧ R i z.1 z.2) len (fun i hi=>by
  obtain ⟨ci,g1,g2,x,g3⟩:=hex i hi
  exact ⟨(ci,x),g1,g2,g3⟩)
 have hget:∀ i,i < len → ∃ z,l[i]? = some z:=fun i hi=>⟨_,List.getElem?_eq_getElem (by omega)⟩
 have hxs:∀ i z,l[i]? = some z → ((l.map (·.1)).getD i []) = z.1:=fun i z hz=>by
  rw [List.getD_eq_getElem?_getD,List.getElem?_map,hz]; rfl
 refine ⟨l.map (·.2),by simp [h1],fun i=>(l.map (·.1)).getD i [],LW hle hsm hsz (fun i hi=>?_),fun i x hx=>?_⟩
 ·obtain ⟨z,hz⟩:=hget i hi
  rw [hxs i z hz]
  exact ⟨(h2 i z hz).1,(h2 i z hz).2.1⟩
 rw [List.getElem?_map] at hx
 cases hz:l[i]? with
 | none=>rw [hz] at hx; cases hx
 | some z =>
  rw [hz] at hx
  simp only [Option.map_some,Option.some.injEq] at hx
  subst hx
  dsimp only
  rw [hxs i z hz]
  exact (h2 i z hz).2.2
def En (P:Program) (t:TypeId):Option (List (TypeId × Nat)) :=
 match P.underlying t with
 | some (.struct fs)=>some (fs.toList.map fun f=>(f.type,f.offset))
 | _=>none
theorem IW {P:Program} {t:TypeId} {l:List (TypeId × Nat)} (h:En P t = some l):∃ fs:Array Field,P.underlying t = some (.struct fs) ∧ fs.size = l.length ∧ ∀ (i:Nat) ty off,l[i]? = some (ty,off) → ∃ f,fs[i]? = some f ∧ f.type = ty ∧ f.offset = off:=by
 unfold En at h
 split at h
 ·rename_i fs hfs
  simp only [Option.some.injEq] at h
  subst h
  refine ⟨fs,hfs,by simp,fun i ty off hi=>?_⟩
  rw [List.getElem?_map] at hi
  cases hf:fs.toList[i]? with
  | none=>rw [hf] at hi; cases hi
  | some f =>
   rw [hf] at hi
   simp only [Option.map_some,Option.some.injEq,Prod.mk.injEq] at hi
   exact ⟨f,by simpa using hf,hi.1,hi.2⟩
 cases h
structure TreeTys (P:Program) (T TL TU TG TB TI TO TK T8:TypeId):Prop where
 tree:En P T = some [(TI,0),(TB,1),(TO,2),(TL,3),(TU,4)]
 tag:En P TG = some [(TK,0),(TB,1)]
 trees:P.underlying TL = some (.slice T)
 tags:P.underlying TU = some (.slice TG)
 bytes:P.underlying TB = some (.slice T8)
 int:P.underlying TI = some (.int .i64)
 bool:P.underlying TO = some .bool
 key:P.underlying TK = some (.int .u32)
 byte:P.underlying T8 = some (.int .u8)
 cells:(P.cellsOf T,P.cellsOf TL,P.cellsOf TU,P.cellsOf TG,P.cellsOf TB,P.cellsOf TI,P.cellsOf TO,P.cellsOf TK,P.cellsOf T8) = (5,1,1,2,1,1,1,1,1)
section
variable {H:Type} {enc:TypeId × Value → H} {P:Program} {W:World} {sp:Nat → Bool} {hd:Bool} {T TL TU TG TB TI TO TK T8:TypeId}
theorem Gg {α β:Type} {x:Option α} {f:α → Option β} {l:List β} {i:Nat} (h:x.bind f = l[i]?) (hi:i < l.length):∃ a b,x = some a ∧ f a = some b ∧ l[i]? = some b:=by
 rw [List.getElem?_eq_getElem hi] at h
 obtain ⟨a,ha,hb⟩:=Option.bind_eq_some_iff.1 h
 exact ⟨a,_,ha,hb,List.getElem?_eq_getElem hi⟩
theorem Gh {elems spare:List (DataW H)} {n:Nat} (h:uptoBulk (.slice elems spare) ≤ n):elems.length ≤ n ∧ ∀ d ∈ elems,uptoBulk d ≤ n:=by
 unfold uptoBulk at h
 have h1:=Gd elems
 exact ⟨by omega,fun d hd=>by have:=Em hd; omega⟩
theorem IX {parts:List (DataW H)} {n:Nat} (h:uptoBulk (.agg parts) ≤ n):∀ d ∈ parts,uptoBulk d ≤ n:=by
 unfold uptoBulk at h
 exact fun d hd=>by have:=Em hd; omega
theorem IY {fuel:Nat} {cs:List Value} {x:DataW H × List MemPlace} (hT:TreeTys P T TL TU TG TB TI TO TK T8) (h:DataW.trod enc P W 0 sp hd fuel TB cs = some x) (hb:uptoBulk x.1 ≤ 1048576) :
  ∃ A c s,cs = [.slice A (s:Bs).length c] ∧ Octs W (fun _ _=>True) A c s ∧ s.length ≤ uptoBulk x.1:=by
 have hc:=hT.cells
 simp only [Prod.mk.injEq] at hc
 rcases DataW.trod_slice hT.bytes h with ⟨rfl,rfl⟩ | ⟨a,len,cap,elems,rest,n,_,rfl,rfl,_,hle,_,hlen,he,_⟩
 ·exact ⟨none,0,[],rfl,Octs.nil _ _,Nat.zero_le _⟩
 have hlb:=Gd (elems.map (·.1))
 rw [List.length_map] at hlb
 have hbl:=Gh hb
 simp only [List.length_map] at hbl
 obtain ⟨l,hl,xs,h1,h2⟩:=Gf (w:=W) (a:=a) (len:=len) (cap:=cap) (size:=1) (fun _ ci (q:UInt8)=>ci = [B0 q]) hle (by omega) (by omega) (fun i hi=>by
  obtain ⟨ci,y,g1,g2,g3⟩:=Gg (he i hi) (by omega)
  obtain ⟨g4,g5⟩:=Ge g1
  rw [hc.2.2.2.2.2.2.2.2] at g4 g5
  refine ⟨ci,g4,g5,?_⟩
  obtain ⟨v,rfl,_,hw⟩:=DataW.trod_int hT.byte g2
  have hx:0 ≤ v ∧ v ≤ 255:=by simpa [Lit.wf,IntKind.min,IntKind.max,IntKind.signed,IntKind.bits] using hw
  refine ⟨UInt8.ofNat v.toNat,?_⟩
  unfold B0
  rw [UInt8.toNat_ofNat']
  congr 2
  omega)
 refine ⟨some a,cap,l,by rw [hl],?_,by rw [hl,← hlen]; dsimp only; unfold uptoBulk; omega⟩
 unfold Octs
 rw [hl]
 refine ⟨h1.le,h1.small,h1.none_,fun ad hA hn=>?_⟩
 obtain ⟨b,o,e1,e2⟩:=h1.some_ ad hA hn
 refine ⟨b,o,e1,fun i hi=>?_⟩
 have hli:l[i]? = some (l.getD i 0):=by
  rw [List.getD_eq_getElem?_getD,List.getElem?_eq_getElem (by omega)]; rfl
 have:=h2 i _ hli
 rw [← this]
 exact e2 i hi
theorem BH {n:Nat} {fs:Array Field} {xs:List (DataW H × List MemPlace)} {cs:List Value} {l:List (TypeId × Nat)} (hx:∀ (i:Nat) (f:Field),fs[i]? = some f → DataW.trod enc P W 0 sp hd n f.type ((cs.drop f.offset).take (P.cellsOf f.type)) = xs[i]?)
  (hl:∀ (i:Nat) ty off,l[i]? = some (ty,off) → ∃ f,fs[i]? = some f ∧ f.type = ty ∧ f.offset = off) {i:Nat} {ty off:Nat} (hi:l[i]? = some (ty,off)) (h1:P.cellsOf ty = 1) (hxl:i < xs.length) {c:Value} (hc:cs[off]? = some c) :
  ∃ y,xs[i]? = some y ∧ DataW.trod enc P W 0 sp hd n ty [c] = some y:=by
 obtain ⟨f,hf,rfl,rfl⟩:=hl i _ _ hi
 have:=hx i f hf
 rw [h1] at this
 refine ⟨xs[i],List.getElem?_eq_getElem hxl,?_⟩
 rw [List.getElem?_eq_getElem hxl] at this
 have e:(cs.drop f.offset).take 1 = [c]:=by
  rw [List.take_one,List.head?_drop,hc]; rfl
 rw [e] at this
 exact this
theorem IZ:∀ (l:List (Int × Bs)) {elems:List (DataW H × List MemPlace)},l.length = elems.length → (∀ (i:Nat) (x:Int × Bs) (y:DataW H × List MemPlace),l[i]? = some x → elems[i]? = some y → 1 + (uv x.1.toNat).length + x.2.length ≤ 8 * uptoBulk y.1) → J5 l ≤ 8 * uptoBulkAll (elems.map (·.1))
 | [],_,_,_=>Nat.zero_le _
 | x :: r,[],h,_=>by cases h
 | x :: r,y :: es,h,hp=>by
  have h1:=IZ r (elems:=es) (by simpa using h) fun i x' y' hx hy=>hp (i + 1) x' y' (by simpa using hx) (by simpa using hy)
  have h2:=hp 0 x y rfl rfl
  simp only [J5,List.map_cons,uptoBulkAll]
  omega
theorem Ja:∀ (l:List Tree) {elems:List (DataW H × List MemPlace)},l.length = elems.length → (∀ (i:Nat) (x:Tree) (y:DataW H × List MemPlace),l[i]? = some x → elems[i]? = some y → x.size ≤ 8 * uptoBulk y.1) → sizes l ≤ 8 * uptoBulkAll (elems.map (·.1))
 | [],_,_,_=>Nat.zero_le _
 | x :: r,[],h,_=>by cases h
 | x :: r,y :: es,h,hp=>by
  have h1:=Ja r (elems:=es) (by simpa using h) fun i x' y' hx hy=>hp (i + 1) x' y' (by simpa using hx) (by simpa using hy)
  have h2:=hp 0 x y rfl rfl
  show x.size + sizes r ≤ _
  simp only [List.map_cons,uptoBulkAll]
  omega
theorem LX {y0 y1 y2 y3 y4:DataW H × List MemPlace} {xs:List (DataW H × List MemPlace)} (h:xs.length = 5) (h0:xs[0]? = some y0) (h1:xs[1]? = some y1) (h2:xs[2]? = some y2) (h3:xs[3]? = some y3) (h4:xs[4]? = some y4):uptoBulk (.agg (xs.map (·.1))) = uptoBulk y0.1 + uptoBulk y1.1 + uptoBulk y2.1 + uptoBulk y3.1 + uptoBulk y4.1 + 1:=by
 match xs,h with
 | [a,b,c,d,e],_ =>
  simp only [List.getElem?_cons_zero,List.getElem?_cons_succ,Option.some.injEq] at h0 h1 h2 h3 h4
  subst h0; subst h1; subst h2; subst h3; subst h4
  have e:uptoBulk (.agg [a.1,b.1,c.1,d.1,e.1]) = uptoBulkAll [a.1,b.1,c.1,d.1,e.1] + 1:=by rw [uptoBulk]
  simp only [List.map_cons,List.map_nil]
  rw [e]
  simp only [uptoBulkAll]
  omega
theorem LY {fuel:Nat} {cs:List Value} {x:DataW H × List MemPlace} (hT:TreeTys P T TL TU TG TB TI TO TK T8) (h:DataW.trod enc P W 0 sp hd fuel TU cs = some x) (hb:uptoBulk x.1 ≤ 1048576) :
  ∃ A c u,cs = [.slice A (u:List (Int × Bs)).length c] ∧ TagsR W (fun _ _=>True) A c u ∧ J5 u ≤ 8 * uptoBulk x.1:=by
 have hc:=hT.cells
 simp only [Prod.mk.injEq] at hc
 rcases DataW.trod_slice hT.tags h with ⟨rfl,rfl⟩ | ⟨a,len,cap,elems,rest,n,_,rfl,rfl,_,hle,_,hlen,he,_⟩
 ·exact ⟨none,0,[],rfl,TagsR.nil _ _,Nat.zero_le _⟩
 have hbl:=Gh hb
 simp only [List.length_map] at hbl
 obtain ⟨l,hl,xs,h1,h2⟩:=Gf (w:=W) (a:=a) (len:=len) (cap:=cap) (size:=2) (fun i ci (q:Int × Bs)=>((∃ A' c',ci = [.int .u32 q.1,.slice A' q.2.length c'] ∧ Octs W (fun _ _=>True) A' c' q.2) ∧ 0 ≤ q.1 ∧ q.1 < 4294967296) ∧ ∀ y,elems[i]? = some y → 1 + (uv q.1.toNat).length + q.2.length ≤ 8 * uptoBulk y.1) hle (by omega) (by omega) (fun i hi=>by
  obtain ⟨ci,y,g1,g2,g3⟩:=Gg (he i hi) (by omega)
  obtain ⟨g4,g5⟩:=Ge g1
  rw [hc.2.2.2.1] at g4 g5
  refine ⟨ci,g4,g5,?_⟩
  obtain ⟨fs,hfs,hsz,hl⟩:=IW hT.tag
  obtain ⟨xs,m,_,rfl,_,hxl,hx⟩:=DataW.trod_struct hfs g2
  rw [hsz] at hxl
  have hxl':xs.length = 2:=hxl
  match ci,g4 with
  | [c0,c1],_ =>
   obtain ⟨y0,_,k0⟩:=BH hx hl (i:=0) rfl hc.2.2.2.2.2.2.2.1 (by omega) (c:=c0) rfl
   obtain ⟨y1,e1,k1⟩:=BH hx hl (i:=1) rfl hc.2.2.2.2.1 (by omega) (c:=c1) rfl
   obtain ⟨v,hv,_,hw⟩:=DataW.trod_int hT.key k0
   have hx:0 ≤ v ∧ v ≤ 4294967295:=by simpa [Lit.wf,IntKind.min,IntKind.max,IntKind.signed,IntKind.bits] using hw
   have hby:uptoBulk y1.1 ≤ 1048576:=by
    have hm:DataW.agg (xs.map (·.1)) ∈ elems.map (·.1):=by
     have:=List.mem_of_getElem? g3
     exact List.mem_map.2 ⟨_,this,rfl⟩
    exact IX (hbl.2 _ hm) _ (List.mem_map.2 ⟨_,List.mem_of_getElem? e1,rfl⟩)
   obtain ⟨A',c',s,hs,ho,hsl⟩:=IY hT k1 hby
   simp only [List.cons.injEq,and_true] at hv hs
   subst hv; subst hs
   refine ⟨(v,s),⟨⟨A',c',rfl,ho⟩,by dsimp only; omega,by dsimp only; omega⟩,fun y hy=>?_⟩
   rw [g3] at hy
   obtain rfl:=Option.some.inj hy
   have h5:=Eb v.toNat 5 (by omega) (by omega)
   have h6:uptoBulk y1.1 ≤ uptoBulkAll (xs.map (·.1)):=Em (List.mem_map.2 ⟨_,List.mem_of_getElem? e1,rfl⟩)
   dsimp only
   unfold uptoBulk
   omega)
 refine ⟨some a,cap,l,by rw [hl],⟨xs,by rw [hl]; exact h1,fun i k s hi=>(h2 i (k,s) hi).1⟩,?_⟩
 have:=IZ l (elems:=elems) (by rw [hl,hlen]) (fun i x y hx hy=>(h2 i x hx).2 y hy)
 dsimp only
 unfold uptoBulk
 omega
theorem LZ (hT:TreeTys P T TL TU TG TB TI TO TK T8):∀ (fuel:Nat) (cs:List Value) (x:DataW H × List MemPlace),DataW.trod enc P W 0 sp hd fuel T cs = some x → uptoBulk x.1 ≤ 1048576 → ∃ t,TreeR W (fun _ _=>True) cs t ∧ t.size ≤ 8 * uptoBulk x.1 ∧ t.i64s:=by
 intro fuel
 induction fuel using Nat.strongRecOn with
 | _ fuel ih =>
 intro cs x h hb
 have hc:=hT.cells
 simp only [Prod.mk.injEq] at hc
 obtain ⟨fs,hfs,hsz,hl⟩:=IW hT.tree
 obtain ⟨xs,m,rfl,rfl,hcl,hxl,hx⟩:=DataW.trod_struct hfs h
 rw [hsz] at hxl
 have hxl':xs.length = 5:=hxl
 rw [hc.1] at hcl
 have hbe:∀ {i:Nat} {y:DataW H × List MemPlace},xs[i]? = some y → uptoBulk y.1 ≤ 1048576:=fun e=>IX hb _ (List.mem_map.2 ⟨_,List.mem_of_getElem? e,rfl⟩)
 match cs,hcl with
 | [c0,c1,c2,c3,c4],_ =>
  obtain ⟨y0,e0,k0⟩:=BH hx hl (i:=0) rfl hc.2.2.2.2.2.1 (by omega) (c:=c0) rfl
  obtain ⟨y1,e1,k1⟩:=BH hx hl (i:=1) rfl hc.2.2.2.2.1 (by omega) (c:=c1) rfl
  obtain ⟨y2,e2,k2⟩:=BH hx hl (i:=2) rfl hc.2.2.2.2.2.2.1 (by omega) (c:=c2) rfl
  obtain ⟨y3,e3,k3⟩:=BH hx hl (i:=3) rfl hc.2.1 (by omega) (c:=c3) rfl
  obtain ⟨y4,e4,k4⟩:=BH hx hl (i:=4) rfl hc.2.2.1 (by omega) (c:=c4) rfl
  obtain ⟨v,hv,_,hw0⟩:=DataW.trod_int hT.int k0
  have hx0:-9223372036854775808 ≤ v ∧ v ≤ 9223372036854775807:=by simpa [Lit.wf,IntKind.min,IntKind.max,IntKind.signed,IntKind.bits] using hw0
  obtain ⟨A1,d1,s,hs,ho,hz1⟩:=IY hT k1 (hbe e1)
  obtain ⟨b,hbo,_⟩:=DataW.trod_bool hT.bool k2
  obtain ⟨A3,d3,u,hu,hur,hz3⟩:=LY hT k4 (hbe e4)
  have hll:∃ A2 d2 l xs2,[c3] = [.slice A2 (l:List Tree).length d2] ∧ Slots W (fun _ _=>True) 5 A2 d2 l.length xs2 ∧ (∀ i x,l[i]? = some x → TreeR W (fun _ _=>True) (xs2 i) x) ∧ sizes l ≤ 8 * uptoBulk y3.1 ∧ i64ss l:=by
   rcases DataW.trod_slice hT.trees k3 with ⟨e,_⟩ | ⟨a,len,cap,elems,rest,n,rfl,e,rfl,_,hle,_,hlen,he,_⟩
   ·exact ⟨none,0,[],fun _=>[],e,Slots.nil _ _ _ _,(fun i x h=>by simp at h),Nat.zero_le _,trivial⟩
   have hbl:=Gh (hbe e3)
   simp only [List.length_map] at hbl
   obtain ⟨l,hl,xs2,h1,h2⟩:=Gf (w:=W) (a:=a) (len:=len) (cap:=cap) (size:=5) (fun i ci (q:Tree)=>(TreeR W (fun _ _=>True) ci q ∧ q.i64s) ∧ ∀ y,elems[i]? = some y → q.size ≤ 8 * uptoBulk y.1) hle (by omega) (by omega) (fun i hi=>by
    obtain ⟨ci,y,g1,g2,g3⟩:=Gg (he i hi) (by omega)
    obtain ⟨g4,g5⟩:=Ge g1
    rw [hc.1] at g4 g5
    obtain ⟨q,q1,q2,q3⟩:=ih n (by omega) ci y g2 (hbl.2 _ (List.mem_map.2 ⟨_,List.mem_of_getElem? g3,rfl⟩))
    exact ⟨ci,g4,g5,q,⟨q1,q3⟩,fun y' hy=>by
     rw [g3] at hy
     obtain rfl:=Option.some.inj hy
     exact q2⟩)
   refine ⟨some a,cap,l,xs2,by rw [e,hl],by rw [hl]; exact h1,fun i x hx=>(h2 i x hx).1.1,?_,IT fun x hx=>by
    obtain ⟨i,hi,rfl⟩:=List.getElem_of_mem hx
    exact (h2 i _ (List.getElem?_eq_getElem hi)).1.2⟩
   have:=Ja l (elems:=elems) (by rw [hl,hlen]) (fun i x y hx hy=>(h2 i x hx).2 y hy)
   dsimp only
   unfold uptoBulk
   omega
  obtain ⟨A2,d2,l,xs2,hl2,hsl,hxl2,hz2,hi2⟩:=hll
  simp only [List.cons.injEq,and_true] at hv hs hbo hl2 hu
  subst hv; subst hs; subst hbo; subst hl2; subst hu
  refine ⟨_,.mk xs2 ho hsl hxl2 hur,?_,hx0,hi2⟩
  have h5:=LX hxl' e0 e1 e2 e3 e4
  have p0:=Gc y0.1
  have p1:=Gc y2.1
  dsimp only at h5 ⊢
  rw [Tree.size_mk,h5]
  omega
end
section
variable {H:Type} {enc:TypeId × Value → H} {P:Program}
open Go.ChangeShapes Go.WideShapes Go.ChangeAt Go.RowKit
theorem Step.same {W W':World} (h:Step W W' C1) {b:Nat} (hb:b < W.heap.size):W'.heap[b]? = W.heap[b]?:=(h.keeps b hb).1 fun _ hn=>hn
theorem Step.sameAt {W W':World} (h:Step W W' C1) {p:MemPlace} (hp:p.block < W.heap.size):W.sameAt W' p:=by
 cases p with
 | cell b o=>exact World.cell_of_heap (h.same hp)
 | map b=>exact h.same hp
theorem Step.keptBut {W W':World} (h:Step W W' C1) (may:MemPlace → Prop):W.keptBut W' may:=by
 refine ⟨h.os,h.output,fun i hi=>?_⟩
 rw [h.same hi]
 cases hx:W.heap[i]? with
 | none=>rfl
 | some x =>
  cases x with
  | cells c t f=>exact ⟨rfl,rfl,rfl,fun _ _=>rfl⟩
  | map es clock=>exact .inr ⟨rfl,rfl⟩
  | _=>rfl
theorem Jb (hl:laidOutB P = true) {W W':World} (hs:Step W W' C1):∀ {ts:List TypeId} {vs:List Value} {ds:List (DataW H)} {ps:List MemPlace},(∀ t ∈ ts,P.readableRec t = true ∧ t < P.types.size) → DataW.TrodAll enc P W 0 (fun _=>true) true ts vs ds ps → (∀ p ∈ ps,p.block < W.heap.size) →
  DataW.TrodAll enc P W' 0 (fun b=>decide (b < W.heap.size)) true ts vs ds ps
 | [],vs,ds,ps,_,h,_=>by
  obtain ⟨rfl,rfl,rfl⟩:=trodAll_nil h
  exact rfl
 | t :: ts,vs,ds,ps,ht,h,hp=>by
  obtain ⟨v,vs',d,ds',p,q,rfl,rfl,rfl,h1,h2⟩:=trodAll_cons h
  have h0:=ht t (List.mem_cons_self ..)
  refine ⟨p,q,?_,Jb hl hs (fun t' h'=>ht t' (List.mem_cons_of_mem _ h')) h2 (fun x hx=>hp x (List.mem_append_right _ hx)),rfl⟩
  exact Go.WideElems.Trod_stays hl h0.1 h0.2 h1 (fun x hx=>hs.sameAt (hp x (List.mem_append_left _ hx))) (fun x hx=>decide_eq_true (hp x (List.mem_append_left _ hx)))
theorem Ma {f:Func} {s:ChangeSpec} {W W':World} {args:Array Value} {v:Value} {ds gs:List (DataW H)} {before:List MemPlace} {handsOn:Bool}
  (hW:DataW.Whole enc P f.params.toList s.vars false W args.toList ds gs before) (hs:Step W W' C1) (hl:laidOutB P = true) (hpar:∀ t ∈ f.params.toList,P.readableRec t = true ∧ t < P.types.size)
  (hv:s.vars = []) (hargs:(s.fn H (ds ++ gs)).args = ds) (hvars:(s.fn H (ds ++ gs)).vars = [])
  (hres:∀ (b:Nat) (sp:Nat → Bool) (hd:Bool),DataW.TrodAll enc P W' b sp hd f.resultTypes.toList (v.resultList f.resultTypes.size) (s.fn H (ds ++ gs)).results []) :
  s.post enc P f false true handsOn false W args v W':=by
 have hlt:∀ p ∈ before,p.block < W.heap.size:=fun p hp=>hW.lt p hp
 obtain ⟨p,q,hA,hV,rfl,_,_⟩:=id hW
 rw [hv] at hV
 obtain ⟨rfl,rfl⟩:=trodVars_none hV
 refine ⟨ds,[],_,[],p,[],hW,hres _ _ _,?_,?_,hs.keptBut _,fun h=>by cases h⟩
 ·rw [hargs]
  exact Jb hl hs hpar hA (fun x hx=>hlt x (List.mem_append_left _ hx))
 rw [hvars,hv]; exact rfl
end
end Go.Proofs.YtoclgihkbmaolaaGreatDoor.ME
namespace Go.Proofs.YtoclgihkbmaolaaGreatDoor.ME
open Go
open Go.RowKit
set_option linter.unusedVariables false
set_option linter.unusedSimpArgs false
set_option maxRecDepth 20000
section
variable {P:Program} {ops:Array Oper} {Q:Exit → Act → World → Prop} {n:Nat} {tb:Tb} {env:C6} {rs:List Rw} {w0:World} {M:Nat → Nat → Prop} {a:Act} {w:World}
theorem Mb {i d:Nat} {t u e e':TypeId} {bytes b c:Nat} {A:Option Addr} {s:Bs} {F:Nat → Nat → Prop} {zs:Array Value} {N:Act → World → Prop} (hE:EnvOk n tb env a)
  (h:DZ tb env ops n i = some (t,u,.slice (some ⟨b,0,none⟩) 16 16,.slice A s.length c,d)) (ht:M6 P t = some (e,1,bytes)) (hb:w.heap[b]? = some (.cells zs e' (0,0))) (hz:zs = ((List.range 16).map fun _=>B0 0).toArray)
  (hs:Octs w F A c s)
  (K:∀ a' w',Step w w' (fun b' _=>b' = b) → At w' b 0 ((List.range 16).map fun i=>B0 (s.getD i 0)) → (∀ j,w'.frozen? ⟨b,j,none⟩ = false) → (∃ v,EnvOk n tb ((d,.v v) :: env) a') → N a' w'):wpOp P ops Q i N a w:=by
 obtain ⟨ht',inf,z,hi,hz',hzs,hs1,rfl,hsz,hbp⟩:=S7 ht
 obtain ⟨op,ho,hd,hrun⟩:=HC (P:=P) (w:=w) hE h
 have hsz':(P.info? e).map (·.size) = some 1:=by rw [hi]; simp [hs1]
 have hb16:zs.size = 16:=by rw [hz]; simp
 by_cases h0:min s.length 16 = 0
 ·have hr:=fun ty=>run_copy_none (P:=P) w t u ty e (some ⟨b,0,none⟩) A 16 16 s.length c ht' hsz' h0
  refine L9 hE ho (v:=.int .i64 0) (w':=w) (fun o hop=>hrun o _ _ hop (hr o.type)) ?_
  have hs0:s = []:=List.eq_nil_of_length_eq_zero (by omega)
  subst hs0
  refine K _ w (Step.refl _ _) (fun j v hj=>?_) (fun j=>by simp [World.frozen?,hb]) ⟨_,hE.put hd (.v _) trivial⟩
  subst hz
  rw [Nat.zero_add]
  simp only [World.cell?,hb]
  simpa using hj
 have hsrc:=hs.src
 have hA:∃ ad,A = some ad:=by
  cases A with
  | none=>have:=hsrc.nil rfl; omega
  | some ad=>exact ⟨ad,rfl⟩
 obtain ⟨ad,rfl⟩:=hA
 have hcl:((bc s).take (min s.length 16)).length = min s.length 16:=by rw [List.length_take]; simp
 have hr:=fun ty=>run_copy_row P w t u ty e b 0 16 16 ad s.length c zs e' ((bc s).take (min s.length 16)) ht' hsz' hb hcl (fun j v hj=>hsrc.cells ad rfl j v (by
  rw [List.getElem?_take] at hj
  split at hj
  ·exact hj
  cases hj)) (by rw [hcl]; omega) (fun v hv=>S2 s v (List.mem_of_mem_take hv))
 have hw:=setRow_heap w b zs (zs.toList.take 0 ++ (bc s).take (min s.length 16) ++ zs.toList.drop (0 + ((bc s).take (min s.length 16)).length)).toArray e' _ hb
 refine L9 hE ho (v:=.int .i64 ((min s.length 16:Nat):Int)) (w':=w.setRow b (zs.toList.take 0 ++ (bc s).take (min s.length 16) ++ zs.toList.drop (0 + ((bc s).take (min s.length 16)).length)).toArray) (fun o hop=>hrun o _ _ hop (by rw [hr o.type]; simp only [hcl]; rfl)) ?_
 refine K _ _ (Step.setRow w b _) (fun j v hj=>?_) (fun j=>by unfold World.frozen?; rw [hw]; simp) ⟨_,hE.put hd (.v _) trivial⟩
 rw [Nat.zero_add j]
 unfold World.cell?
 rw [hw]
 simp only [Option.isSome_none,Bool.false_eq_true,if_false]
 have hj16:j < 16:=by
  have:=(List.getElem?_eq_some_iff.1 hj).1
  simpa using this
 rw [List.getElem?_map,List.getElem?_range hj16] at hj
 simp only [Option.map_some,Option.some.injEq] at hj
 subst hj
 simp only [List.take_zero,List.nil_append,Nat.zero_add]
 rw [← Array.getElem?_toList,List.toList_toArray,List.getElem?_append,hcl]
 by_cases hjs:j < min s.length 16
 ·rw [if_pos hjs,List.getElem?_take,if_pos hjs,bc,List.getElem?_map,List.getElem?_eq_getElem (by omega),List.getD_eq_getElem?_getD,List.getElem?_eq_getElem (by omega)]
  rfl
 rw [if_neg hjs,List.getElem?_drop,hz,List.toList_toArray,List.getElem?_map,List.getElem?_range (by omega),List.getD_eq_getElem?_getD,List.getElem?_eq_none (by omega)]
 rfl
theorem Jc {i d:Nat} {cs:List Value} {N:Act → World → Prop} (hE:EnvOk n tb env a) (h:CR P env ops n i = some (d,cs))
  (k:∀ t a',EnvOk n tb ((d,.v (.pointer (some ⟨w.heap.size,0,none⟩))) :: env) a' → N a' (w.alloc (.cells cs.toArray t))):wpOp P ops Q i N a w:=by
 unfold CR at h
 split at h
 ·rename_i t d' ho
  split at h
  ·rename_i inf hi
   split at h
   ·rename_i z hz
    simp only [Option.some.injEq,Prod.mk.injEq] at h
    obtain ⟨rfl,rfl⟩:=h
    have hd:d' < n:=(K8 hE ho).choose_spec.2.2.2.1
    refine L9 hE ho (v:=.pointer (some ⟨w.heap.size,0,none⟩)) (w':=w.alloc (.cells z.cells t)) ?_ ?_
    ·intro o hop
     unfold execOp
     rw [hop]
     simp only [Instr.alloc,Sem.run_bind,run_zeroValue' hi hz,Result.andThen_ok,newVar,newRow,run_newObj,Sem.run_pure]
     rfl
    have:=k t _ (hE.put hd (.v (.pointer (some ⟨w.heap.size,0,none⟩))) trivial)
    rw [Array.toArray_toList] at this
    exact this
   cases h
  cases h
 cases h
end
def bs (s:Bs):ByteArray:=⟨s.toArray⟩
theorem Jd (s:Bs):sb (bs s) = s:=by simp [sb,bs]
theorem Eo (s:Bs):(bs s).size = s.length:=by simp [bs,ByteArray.size]
def E1 (t:Tree):Bs:=if t.null then [] else t.S
section
variable {P:Program} {ops:Array Oper} {Q:Exit → Act → World → Prop} {n:Nat} {tb:Tb} {env:C6} {rs:List Rw} {w0:World} {M:Nat → Nat → Prop} {a:Act} {w:World}
def Ep (tb:Tb) (env:C6) (ops:Array Oper) (n i:Nat):Option (TypeId × TypeId × Value × Nat) :=
 match G2 env ops n i with
 | some (.convert src dst x,d)=>match F7 env x with
  | some (.v v)=>some (src,dst,v,d)
  | _=>none
 | _=>none
theorem Gi {i d:Nat} {src dst e c:Nat} {A:Option Addr} {s:Bs} {F:Nat → Nat → Prop} {N:Act → World → Prop} (hE:EnvOk n tb env a) (h:Ep tb env ops n i = some (src,dst,.slice A s.length c,d)) (hs:P.underlying src = some (.slice e)) (he:P.underlying e = some (.int .u8)) (hd:P.underlying dst = some .string)
  (ho:Octs w F A c s) (K:∀ a',EnvOk n tb ((d,.v (.string (bs s))) :: env) a' → N a' w):wpOp P ops Q i N a w:=by
 unfold Ep at h
 split at h
 ·rename_i src' dst' x d' hop
  split at h
  ·rename_i v hx
   simp only [Option.some.injEq,Prod.mk.injEq] at h
   obtain ⟨rfl,rfl,rfl,rfl⟩:=h
   have hdn:=(K8 hE hop).choose_spec.2.2.2.1
   have hrun:(convert src' dst' (.slice A s.length c)).run P w = .ok (.string (bs s)) w:=by
    have hsrc:=ho.src
    cases A with
    | none =>
     have h0:s = []:=List.eq_nil_of_length_eq_zero (ho.none_ rfl).1
     subst h0
     exact run_convert_bytes_nil w src' e hs he _ _ dst' hd
    | some ad =>
     have hl:(loadCells ad s.length).run P w = .ok ((s.map fun b=>((b.toNat:Nat):Int)).map (Value.int .u8)).toArray w:=by
      have:=run_loadCells_list (P:=P) w ad (bc s) (fun j v hj=>hsrc.cells ad rfl j v hj)
      rw [show (bc s).length = s.length from by simp [bc]] at this
      rw [this]
      simp [bc]
     rw [run_convert_bytes_string w src' dst' e _ s.length c hs he hd,run_bytesToString w _ s.length c _ hl,foldl_push_bytes]
     congr 2
     simp only [bs,ByteArray.empty,ByteArray.emptyWithCapacity]
     have e3:(s.map fun b=>((b.toNat:Nat):Int)).map (fun n=>UInt8.ofNat n.toNat) = s:=by
      rw [List.map_map]
      conv=>rhs; rw [← List.map_id s]
      exact List.map_congr_left fun b _=>by simp
     rw [e3]
     simp
     rfl
   refine L9 hE hop (v:=.string (bs s)) (w':=w) ?_ (K _ (hE.put hdn (.v _) trivial))
   intro o ho'
   unfold execOp
   rw [ho']
   simp only [(F8 hE hx).1,SV.val,Sem.run_bind,hrun,Result.andThen_ok,Sem.run_pure]
  cases h
 cases h
end
theorem Bf:uv 0 = [0]:=by rw [uv]; rfl
theorem Er {v:Int} {d:Nat} {l:List Fld} {t:Tree} {i:Nat} {k x1 x2 x3 x4 x5 x6:Int} {s:List Fld} (h:l[i]? = some (.mk k x1 x2 x3 x4 x5 x6 s)) (hk:k = 8 ∨ k = 9) :
  E1 ((D2 v (d + 1) l t).at_ i) = (if Fld.nul (.mk k x1 x2 x3 x4 x5 x6 s) v (t.at_ i) = true then [] else C5 (t.at_ i).S) ∧ ((D2 v (d + 1) l t).at_ i).null = Fld.nul (.mk k x1 x2 x3 x4 x5 x6 s) v (t.at_ i):=by
 rw [Cv h]
 have e1:k ≠ 11:=by omega
 have e:Q6 (D2 v d) v (.mk k x1 x2 x3 x4 x5 x6 s) (t.at_ i) = .mk 0 (C5 (t.at_ i).S) (Fld.nul (.mk k x1 x2 x3 x4 x5 x6 s) v (t.at_ i)) [] []:=by
  simp [Q6,N2,Fld.kind,e1,hk]
 rw [e]
 exact ⟨rfl,rfl⟩
def lst (t:Tree):List Tree:=if t.null then [] else t.L
def B3 (p:Bool):Nat:=if p = true then 1 else 0
def G4 (p:Bool) (k:Nat) (E:Bs):Bs:=if p = true then uv k ++ (uv E.length ++ E) else []
theorem T3 (p:Bool):B3 p ≤ 1:=by unfold B3; split <;> omega
theorem Es {p:Bool} (h:p = false) (k:Nat) (E:Bs):G4 p k E = []:=by subst h; rfl
theorem Et {p:Bool} (h:p = true) (k:Nat) (E:Bs):G4 p k E = uv k ++ (uv E.length ++ E):=by subst h; rfl
theorem Eu {p:Bool} (h:p = false):B3 p = 0:=by subst h; rfl
theorem T4 {p:Bool} (h:p = true):B3 p = 1:=by subst h; rfl
def Y4 (w:World) (F:Nat → Nat → Prop) (D:DV):Prop:=(True) ∧ (True) ∧ MapR w F D.m D.u ∧ D.u.length ≤ 1000000 ∧ (∀ x ∈ D.u,x.2.length < 4294967296) ∧ True
def Bg (w:World) (F:Nat → Nat → Prop) (D:DV):Prop:=(True) ∧ (True) ∧ (True) ∧ (True) ∧ (True) ∧ (True) ∧ ((D.f 6).o.length = 16) ∧ (True) ∧ MapR w F D.m D.u ∧ D.u.length ≤ 1000000 ∧ (∀ x ∈ D.u,x.2.length < 4294967296) ∧ True
def Bh (w:World) (F:Nat → Nat → Prop) (D:DV):Prop:=((D.f 0).s.size ≤ 1000000) ∧ ((D.f 1).o.length = 16) ∧ (Slots w F 24 (D.f 2).A (D.f 2).c (D.f 2).l (fun i=>[.int .i32 ((((D.f 2).f i).f 0).n),.int .i32 ((((D.f 2).f i).f 1).n),.int .i64 ((((D.f 2).f i).f 2).n),.int .i32 ((((D.f 2).f i).f 3).n),.int .i64 ((((D.f 2).f i).f 4).n),.int .i32 ((((D.f 2).f i).f 5).n),B0 ((((D.f 2).f i).f 6).o.getD 0 0),B0 ((((D.f 2).f i).f 6).o.getD 1 0),B0 ((((D.f 2).f i).f 6).o.getD 2 0),B0 ((((D.f 2).f i).f 6).o.getD 3 0),B0 ((((D.f 2).f i).f 6).o.getD 4 0),B0 ((((D.f 2).f i).f 6).o.getD 5 0),B0 ((((D.f 2).f i).f 6).o.getD 6 0),B0 ((((D.f 2).f i).f 6).o.getD 7 0),B0 ((((D.f 2).f i).f 6).o.getD 8 0),B0 ((((D.f 2).f i).f 6).o.getD 9 0),B0 ((((D.f 2).f i).f 6).o.getD 10 0),B0 ((((D.f 2).f i).f 6).o.getD 11 0),B0 ((((D.f 2).f i).f 6).o.getD 12 0),B0 ((((D.f 2).f i).f 6).o.getD 13 0),B0 ((((D.f 2).f i).f 6).o.getD 14 0),B0 ((((D.f 2).f i).f 6).o.getD 15 0),.int .i64 ((((D.f 2).f i).f 7).n),.map (((D.f 2).f i).m)]) ∧ (D.f 2).l ≤ 1000000 ∧ ∀ i,i < (D.f 2).l → Bg w F ((D.f 2).f i)) ∧ MapR w F D.m D.u ∧ D.u.length ≤ 1000000 ∧ (∀ x ∈ D.u,x.2.length < 4294967296) ∧ True
def Y5 (w:World) (F:Nat → Nat → Prop) (D:DV):Prop:=((D.f 0).s.size ≤ 1000000) ∧ ((D.f 1).o.length = 16) ∧ (Slots w F 1 (D.f 2).A (D.f 2).c (D.f 2).l (fun i=>[.int .i32 (((D.f 2).f i).n)]) ∧ (D.f 2).l ≤ 1000000 ∧ ∀ i,i < (D.f 2).l → True) ∧ MapR w F D.m D.u ∧ D.u.length ≤ 1000000 ∧ (∀ x ∈ D.u,x.2.length < 4294967296) ∧ True
def Cw (w:World) (F:Nat → Nat → Prop) (D:DV):Prop:=((∀ ad,(D.f 0).A = some ad → ∃ b o,ad = ⟨b,o,none⟩ ∧ AtF w F b o [.string (D.f 0).s]) ∧ (D.f 0).s.size ≤ 1000000) ∧ (True) ∧ (Y4 w F (D.f 2)) ∧ (True) ∧ (True) ∧ (True) ∧ (True) ∧ (True) ∧ (True) ∧ (Slots w F 19 (D.f 9).A (D.f 9).c (D.f 9).l (fun i=>[.string ((((D.f 9).f i).f 0).s),B0 ((((D.f 9).f i).f 1).o.getD 0 0),B0 ((((D.f 9).f i).f 1).o.getD 1 0),B0 ((((D.f 9).f i).f 1).o.getD 2 0),B0 ((((D.f 9).f i).f 1).o.getD 3 0),B0 ((((D.f 9).f i).f 1).o.getD 4 0),B0 ((((D.f 9).f i).f 1).o.getD 5 0),B0 ((((D.f 9).f i).f 1).o.getD 6 0),B0 ((((D.f 9).f i).f 1).o.getD 7 0),B0 ((((D.f 9).f i).f 1).o.getD 8 0),B0 ((((D.f 9).f i).f 1).o.getD 9 0),B0 ((((D.f 9).f i).f 1).o.getD 10 0),B0 ((((D.f 9).f i).f 1).o.getD 11 0),B0 ((((D.f 9).f i).f 1).o.getD 12 0),B0 ((((D.f 9).f i).f 1).o.getD 13 0),B0 ((((D.f 9).f i).f 1).o.getD 14 0),B0 ((((D.f 9).f i).f 1).o.getD 15 0),.slice ((((D.f 9).f i).f 2).A) ((((D.f 9).f i).f 2).l) ((((D.f 9).f i).f 2).c),.map (((D.f 9).f i).m)]) ∧ (D.f 9).l ≤ 1000000 ∧ ∀ i,i < (D.f 9).l → Bh w F ((D.f 9).f i)) ∧ (Slots w F 19 (D.f 10).A (D.f 10).c (D.f 10).l (fun i=>[.string ((((D.f 10).f i).f 0).s),B0 ((((D.f 10).f i).f 1).o.getD 0 0),B0 ((((D.f 10).f i).f 1).o.getD 1 0),B0 ((((D.f 10).f i).f 1).o.getD 2 0),B0 ((((D.f 10).f i).f 1).o.getD 3 0),B0 ((((D.f 10).f i).f 1).o.getD 4 0),B0 ((((D.f 10).f i).f 1).o.getD 5 0),B0 ((((D.f 10).f i).f 1).o.getD 6 0),B0 ((((D.f 10).f i).f 1).o.getD 7 0),B0 ((((D.f 10).f i).f 1).o.getD 8 0),B0 ((((D.f 10).f i).f 1).o.getD 9 0),B0 ((((D.f 10).f i).f 1).o.getD 10 0),B0 ((((D.f 10).f i).f 1).o.getD 11 0),B0 ((((D.f 10).f i).f 1).o.getD 12 0),B0 ((((D.f 10).f i).f 1).o.getD 13 0),B0 ((((D.f 10).f i).f 1).o.getD 14 0),B0 ((((D.f 10).f i).f 1).o.getD 15 0),.slice ((((D.f 10).f i).f 2).A) ((((D.f 10).f i).f 2).l) ((((D.f 10).f i).f 2).c),.map (((D.f 10).f i).m)]) ∧ (D.f 10).l ≤ 1000000 ∧ ∀ i,i < (D.f 10).l → Y5 w F ((D.f 10).f i)) ∧ ((D.f 11).s.size ≤ 1000000) ∧ MapR w F D.m D.u ∧ D.u.length ≤ 1000000 ∧ (∀ x ∈ D.u,x.2.length < 4294967296) ∧ True
def I6 (v:Int) (T:Tree):Bs:=(if ((if (decide (v ≥ 0)) = true then decide (v ≤ 14) else false)) = true then be 4 ((IntKind.i32.wrap (T.at_ 1).N)) else []) ++ ((be 4 ((IntKind.i32.wrap (T.at_ 3).N))) ++ ((be 4 ((IntKind.i32.wrap (T.at_ 4).N))) ++ ((if (decide (v ≥ 3)) = true then be 4 ((IntKind.i32.wrap (T.at_ 5).N)) else []) ++ ((if (decide (v ≥ 4)) = true then be 1 ((IntKind.i8.wrap (T.at_ 6).N)) else []) ++ ((if (decide (v ≥ 7)) = true then be 4 ((IntKind.i32.wrap (T.at_ 7).N)) else []) ++ ((if (decide (v ≥ 7)) = true then be 4 ((IntKind.i32.wrap (T.at_ 8).N)) else []) ++ (((if (decide (v ≥ 12)) = true then (uv ((lst (T.at_ 9)).length + 1)) else (be 4 (lst (T.at_ 9)).length)) ++ ((lst (T.at_ 9)).flatMap fun ab=>(if ((if (decide (v ≥ 0)) = true then decide (v ≤ 12) else false)) = true then if (decide (v ≥ 12)) = true then (uv ((ab.at_ 0).S.length + 1) ++ (ab.at_ 0).S) else (be 2 (ab.at_ 0).S.length ++ (ab.at_ 0).S) else []) ++ ((if (decide (v ≥ 13)) = true then (C3 (ab.at_ 1).S) else []) ++ (((if (decide (v ≥ 12)) = true then (uv ((lst (ab.at_ 2)).length + 1)) else (be 4 (lst (ab.at_ 2)).length)) ++ ((lst (ab.at_ 2)).flatMap fun aa=>(be 4 ((IntKind.i32.wrap (aa.at_ 0).N))) ++ ((if (decide (v ≥ 9)) = true then be 4 ((IntKind.i32.wrap (aa.at_ 1).N)) else []) ++ ((be 8 ((aa.at_ 2).N)) ++ ((if (decide (v ≥ 12)) = true then be 4 ((IntKind.i32.wrap (aa.at_ 3).N)) else []) ++ ((if (decide (v ≥ 5)) = true then be 8 ((aa.at_ 4).N) else []) ++ ((be 4 ((IntKind.i32.wrap (aa.at_ 5).N))) ++ (if (decide (v ≥ 12)) = true then (uv (B3 (!((aa.at_ 6).S.take 16).all (fun b_=>b_ == 0)) + (B3 (!decide (be 8 (aa.at_ 7).N = be 8 9223372036854775807)) + aa.U.length))) ++ ((G4 (!((aa.at_ 6).S.take 16).all (fun b_=>b_ == 0)) 0 ((C3 (aa.at_ 6).S))) ++ ((G4 (!decide (be 8 (aa.at_ 7).N = be 8 9223372036854775807)) 1 (be 8 ((aa.at_ 7).N))) ++ (I1 aa.U))) else [])))))))) ++ (if (decide (v ≥ 12)) = true then (uv ab.U.length) ++ (I1 ab.U) else []))))) ++ ((if (decide (v ≥ 7)) = true then (if (decide (v ≥ 12)) = true then (uv ((lst (T.at_ 10)).length + 1)) else (be 4 (lst (T.at_ 10)).length)) ++ ((lst (T.at_ 10)).flatMap fun ac=>(if ((if (decide (v ≥ 7)) = true then decide (v ≤ 12) else false)) = true then if (decide (v ≥ 12)) = true then (uv ((ac.at_ 0).S.length + 1) ++ (ac.at_ 0).S) else (be 2 (ac.at_ 0).S.length ++ (ac.at_ 0).S) else []) ++ ((if (decide (v ≥ 13)) = true then (C3 (ac.at_ 1).S) else []) ++ (((if (decide (v ≥ 12)) = true then (uv ((lst (ac.at_ 2)).length + 1)) else (be 4 (lst (ac.at_ 2)).length)) ++ ((lst (ac.at_ 2)).flatMap fun af=>be 4 ((IntKind.i32.wrap af.N)))) ++ (if (decide (v ≥ 12)) = true then (uv ac.U.length) ++ (I1 ac.U) else [])))) else []) ++ ((if (decide (v ≥ 11)) = true then if (decide (v ≥ 12)) = true then (uv ((T.at_ 11).S.length + 1) ++ (T.at_ 11).S) else (be 2 (T.at_ 11).S.length ++ (T.at_ 11).S) else []) ++ ((if (decide (v ≥ 12)) = true then (uv (B3 (!(T.at_ 0).null) + (B3 (!((decide (be 4 ((T.at_ 2).at_ 0).N = be 4 (-1))) && (decide (be 8 ((T.at_ 2).at_ 1).N = be 8 (-1))) && decide ((T.at_ 2).U.length = 0))) + T.U.length))) ++ ((G4 (!(T.at_ 0).null) 0 (if (decide (v ≥ 12)) = true then (if (T.at_ 0).null = true then uv 0 else uv ((E1 (T.at_ 0)).length + 1) ++ (E1 (T.at_ 0))) else (if (T.at_ 0).null = true then be 2 (-1) else be 2 (E1 (T.at_ 0)).length ++ (E1 (T.at_ 0))))) ++ ((G4 (!((decide (be 4 ((T.at_ 2).at_ 0).N = be 4 (-1))) && (decide (be 8 ((T.at_ 2).at_ 1).N = be 8 (-1))) && decide ((T.at_ 2).U.length = 0))) 1 (((fun ae=>(be 4 ((IntKind.i32.wrap (ae.at_ 0).N))) ++ ((be 8 ((ae.at_ 1).N)) ++ (if (decide (v ≥ 12)) = true then (uv ae.U.length) ++ (I1 ae.U) else []))) (T.at_ 2)))) ++ (I1 T.U))) else []) ++ ([])))))))))))
theorem W6 {v:Int} {d:Nat} {l:List Fld} {t:Tree} {i:Nat} {x1 x2 x3 x5 x6:Int} {s:List Fld} (h:l[i]? = some (.mk 11 x1 x2 x3 (-1) x5 x6 s)) :
  ((D2 v (d + 1) l t).at_ i).null = Fld.nul (.mk 11 x1 x2 x3 (-1) x5 x6 s) v (t.at_ i) ∧
  lst ((D2 v (d + 1) l t).at_ i) = (if Fld.nul (.mk 11 x1 x2 x3 (-1) x5 x6 s) v (t.at_ i) = true then [] else B9 (t.at_ i).L).map (fun x=>N2 (D2 v d) (.mk x6 x1 x2 (-1) (-1) x5 x6 s) (Fld.nul (.mk x6 x1 x2 (-1) (-1) x5 x6 s) v x) x):=by
 rw [Cv h]
 have e:Q6 (D2 v d) v (.mk 11 x1 x2 x3 (-1) x5 x6 s) (t.at_ i) = .mk 0 [] (Fld.nul (.mk 11 x1 x2 x3 (-1) x5 x6 s) v (t.at_ i)) ((B9 (t.at_ i).L).map (fun x=>N2 (D2 v d) (.mk x6 x1 x2 (-1) (-1) x5 x6 s) (Fld.nul (.mk x6 x1 x2 (-1) (-1) x5 x6 s) v x) x)) []:=by
  simp [Q6,Fld.kind,Fld.tag,Fld.elem]
 rw [e]
 refine ⟨rfl,?_⟩
 unfold lst
 show (if Fld.nul _ v (t.at_ i) = true then [] else _) = _
 split
 ·rfl
 rfl
theorem fit_10 {v:Int} {d:Nat} {x1 x2 x5 x6:Int} {s:List Fld} {b:Bool} {x:Tree}:(∀ i,(N2 (D2 v d) (.mk 10 x1 x2 (-1) (-1) x5 x6 s) b x).at_ i = (D2 v d s x).at_ i) ∧ (N2 (D2 v d) (.mk 10 x1 x2 (-1) (-1) x5 x6 s) b x).U = (D2 v d s x).U:=by
 cases hT:D2 v d s x with
 | mk n s' b' l u =>
  have e:N2 (D2 v d) (.mk 10 x1 x2 (-1) (-1) x5 x6 s) b x = .mk n s' b l u:=by
   simp [N2,Fld.kind,Fld.sub,hT]
  rw [e]
  exact ⟨fun _=>rfl,rfl⟩
theorem Dl {v:Int} {d:Nat} {l:List Fld} {t:Tree} {i:Nat} {x1 x2 x3 x4 x5 x6:Int} {s:List Fld} (h:l[i]? = some (.mk 10 x1 x2 x3 x4 x5 x6 s)) :
  (∀ j,((D2 v (d + 1) l t).at_ i).at_ j = (D2 v d s (t.at_ i)).at_ j) ∧ ((D2 v (d + 1) l t).at_ i).U = (D2 v d s (t.at_ i)).U ∧ ((D2 v (d + 1) l t).at_ i).null = Fld.nul (.mk 10 x1 x2 x3 x4 x5 x6 s) v (t.at_ i):=by
 rw [Cv h]
 cases hT:D2 v d s (t.at_ i) with
 | mk n s' b' l' u =>
  have e:Q6 (D2 v d) v (.mk 10 x1 x2 x3 x4 x5 x6 s) (t.at_ i) = .mk n s' (Fld.nul (.mk 10 x1 x2 x3 x4 x5 x6 s) v (t.at_ i)) l' u:=by
   simp [Q6,N2,Fld.kind,Fld.sub,hT]
  rw [e]
  exact ⟨fun _=>rfl,rfl,rfl⟩
theorem Y6 {v:Int} {d:Nat} {l:List Fld} {t:Tree} {i:Nat} {k x1 x2 x3 x4 x5 x6:Int} {s:List Fld} (h:l[i]? = some (.mk k x1 x2 x3 x4 x5 x6 s)) (hk:k = 8 ∨ k = 9) :
  ((D2 v (d + 1) l t).at_ i).S = C5 (t.at_ i).S:=by
 rw [Cv h]
 have e1:k ≠ 11:=by omega
 have e:Q6 (D2 v d) v (.mk k x1 x2 x3 x4 x5 x6 s) (t.at_ i) = .mk 0 (C5 (t.at_ i).S) (Fld.nul (.mk k x1 x2 x3 x4 x5 x6 s) v (t.at_ i)) [] []:=by
  simp [Q6,N2,Fld.kind,e1,hk]
 rw [e]
 rfl
theorem nul_no {k x1 x2 x4 x5 x6:Int} {s:List Fld} {v:Int} {t:Tree}:Fld.nul (.mk k x1 x2 (-1) x4 x5 x6 s) v t = false:=by
 cases t
 simp [Fld.nul]
theorem Ev {x:Int}:be 8 (((IntKind.u64.wrap x).toNat:Nat):Int) = be 8 x:=by
 rw [show (((IntKind.u64.wrap x).toNat:Nat):Int) = IntKind.u64.wrap x by rw [G3]; omega,KA]
theorem Ew {x:Int}:I3 (if decide (x % 2 = 1) = true then 1 else 0) = I3 (x % 2):=by
 rcases Int.emod_two_eq x with h | h <;> simp [h]
def Q8 (u:List (Int × Bs)):Prop:=Q0 u ∧ u.length ≤ 1000000 ∧ ∀ y ∈ u,y.2.length < 4294967296
theorem Dm {v:Int} {d:Nat} {l:List Fld} {t:Tree}:Q8 (D2 v d l t).U:=by
 rw [S6]
 refine ⟨LN (LL _ _),?_,fun y hy=>?_⟩
 ·rw [Y3]; exact Nat.le_trans (Ix _ _) (by decide)
 obtain ⟨x,_,rfl⟩:=List.mem_map.1 hy
 exact Nat.lt_of_le_of_lt (J7 _) (by decide)
theorem Gj {v:Int} {d:Nat} {l:List Fld} {t:Tree} {i:Nat} {x1 x2 x3 x5 x6:Int} {s:List Fld} {Q:Tree → Prop} (h:l[i]? = some (.mk 11 x1 x2 x3 (-1) x5 x6 s))
  (hq:∀ y,Q (N2 (D2 v d) (.mk x6 x1 x2 (-1) (-1) x5 x6 s) (Fld.nul (.mk x6 x1 x2 (-1) (-1) x5 x6 s) v y) y)):∀ x ∈ lst ((D2 v (d + 1) l t).at_ i),Q x:=by
 rw [(W6 h).2]
 intro x hx
 obtain ⟨y,_,rfl⟩:=List.mem_map.1 hx
 exact hq y
theorem Mc {v:Int} {d:Nat} {l:List Fld} {t:Tree} {i:Nat} {k x1 x2 x3 x4 x5 x6:Int} {s:List Fld} (h:l[i]? = some (.mk k x1 x2 x3 x4 x5 x6 s)) (hk:k = 8 ∨ k = 9):(E1 ((D2 v (d + 1) l t).at_ i)).length ≤ 32767:=by
 rw [(Er h hk).1]
 split
 ·exact Nat.zero_le _
 exact Nat.le_trans (J7 _) (by decide)
theorem Ey {v:Int} {d:Nat} {l:List Fld} {t:Tree} {i:Nat} {x1 x2 x3 x5 x6:Int} {s:List Fld} (h:l[i]? = some (.mk 11 x1 x2 x3 (-1) x5 x6 s)):(lst ((D2 v (d + 1) l t).at_ i)).length ≤ 32767:=by
 rw [(W6 h).2,List.length_map]
 split
 ·exact Nat.zero_le _
 simp only [B9,List.length_take]; omega
theorem Gk {k x1 x2 x4 x5 x6 v:Int} {s:List Fld} {t:Tree} (h:0 ≤ v):Fld.nul (.mk k x1 x2 0 x4 x5 x6 s) v t = t.null:=by
 cases t
 simp [Fld.nul,Tree.null,h]
theorem Md {fields:List Fld} {l:List (Int × Bs)}:∀ x ∈ C4 fields l,D0 fields ≤ x.1:=by
 have key:∀ (r out:List (Int × Bs)),(∀ x ∈ out,D0 fields ≤ x.1) → ∀ x ∈ r.foldl (L6 (D0 fields)) out,D0 fields ≤ x.1:=by
  intro r
  induction r with
  | nil=>intro out h; exact h
  | cons t r ih =>
   intro out h
   rw [List.foldl_cons]
   refine ih _ ?_
   unfold L6
   dsimp only
   split
   ·exact h
   rename_i hn
   have ht:D0 fields ≤ t.1:=by
    rcases Int.lt_or_le t.1 (D0 fields) with g | g
    ·exact absurd (.inl g) hn
    exact g
   intro x hx
   rcases List.mem_append.1 hx with hx | hx
   ·exact h x (List.mem_of_mem_take hx)
   rcases List.mem_cons.1 hx with rfl | hx
   ·exact ht
   exact h x (List.mem_of_mem_drop hx)
 exact key _ [] (fun x hx=>by cases hx)
theorem Je {v:Int} {d:Nat} {l:List Fld} {t:Tree} {n:Int} (h:n ≤ D0 l):∀ x ∈ (D2 v d l t).U,n ≤ x.1:=by
 intro x hx
 rw [S6] at hx
 obtain ⟨y,hy,rfl⟩:=List.mem_map.1 hx
 exact Int.le_trans h (Md y hy)
def Y7 (u:List (Int × Bs)):Prop:=u.length ≤ 32767 ∧ ∀ y ∈ u,y.2.length ≤ 32767
theorem Me {v:Int} {d:Nat} {l:List Fld} {t:Tree}:Y7 (D2 v d l t).U:=by
 rw [S6]
 refine ⟨?_,fun y hy=>?_⟩
 ·rw [Y3]; exact Ix _ _
 obtain ⟨x,_,rfl⟩:=List.mem_map.1 hy
 exact J7 _
theorem Mf {u:List (Int × Bs)} (h:Y7 u) (hr:∀ x ∈ u,0 ≤ x.1 ∧ x.1 < 4294967296):(I1 u).length ≤ 1100000000:=by
 have h1:=Iy (u:=u) fun x hx=>⟨hr x hx,h.2 x hx⟩
 exact Nat.le_trans h1 (Nat.le_trans (Nat.mul_le_mul_left 32800 h.1) (by decide))
def Tree.ranged:Tree → Prop
 | .mk _ _ _ l u=>(∀ x ∈ u,0 ≤ x.1 ∧ x.1 < 4294967296) ∧ rangeds l
where rangeds:List Tree → Prop
 | []=>True
 | t :: r=>t.ranged ∧ rangeds r
abbrev rangeds:=Tree.ranged.rangeds
theorem Jf:∀ {l:List Tree},rangeds l → ∀ x ∈ l,x.ranged
 | [],_,x,h=>by cases h
 | t :: r,hr,x,h=>by
  rcases List.mem_cons.1 h with rfl | h
  ·exact hr.1
  exact Jf (l:=r) hr.2 x h
theorem Ez:∀ {l:List Tree},(∀ x ∈ l,x.ranged) → rangeds l
 | [],_=>trivial
 | t :: r,h=>⟨h t (List.mem_cons_self ..),Ez (l:=r) fun x hx=>h x (List.mem_cons_of_mem _ hx)⟩
theorem Jg:Tree.zero.ranged:=⟨fun x h=>(by cases h),trivial⟩
theorem W7 {t:Tree} (h:t.ranged):∀ x ∈ t.U,0 ≤ x.1 ∧ x.1 < 4294967296:=by cases t; exact h.1
theorem Gl {t:Tree} (h:t.ranged):∀ x ∈ t.L,x.ranged:=by cases t; exact Jf h.2
theorem BI {t:Tree} (h:t.ranged) (i:Nat):(t.at_ i).ranged:=by
 unfold Tree.at_
 rw [List.getD_eq_getElem?_getD]
 cases hx:t.L[i]? with
 | none=>exact Jg
 | some x=>exact Gl h x (List.mem_of_getElem? hx)
theorem Gm {t:Tree} (h:t.ranged):∀ x ∈ lst t,x.ranged:=fun x hx=>by
 unfold lst at hx
 split at hx
 ·cases hx
 exact Gl h x hx
theorem TreeR.ranged {w:World} {F:Nat → Nat → Prop} {cs:List Value} {t:Tree} (h:TreeR w F cs t):t.ranged:=by
 induction h with
 | @mk n s b l u A1 A2 A3 c1 c2 c3 cs h1 h2 h3 h4 ih =>
  refine ⟨fun x hx=>Lh h4 x hx,Ez fun x hx=>?_⟩
  obtain ⟨i,hi⟩:=List.mem_iff_getElem?.1 hx
  exact ih i x hi
theorem Mg (v:Int):∀ (d:Nat) (l:List Fld) (t:Tree),t.ranged → (D2 v d l t).ranged:=by
 have core:∀ (W:Fld → Tree → Tree) (l:List Fld) (t:Tree),t.ranged → (∀ f x,x.ranged → (W f x).ranged) → (BB W l t).ranged:=by
  intro W l t ht hW
  refine ⟨fun x hx=>?_,Ez ?_⟩
  ·obtain ⟨y,hy,rfl⟩:=List.mem_map.1 hx
   exact W7 ht y (LM y hy)
  have:∀ (l:List Fld) (i:Nat),∀ x ∈ BA W l t i,x.ranged:=by
   intro l
   induction l with
   | nil=>intro i x hx; cases hx
   | cons f r ih =>
    intro i x hx
    rcases List.mem_cons.1 hx with rfl | hx
    ·exact hW f _ (BI ht i)
    exact ih (i + 1) x hx
  exact this l 0
 have f0:∀ (p:List Fld → Tree → Tree),(∀ l x,x.ranged → (p l x).ranged) → ∀ (f:Fld) (b:Bool) (x:Tree),x.ranged → (N2 p f b x).ranged:=by
  intro p hp f b x hx
  unfold N2
  split
  ·exact ⟨fun x h=>(by cases h),trivial⟩
  split
  ·have:=hp f.sub x hx
   generalize p f.sub x = y at this
   cases y; exact this
  exact ⟨fun x h=>(by cases h),trivial⟩
 intro d
 induction d with
 | zero=>intro l t ht; exact core _ l t ht fun _ _ _=>Jg
 | succ d ih =>
  intro l t ht
  refine core _ l t ht fun f x hx=>?_
  unfold Q6
  split
  ·refine ⟨fun x h=>(by cases h),Ez fun y hy=>?_⟩
   obtain ⟨z,hz,rfl⟩:=List.mem_map.1 hy
   exact f0 _ ih _ _ _ (Gl hx z (by unfold B9 at hz; exact List.mem_of_mem_take hz))
  exact f0 _ ih _ _ _ hx
theorem Dn (k x1 x2 x3 x4 x5 x6:Int) (fs:List Fld) (AF:Option Addr) (cF:Nat) (v:Int) (w:World) :
  Calls Tryz.prog 24 #[.agg #[.int .i64 k,.int .i64 x1,.int .i64 x2,.int .i64 x3,.int .i64 x4,.int .i64 x5,.int .i64 x6,.slice AF fs.length cF],.int .i64 v] w (L5 w (.bool (Fld.has (Fld.mk k x1 x2 x3 x4 x5 x6 fs) v))):=by
 refine enter (n:=20) Tryz.func24 rfl Tryz.ntmps24 kz fun a hE=>?_
 have hW:=WOk.start w C1
 refine C0 [0,1] kz ?_
 refine B2 (K9 hW hE (d:=2) (cs:=[.int .i64 k,.int .i64 x1,.int .i64 x2,.int .i64 x3,.int .i64 x4,.int .i64 x5,.int .i64 x6,.slice AF fs.length cF]) kz fun b1 a2 w3 hb4 hz5 hF6 hW7 hE8=>?_)
 let aa:Nat × SV:=(1,.v (.int .i64 v))
 let ab:Nat × SV:=(2,.p 0 0)
 refine B1 [1] [] [aa,ab] hW7 hE8 fun a9 ai=>?_
 refine B5 (A4 ?_)
 refine C0 [0,1,2,3,4,5,6,7,8,9,10,11,12,13,14,15] kz ?_
 refine B1 [0,1,2,3,4] [5,6,7,8,9,10,11,12,13,14,15] [aa,ab,(9,.v (.bool (decide (x1 ≤ v))))] hW7 ai fun ay ag=>?_
 refine (Bool.eq_false_or_eq_true (decide (x1 ≤ v))).elim (fun ac=>?_) (fun ac=>?_)
 ·
  have au:=of_decide_eq_true ac
  let af:Nat × SV:=(9,.v (.bool true))
  have aj:=ag
  rw [ac] at aj
  refine B1 [5,6,7,8] [9,10,11,12,13,14,15] [aa,ab,af,(13,.v (.bool (decide (x2 < 0))))] hW7 aj fun az ah=>?_
  refine (Bool.eq_false_or_eq_true (decide (x2 < 0))).elim (fun ae=>?_) (fun ae=>?_)
  ·
   have av:=of_decide_eq_true ae
   have ak:=ah
   rw [ae] at ak
   refine B1 [9,10,11,12,13,14,15] [] [(4,.v (.bool true))] hW7 ak fun aA al=>?_
   refine B5 (A4 ?_)
   refine wp_ret (C8 al hW7.cells (v:=.bool true) kz ?_)
   exact ⟨by simp only [Fld.has,ac,ae,Bool.true_and,Bool.and_true,Bool.false_and,Bool.and_false,Bool.true_or,Bool.false_or,Bool.or_true,Bool.or_false],hW7.step⟩
  have aw:=of_decide_eq_false ae
  have am:=ah
  rw [ae] at am
  refine B1 [9,10,11,12,13,14,15] [] [(4,.v (.bool (decide (v ≤ x2))))] hW7 am fun aB ao=>?_
  refine B5 (A4 ?_)
  refine wp_ret (C8 ao hW7.cells (v:=.bool (decide (v ≤ x2))) kz ?_)
  exact ⟨by simp only [Fld.has,ac,ae,Bool.true_and,Bool.and_true,Bool.false_and,Bool.and_false,Bool.true_or,Bool.false_or,Bool.or_true,Bool.or_false],hW7.step⟩
 have ax:=of_decide_eq_false ac
 have ap:=ag
 rw [ac] at ap
 refine B1 [5,6,7,8,9,10,11,12,13,14,15] [] [(4,.v (.bool false))] hW7 ap fun aC ar=>?_
 refine B5 (A4 ?_)
 refine wp_ret (C8 ar hW7.cells (v:=.bool false) kz ?_)
 exact ⟨by simp only [Fld.has,ac,Bool.true_and,Bool.and_true,Bool.false_and,Bool.and_false,Bool.true_or,Bool.false_or,Bool.or_true,Bool.or_false],hW7.step⟩
abbrev z2 (x0) (x1) (x2) (x3) (x4) (x5) (x6) (x7) (x8) (x9) (x10) (x11) (x12) (x13):=(Fld.nul (Fld.mk x0 x1 x2 x3 x4 x5 x6 x7) x8 (Tree.mk x9 x10 x11 x12 x13))
theorem Gn (k x1 x2 x3 x4 x5 x6:Int) (fs:List Fld) (AF:Option Addr) (cF:Nat) (v:Int) (n:Int) (s:Bs) (b:Bool) (l:List Tree) (u:List (Int × Bs)) (A1:Option Addr) (c1:Nat) (A2:Option Addr) (c2:Nat) (A3:Option Addr) (c3:Nat) (w:World) :
  Calls Tryz.prog 47 #[.agg #[.int .i64 k,.int .i64 x1,.int .i64 x2,.int .i64 x3,.int .i64 x4,.int .i64 x5,.int .i64 x6,.slice AF fs.length cF],.int .i64 v,.agg #[.int .i64 n,.slice A1 s.length c1,.bool b,.slice A2 l.length c2,.slice A3 u.length c3]] w (L5 w (.bool (z2 k x1 x2 x3 x4 x5 x6 fs v n s b l u))):=by
 refine enter (n:=20) Tryz.func47 rfl Tryz.ntmps47 kz fun a hE=>?_
 have hW:=WOk.start w C1
 refine C0 [0,1,2] kz ?_
 refine B2 (K9 hW hE (d:=3) (cs:=[.int .i64 k,.int .i64 x1,.int .i64 x2,.int .i64 x3,.int .i64 x4,.int .i64 x5,.int .i64 x6,.slice AF fs.length cF]) kz fun b1 a2 w3 hb4 hz5 hF6 hW7 hE8=>?_)
 refine B2 (K9 hW7 hE8 (d:=5) (cs:=[.int .i64 n,.slice A1 s.length c1,.bool b,.slice A2 l.length c2,.slice A3 u.length c3]) kz fun b9 aA aB av aw ax aa ai=>?_)
 let ab:Nat × SV:=(1,.v (.int .i64 v))
 let ac:Nat × SV:=(3,.p 0 0)
 refine B1 [2] [] [ab,ac,(5,.p 1 0)] aa ai fun aC aj=>?_
 refine B5 (A4 ?_)
 refine C0 [0,1,2,3,4,5,6,7,8,9,10,11,12,13] kz ?_
 refine B1 [0,1,2] [3,4,5,6,7,8,9,10,11,12,13] [ab,ac,(9,.v (.bool b))] aa aj fun aD ag=>?_
 refine (Bool.eq_false_or_eq_true (b)).elim (fun af=>?_) (fun af=>?_)
 ·
  have ak:=ag.cast (env':=[ab,ac,(9,.v (.bool true))]) (by rw [af])
  refine B1 [3,4,5,6,7] [8,9,10,11,12,13] [ab,ac,(14,.v (.bool (decide (x3 ≥ 0))))] aa ak fun aE ah=>?_
  refine (Bool.eq_false_or_eq_true (decide (x3 ≥ 0))).elim (fun ae=>?_) (fun ae=>?_)
  ·
   have ay:=of_decide_eq_true ae
   have al:=ah
   rw [ae] at al
   refine B1 [8,9,10,11,12,13] [] [(6,.v (.bool (decide (v ≥ x3))))] aa al fun aF am=>?_
   refine B5 (A4 ?_)
   refine wp_ret (C8 am aa.cells (v:=.bool (decide (v ≥ x3))) kz ?_)
   exact ⟨by simp only [Fld.nul,af,ae,Bool.true_and,Bool.and_true,Bool.false_and,Bool.and_false,Bool.true_or,Bool.false_or,Bool.or_true,Bool.or_false],aa.step⟩
  have az:=of_decide_eq_false ae
  have ao:=ah
  rw [ae] at ao
  refine B1 [8,9,10,11,12,13] [] [(6,.v (.bool false))] aa ao fun aG ap=>?_
  refine B5 (A4 ?_)
  refine wp_ret (C8 ap aa.cells (v:=.bool false) kz ?_)
  exact ⟨by simp only [Fld.nul,af,ae,Bool.true_and,Bool.and_true,Bool.false_and,Bool.and_false,Bool.true_or,Bool.false_or,Bool.or_true,Bool.or_false],aa.step⟩
 have ar:=ag.cast (env':=[ab,ac,(9,.v (.bool false))]) (by rw [af])
 refine B1 [3,4,5,6,7,8,9,10,11,12,13] [] [(6,.v (.bool false))] aa ar fun aH au=>?_
 refine B5 (A4 ?_)
 refine wp_ret (C8 au aa.cells (v:=.bool false) kz ?_)
 exact ⟨by simp only [Fld.nul,af,Bool.true_and,Bool.and_true,Bool.false_and,Bool.and_false,Bool.true_or,Bool.false_or,Bool.or_true,Bool.or_false],aa.step⟩
theorem Gp (k:Int) (w:World):Calls Tryz.prog 46 #[.int .i64 k] w (L5 w (.int .i64 ((I5 k:Nat):Int))):=by
 refine enter (n:=11) Tryz.func46 rfl Tryz.ntmps46 kz fun a hE=>?_
 have hW:=WOk.start w C1
 refine B7 [(0,.v (.int .i64 k))] hW hE fun a1 hE2=>?_
 refine wp_seq (B7 [(3,.v (.int .i64 k))] hW hE2 fun a3 hE4=>?_)
 refine wp_block (B7 [(3,.v (.int .i64 k)),(4,.v (.bool (k == 1)))] hW hE4 fun a5 hE6=>?_)
 refine D4 hE6 (b:=k == 1) kz (fun hc7=>?_) (fun hc7=>?_)
 ·
  have hf8:k = 1:=by simpa using hc7
  refine B7 [(2,.v (.int .i64 1))] hW hE6 fun a9 ah=>?_
  refine wp_ret (F3 (D6 (C8 ah hW.cells (v:=.int .i64 1) kz ?_)))
  exact ⟨by simp_all [I5],hW.step⟩
 have am:k ≠ 1:=by simpa using hc7
 refine wp_seq (B7 [(3,.v (.int .i64 k)),(6,.v (.bool (k == 2)))] hW hE6 fun ax aa=>?_)
 refine D4 aa (b:=k == 2) kz (fun ab=>?_) (fun ab=>?_)
 ·
  have ao:k = 2:=by simpa using ab
  refine wp_skip (A4 (I7 aa (b:=k == 2) kz (ab) ?_))
  refine B7 [(2,.v (.int .i64 2))] hW aa fun ay ai=>?_
  refine wp_ret (F3 (D6 (C8 ai hW.cells (v:=.int .i64 2) kz ?_)))
  exact ⟨by simp_all [I5],hW.step⟩
 have ap:k ≠ 2:=by simpa using ab
 refine D7 [0,1] kz ?_
 refine B1 [0,1] [] [(3,.v (.int .i64 k)),(6,.v (.bool (k == 5)))] hW aa fun az ac=>?_
 refine B5 (A4 ?_)
 refine D4 ac (b:=k == 5) kz (fun ae=>?_) (fun ae=>?_)
 ·
  have ar:k = 5:=by simpa using ae
  refine B7 [(2,.v (.int .i64 2))] hW ac fun aA aj=>?_
  refine wp_ret (F3 (D6 (C8 aj hW.cells (v:=.int .i64 2) kz ?_)))
  exact ⟨by simp_all [I5],hW.step⟩
 have au:k ≠ 5:=by simpa using ae
 refine B7 [(9,.v (.bool (k == 3)))] hW ac fun aB af=>?_
 refine D4 af (b:=k == 3) kz (fun ag=>?_) (fun ag=>?_)
 ·
  have av:k = 3:=by simpa using ag
  refine B7 [(2,.v (.int .i64 4))] hW af fun aC ak=>?_
  refine wp_ret (F3 (D6 (C8 ak hW.cells (v:=.int .i64 4) kz ?_)))
  exact ⟨by simp_all [I5],hW.step⟩
 have aw:k ≠ 3:=by simpa using ag
 refine wp_skip (F2 (A4 (B7 [(2,.v (.int .i64 8))] hW af fun aD al=>?_)))
 refine wp_ret (C8 al hW.cells (v:=.int .i64 8) kz ?_)
 exact ⟨by simp_all [I5],hW.step⟩
theorem V2 (A:Option Addr) (c:Nat) (s:Bs) (hc:s.length ≤ c) (w:World) :
  Calls Tryz.prog 30 #[.slice A s.length c] w (L5 w (.slice A (C5 s).length c)):=by
 refine enter (n:=8) Tryz.func30 rfl Tryz.ntmps30 kz fun a hE=>?_
 have hW:=WOk.start w C1
 refine B7 [(0,.v (.slice A s.length c))] hW hE fun a1 hE2=>?_
 refine C0 [0,1,2,3,4,5] kz ?_
 refine B1 [0,1,2,3] [4,5] [(3,.v (.slice A s.length c)),(6,.v (.int .i64 (if 32767 < ((s.length:Nat):Int) then 32767 else ((s.length:Nat):Int))))] hW hE2 fun a3 hE4=>?_
 refine B2 (DU hE4 (t:=22) (A:=A) (m:=s.length) (cp:=c) (q:=(if 32767 < ((s.length:Nat):Int) then 32767 else ((s.length:Nat):Int))) (d:=7) (j:=(C5 s).length) kz (e:=5) (size:=1) (bytes:=1) kz (by simpa [C5] using FD s.length) (by simp only [C5,List.length_take]; omega) fun a5 hE6=>?_)
 refine B1 [5] [] [(2,.v (.slice A ((C5 s).length) c))] hW hE6 fun a7 hE8=>?_
 refine B5 (A4 ?_)
 refine wp_ret (C8 hE8 hW.cells (v:=.slice A ((C5 s).length) c) kz ?_)
 exact ⟨rfl,hW.step⟩
theorem EA (A:Option Addr) (c:Nat) (s:List Tree) (hc:s.length ≤ c) (w:World) :
  Calls Tryz.prog 48 #[.slice A s.length c] w (L5 w (.slice A (B9 s).length c)):=by
 refine enter (n:=8) Tryz.func48 rfl Tryz.ntmps48 kz fun a hE=>?_
 have hW:=WOk.start w C1
 refine B7 [(0,.v (.slice A s.length c))] hW hE fun a1 hE2=>?_
 refine C0 [0,1,2,3,4,5] kz ?_
 refine B1 [0,1,2,3] [4,5] [(3,.v (.slice A s.length c)),(6,.v (.int .i64 (if 32767 < ((s.length:Nat):Int) then 32767 else ((s.length:Nat):Int))))] hW hE2 fun a3 hE4=>?_
 refine B2 (DU hE4 (t:=23) (A:=A) (m:=s.length) (cp:=c) (q:=(if 32767 < ((s.length:Nat):Int) then 32767 else ((s.length:Nat):Int))) (d:=7) (j:=(B9 s).length) kz (e:=26) (size:=5) (bytes:=88) kz (by simpa [B9] using FD s.length) (by simp only [B9,List.length_take]; omega) fun a5 hE6=>?_)
 refine B1 [5] [] [(2,.v (.slice A ((B9 s).length) c))] hW hE6 fun a7 hE8=>?_
 refine B5 (A4 ?_)
 refine wp_ret (C8 hE8 hW.cells (v:=.slice A ((B9 s).length) c) kz ?_)
 exact ⟨rfl,hW.step⟩
theorem Q9 (A A':Option Addr) (c c':Nat) (s t:Bs) (w:World) (F:Nat → Nat → Prop) (hs:Octs w F A c s) (ht:Octs w F A' c' t) :
  Calls Tryz.prog 29 #[.slice A s.length c,.slice A' t.length c'] w (L5 w (.bool (decide (s = t)))):=by
 refine enter (n:=26) Tryz.func29 rfl Tryz.ntmps29 kz fun a hE=>?_
 have hW:=WOk.start w C1
 have hl:=Slots.small hs
 let aa:Nat × SV:=(0,.v (.slice A s.length c))
 let ab:Nat × SV:=(1,.v (.slice A' t.length c'))
 refine B7 [aa,ab] hW hE fun a1 hE2=>?_
 refine wp_seq (B7 [aa,ab,(10,.v (.bool (((s.length:Nat):Int) != ((t.length:Nat):Int))))] hW hE2 fun a3 hE4=>?_)
 refine D4 hE4 (b:=((s.length:Nat):Int) != ((t.length:Nat):Int)) kz (fun hc5=>?_) (fun hc5=>?_)
 ·
  have hf6:((s.length:Nat):Int) ≠ ((t.length:Nat):Int):=by simpa using hc5
  refine B7 [(4,.v (.bool false))] hW hE4 fun a7 hE8=>?_
  refine wp_ret (D6 (C8 hE8 hW.cells (v:=.bool false) kz ?_))
  exact ⟨by first | rw [← FG hq (by omega) hlen] | rw [← FF ‹_›] | rw [← FE ‹_›],hW.step⟩
 have hf9:((s.length:Nat):Int) = ((t.length:Nat):Int):=by simpa using hc5
 refine wp_skip (A4 (wp_seq ?_))
 let ac:Nat × SV:=(12,.v (.int .i64 ((s.length:Nat):Int)))
 refine B7 [aa,ab,ac,(13,.v (.int .i64 0))] hW hE4 fun aT ap=>?_
 refine wp_block ?_
 have hlen:s.length = t.length:=by omega
 refine wp_loop_ghost (fun n_ a_ w_=>∃ (k:Nat),n_ = s.length - k ∧ k ≤ s.length ∧ (s.take k = t.take k) ∧ F9 hW 26 [] [] [aa,ab,ac,(13,.v (.int .i64 ((k:Nat):Int)))] a_ w_) (s.length) ⟨0,by omega,by omega,rfl,ap.pk,hW,Fr.refl _ _ _⟩ ?_
 rintro aU aV aW ⟨k,aH,aI,hq,ar,ag,au⟩
 let af:Nat × SV:=(13,.v (.int .i64 ((k:Nat):Int)))
 refine B7 [aa,ab,ac,af,(14,.v (.bool (decide (((k:Nat):Int) < ((s.length:Nat):Int)))))] ag ar fun aX ah=>?_
 refine wp_seq (D4 ah (b:=decide (((k:Nat):Int) < ((s.length:Nat):Int))) kz (fun ai=>?_) (fun ai=>?_))
 ·
  have aJ:=of_decide_eq_true ai
  refine wp_skip (A4 (wp_seq (wp_block (B7 [aa,ab,(5,.v (.int .i64 ((k:Nat):Int))),ac,af] ag ah fun aY av=>?_))))
  refine Bc kz ag fun aZ aw ae=>?_
  refine C7 [0,1,4,5] [aa,ab,ac,af,(16,.v (.slice A s.length c)),(17,.v (.int .i64 ((k:Nat):Int))),(20,.v (.slice A' t.length c')),(21,.v (.int .i64 ((k:Nat):Int)))] 5 (A5 (B6 (A5 (A5 (B6 (A5 B8)))))) (fun _ h=>h ▸ ae.cells) rfl av fun ba ax=>?_
  obtain ⟨aK,aL,ay,aM,al⟩:=Slots.get hs (i:=k) (by omega)
  refine F6 ax (i:=2) (t:=22) (A:=A) (m:=s.length) (q:=((k:Nat):Int)) (d:=18) kz (e:=5) (size:=1) (bytes:=1) kz ay rfl (by omega) kz kz (A5 (B6 (A5 (A5 (B6 (A5 B8)))))) rfl fun bd az=>?_
  refine J4 az (i:=3) (t:=5) (b:=aK) (o:=aL + k * 1) (d:=19) kz (cs:=[.int .u8 ((s.getD k 0).toNat:Int)]) (v:=.int .u8 ((s.getD k 0).toNat:Int)) kz (fun w' h'=>h' ▸ (AtF.move al ae.step A7 E8).at_) kz kz (A5 (B6 (A5 (A5 (B6 (A5 B8)))))) rfl fun bf aA=>?_
  obtain ⟨aN,aO,aB,aP,am⟩:=Slots.get ht (i:=k) (by omega)
  refine F6 aA (i:=6) (t:=22) (A:=A') (m:=t.length) (q:=((k:Nat):Int)) (d:=22) kz (e:=5) (size:=1) (bytes:=1) kz aB rfl (by omega) kz kz (A5 (B6 (A5 (A5 (B6 (A5 B8)))))) rfl fun bg aC=>?_
  refine J4 aC (i:=7) (t:=5) (b:=aN) (o:=aO + k * 1) (d:=23) kz (cs:=[.int .u8 ((t.getD k 0).toNat:Int)]) (v:=.int .u8 ((t.getD k 0).toNat:Int)) kz (fun w' h'=>h' ▸ (AtF.move am ae.step A7 E8).at_) kz kz (A5 (B6 (A5 (A5 (B6 (A5 B8)))))) rfl fun bh aD=>?_
  refine C7 [8] [aa,ab,ac,af,(24,.v (.bool (((s.getD k 0).toNat:Int) != ((t.getD k 0).toNat:Int))))] 0 (A5 (B6 (A5 (A5 (B6 (A5 B8)))))) (fun _ h=>h ▸ ae.cells) rfl aD fun bj aj=>?_
  refine E5 kz ?_ _
  refine A4 (D4 aj (b:=((s.getD k 0).toNat:Int) != ((t.getD k 0).toNat:Int)) kz (fun ak=>?_) (fun ak=>?_))
  ·
   have aQ:((s.getD k 0).toNat:Int) ≠ ((t.getD k 0).toNat:Int):=by simpa using ak
   refine B7 [(4,.v (.bool false))] ae aj fun bk aE=>?_
   refine wp_ret (F3 (D6 (D6 (F3 (D6 (C8 aE ae.cells (v:=.bool false) kz ?_))))))
   exact ⟨by first | rw [← FG hq (by omega) hlen] | rw [← FF ‹_›] | rw [← FE ‹_›],ae.step⟩
  have aR:((s.getD k 0).toNat:Int) = ((t.getD k 0).toNat:Int):=by simpa using ak
  refine wp_skip (F2 (A4 (D7 [0,1] kz ?_)))
  refine B1 [0,1] [] [aa,ab,ac,(13,.v (.int .i64 (IntKind.i64.wrap (((k:Nat):Int) + 1))))] ae aj fun bn ao=>?_
  refine B5 (A4 ?_)
  have aF:IntKind.i64.wrap (((k:Nat):Int) + 1) = ((k + 1:Nat):Int):=G8 (by omega)
  rw [aF] at ao
  exact ⟨s.length - (k + 1),by omega,k + 1,rfl,by omega,KC hq (by omega) hlen ‹_›,ao.pk,ae,(au.trans aw)⟩
 have aS:=of_decide_eq_false ai
 refine wp_exit (E7 (E7 (G9 (A4 (B7 [(4,.v (.bool true))] ag ah fun bo aG=>?_)))))
 refine wp_ret (C8 aG ag.cells (v:=.bool true) kz ?_)
 exact ⟨by first | rw [← FG hq (by omega) hlen] | rw [← FF ‹_›] | rw [← FE ‹_›],ag.step⟩
theorem Cx (ct:List Value) (t:Tree) (i:Nat) (w:World) (F:Nat → Nat → Prop) (ht:TreeR w F ct t) :
  Calls Tryz.prog 23 #[.agg ct.toArray,.int .i64 (i:Int)] w (KE w F (t.at_ i)):=by
 obtain ⟨n1,s2,b3,l4,u5,A6,c7,A8,c9,aT,aU,aV,rfl,rfl,aW,aE,aX,bz⟩:=ht.open_
 have aF:=aW.small
 have aG:=aE.small
 refine enter (n:=16) Tryz.func23 rfl Tryz.ntmps23 kz fun a hE=>?_
 have hW:=WOk.start w C1
 refine C0 [0,1] kz ?_
 refine B2 (K9 hW hE (d:=2) (cs:=[.int .i64 n1,.slice A6 s2.length c7,.bool b3,.slice A8 l4.length c9,.slice aT u5.length aU]) kz fun bA bB bC aY aZ ba au av=>?_)
 let aa:Value:=.slice none 0 0
 refine B2 (H4 au av (d:=4) (cs:=[.int .i64 0,aa,.bool false,aa,aa]) kz fun bD bE bF bd bf bg af aw=>?_)
 refine B5 (A4 ?_)
 refine wp_seq (B7 [(1,.v (.int .i64 ((i:Nat):Int))),(2,.p 0 0),(4,.p 1 0),(9,.v (.bool (decide (((i:Nat):Int) < ((l4.length:Nat):Int)))))] af aw fun bG ai=>?_)
 refine D4 ai (b:=decide (((i:Nat):Int) < ((l4.length:Nat):Int))) kz (fun aj=>?_) (fun aj=>?_)
 ·
  have bh:=of_decide_eq_true aj
  refine C0 [0,1,2,3,4,5] kz ?_
  refine B1 [0,1,2] [3,4,5] [(4,.p 1 0),(11,.v (.slice A8 l4.length c9)),(12,.v (.int .i64 ((i:Nat):Int)))] af ai fun bH ax=>?_
  obtain ⟨bj,bk,ay,bn,ag⟩:=Slots.get aE (i:=i) (by omega)
  obtain ⟨bo,al⟩:∃ x,l4[i]? = some x:=⟨_,List.getElem?_eq_getElem (by omega)⟩
  have ak:=aX i bo al
  obtain ⟨am,aH,ao,aI,aJ,aK,aL,aM,aN,aO,aP,bp,rfl,ah,bq,bt,bI,bJ⟩:=ak.open_
  rw [ah] at ak
  have aQ:=bq.small
  have aR:=bt.small
  rw [ah] at ag
  refine B2 (G6 ax (t:=23) (A:=A8) (m:=l4.length) (q:=((i:Nat):Int)) (d:=13) kz (e:=26) (size:=5) (bytes:=88) kz ay rfl (by omega) fun bK az=>?_)
  let ab:Value:=.slice aK aH.length aL
  let ac:Value:=.slice aM aI.length aN
  let ae:Value:=.slice aO aJ.length aP
  let aS:Value:=.agg #[.int .i64 am,.slice aK aH.length aL,.bool ao,.slice aM aI.length aN,.slice aO aJ.length aP]
  refine B2 (K3 az (t:=26) (b:=bj) (o:=bk + i * 5) (d:=14) kz (cs:=[.int .i64 am,ab,.bool ao,ac,ae]) (v:=.agg #[.int .i64 am,ab,.bool ao,ac,ae]) kz (AtF.move ag af.step A7 E8).at_ fun bL aA=>?_)
  refine B2 (D5 af aA (oi:=1) (cs:=[.int .i64 am,ab,.bool ao,ac,ae]) kz fun bM bu ap aB=>?_)
  refine B5 (A4 ?_)
  refine wp_ret (D6 (C8 aB ap.cells (v:=.agg #[.int .i64 am,ab,.bool ao,ac,ae]) kz ?_))
  exact ⟨_,rfl,by rw [KF al]; exact ak,ap.step⟩
 have bw:=of_decide_eq_false aj
 refine wp_skip (A4 (C0 [0,1] kz ?_))
 refine B1 [0] [1] [(4,.p 1 0),(15,.v (.agg #[.int .i64 0,aa,.bool false,aa,aa]))] af ai fun bN aC=>?_
 refine B2 (D5 af aC (oi:=1) (cs:=[.int .i64 0,aa,.bool false,aa,aa]) kz fun bO bx ar aD=>?_)
 refine B5 (A4 ?_)
 refine wp_ret (C8 aD ar.cells (v:=.agg #[.int .i64 0,aa,.bool false,aa,aa]) kz ?_)
 exact ⟨_,rfl,by rw [KG (by omega)]; exact TreeR.zero _ _,ar.step⟩
theorem BJ (x:Int) (size:Nat) (hsz:size ≤ 8) (w:World) :
  Calls Tryz.prog 45 #[.int .i64 x,.int .i64 ((size:Nat):Int)] w (W3 w 5 (be size x)):=by
 refine enter (n:=22) Tryz.func45 rfl Tryz.ntmps45 kz fun a hE=>?_
 have hW:=WOk.start w C1
 let aa:Nat × SV:=(0,.v (.int .i64 x))
 let ah:Nat × SV:=(1,.v (.int .i64 ((size:Nat):Int)))
 refine B7 [aa,ah] hW hE fun a1 hE2=>?_
 refine B7 [aa,ah,(5,.v (.slice none 0 0))] hW hE2 fun a3 hE4=>?_
 refine wp_seq (B7 [aa,(5,.v (.slice none 0 0)),(6,.v (.int .i64 (IntKind.i64.wrap (((size:Nat):Int) - 1))))] hW hE4 fun a5 hE6=>?_)
 refine wp_block ?_
 have hW7:=hW.addNil 5 1
 have hF8:=hW.frNil 5 1
 have ao:IntKind.i64.wrap (((size:Nat):Int) - 1) = ((size:Nat):Int) - 1 - ((0:Nat):Int):=by rw [wrap_i64 (by omega) (by omega)]; omega
 rw [ao] at hE6
 refine wp_loop_ghost (fun n_ a_ w_=>∃ (k:Nat) (A:Option Addr) (c:Nat),n_ = size - k ∧ k ≤ size ∧ F9 hW7 22 [] [B4 A c 5 ((be size x).take k)] [aa,(5,.v (.slice A (((be size x).take k).length) c)),(6,.v (.int .i64 (((size:Nat):Int) - 1 - ((k:Nat):Int))))] a_ w_) (size) ⟨0,none,0,by omega,by omega,hE6.pk,hW7,Fr.refl _ _ _⟩ ?_
 rintro n9 aO aP ⟨k,A,c,aK,aL,ap,ac,ar⟩
 refine wp_seq ?_
 let ab:Nat × SV:=(6,.v (.int .i64 (((size:Nat):Int) - 1 - ((k:Nat):Int))))
 refine B7 [aa,(5,.v (.slice A (((be size x).take k).length) c)),ab,(10,.v (.bool (decide ((((size:Nat):Int) - 1 - ((k:Nat):Int)) ≥ 0))))] ac ap fun aQ ai=>?_
 refine D4 ai (b:=decide ((((size:Nat):Int) - 1 - ((k:Nat):Int)) ≥ 0)) kz (fun aj=>?_) (fun aj=>?_)
 ·
  have aM:=of_decide_eq_true aj
  refine wp_skip (A4 (wp_seq (wp_block (D7 [0,1,2,3,4,5,6,7,8] kz ?_))))
  let ae:Nat × SV:=(13,.v (.slice A (((be size x).take k).length) c))
  refine B1 [0,1,2,3] [4,5,6,7,8] [aa,ab,ae,(14,.v (.int .i64 x)),(16,.v (.int .i64 (IntKind.i64.wrap (8 * (((size:Nat):Int) - 1 - ((k:Nat):Int))))))] ac ai fun aR au=>?_
  refine B2 (Kx au (k:=.i64) (p:=x) (q:=(IntKind.i64.wrap (8 * (((size:Nat):Int) - 1 - ((k:Nat):Int))))) (d:=17) (j:=8 * (size - 1 - k)) kz (by rw [wrap_i64 (by omega) (by omega)]; omega) (by simp only [IntKind.bits]; omega) fun aS av=>?_)
  refine B1 [5] [6,7,8] [aa,ab,ae,(18,.v (.int .u8 (IntKind.u8.wrap (x / 2 ^ (8 * (size - 1 - k))))))] ac av fun aT aw=>?_
  refine Bz ac aw (k:=0) (e:=5) (size:=1) (len:=1) (cs:=[.int .u8 (IntKind.u8.wrap (x / 2 ^ (8 * (size - 1 - k))))]) (d1:=19) (d:=20) kz (t:=22) (bytes:=1) kz (fun _=>by kernel_rfl) rfl kz (by first | (have:=hroom; omega) | (simp; done) | (simp; omega)) fun af ag aU aV ax ay ⟨_,az⟩=>?_
  have aA:(⟨af,ag,5,1,((be size x).take k).length + 1,bc ((be size x).take k) ++ [.int .u8 (IntKind.u8.wrap (x / 2 ^ (8 * (size - 1 - k))))]⟩:Rw) = B4 af ag 5 ((be size x).take k ++ [I3 (x / 2 ^ (8 * (size - 1 - k)))]):=O8 (by simp only [bc,List.map,CX]; try rfl) rfl
  obtain ⟨ak,aB⟩:=ay.rowEq 0 [B4 af ag 5 ((be size x).take k ++ [I3 (x / 2 ^ (8 * (size - 1 - k)))])] aA
  have aC:=EnvOk.pick az (ks:=[0,6,13,18,20]) (env':=[aa,ab,ae,(18,.v (.int .u8 (IntKind.u8.wrap (x / 2 ^ (8 * (size - 1 - k)))))),(20,.v (.slice af (((be size x).take k).length + 1) ag))]) kz
  have aD:=aC.cast (env':=[aa,ab,ae,(18,.v (.int .u8 (IntKind.u8.wrap (x / 2 ^ (8 * (size - 1 - k)))))),(20,.v (.slice af (((be size x).take k ++ [I3 (x / 2 ^ (8 * (size - 1 - k)))]).length) ag))]) (by simp only [List.length_append,List.length_cons,List.length_nil,Nat.zero_add])
  refine B1 [8] [] [aa,(5,.v (.slice af (((be size x).take k ++ [I3 (x / 2 ^ (8 * (size - 1 - k)))]).length) ag)),ab] ak aD fun aW aE=>?_
  refine B5 (F2 (A4 (D7 [0,1,2] kz ?_)))
  refine B1 [0,1,2] [] [aa,(5,.v (.slice af (((be size x).take k ++ [I3 (x / 2 ^ (8 * (size - 1 - k)))]).length) ag)),(6,.v (.int .i64 (IntKind.i64.wrap ((((size:Nat):Int) - 1 - ((k:Nat):Int)) - 1))))] ak aE fun aX al=>?_
  refine B5 (A4 ?_)
  have am:((be size x).take k ++ [I3 (x / 2 ^ (8 * (size - 1 - k)))]) = ((be size x).take (k + 1)):=(KH (by omega)).symm
  have aF:=congrArg (B4 af ag 5) am
  obtain ⟨aG,aH⟩:=ak.rowEq 0 [B4 af ag 5 ((be size x).take (k + 1))] aF
  rw [am] at al
  have aI:IntKind.i64.wrap ((((size:Nat):Int) - 1 - ((k:Nat):Int)) - 1) = ((size:Nat):Int) - 1 - (((k + 1):Nat):Int):=by rw [wrap_i64 (by omega) (by omega)]; omega
  rw [aI] at al
  exact ⟨size - (k + 1),by omega,k + 1,af,ag,rfl,by omega,al.pk,aG,(((ar.trans ax).trans aB).trans aH)⟩
 have aN:=of_decide_eq_false aj
 refine wp_exit (E7 (E7 (G9 (A4 (B7 [(4,.v (.slice A (((be size x).take k).length) c))] ac ai fun aY aJ=>?_)))))
 refine wp_ret (C8 aJ ac.cells (v:=.slice A (((be size x).take k).length) c) kz ?_)
 exact M8 ac (k:=0) rfl (List.take_of_length_le (by simp; omega))
theorem Cy (x:Nat) (hx:x < 18446744073709551616) (w:World) :
  Calls Tryz.prog 44 #[.int .u64 ((x:Nat):Int)] w (W3 w 5 (uv x)):=by
 refine enter (n:=20) Tryz.func44 rfl Tryz.ntmps44 kz fun a hE=>?_
 have hW:=WOk.start w C1
 let ah:Nat × SV:=(0,.v (.int .u64 ((x:Nat):Int)))
 refine B7 [ah] hW hE fun a1 hE2=>?_
 refine B7 [ah,(3,.v (.slice none 0 0))] hW hE2 fun a3 hE4=>?_
 refine wp_seq (wp_block ?_)
 have hW5:=hW.addNil 5 1
 have hF6:=hW.frNil 5 1
 refine wp_loop_ghost (fun n_ a_ w_=>∃ (A:Option Addr) (c:Nat) (pre:Bs) (m:Nat),n_ = m ∧ (pre ++ uv m = uv x) ∧ (m < 18446744073709551616) ∧ F9 hW5 20 [] [B4 A c 5 pre] [(0,.v (.int .u64 ((m:Nat):Int))),(3,.v (.slice A pre.length c))] a_ w_) (x) ⟨none,0,[],x,rfl,rfl,hx,hE4.pk,hW5,Fr.refl _ _ _⟩ ?_
 rintro n7 a8 w9 ⟨A,c,pre,m,aQ,hp,hm,au,ab,av⟩
 refine wp_seq ?_
 let aa:Nat × SV:=(0,.v (.int .u64 ((m:Nat):Int)))
 refine B7 [aa,(3,.v (.slice A pre.length c)),(5,.v (.bool (decide (((m:Nat):Int) > 127))))] ab au fun aV ai=>?_
 refine D4 ai (b:=decide (((m:Nat):Int) > 127)) kz (fun aj=>?_) (fun aj=>?_)
 ·
  have aR:=of_decide_eq_true aj
  refine wp_skip (A4 (wp_block (C0 [0,1,2,3,4,5,6,7] kz ?_)))
  let ac:Nat × SV:=(6,.v (.slice A pre.length c))
  refine B1 [0,1,2,3,4] [5,6,7] [aa,ac,(10,.v (.int .u8 (IntKind.u8.wrap (BitVec.ofInt 8 (IntKind.u8.wrap (IntKind.u64.wrap (BitVec.ofInt 64 ((m:Nat):Int) &&& BitVec.ofInt 64 127).toNat)) ||| BitVec.ofInt 8 128).toNat)))] ab ai fun aW aw=>?_
  refine Bz ab aw (k:=0) (e:=5) (size:=1) (len:=1) (cs:=[.int .u8 (IntKind.u8.wrap (BitVec.ofInt 8 (IntKind.u8.wrap (IntKind.u64.wrap (BitVec.ofInt 64 ((m:Nat):Int) &&& BitVec.ofInt 64 127).toNat)) ||| BitVec.ofInt 8 128).toNat)]) (d1:=11) (d:=12) kz (t:=22) (bytes:=1) kz (fun _=>by kernel_rfl) rfl kz (by have h1_:=Db x hx; rw [← hp,List.length_append] at h1_; omega) fun af ag aX aY ax ay ⟨_,az⟩=>?_
  have aA:(⟨af,ag,5,1,pre.length + 1,bc pre ++ [.int .u8 (IntKind.u8.wrap (BitVec.ofInt 8 (IntKind.u8.wrap (IntKind.u64.wrap (BitVec.ofInt 64 ((m:Nat):Int) &&& BitVec.ofInt 64 127).toNat)) ||| BitVec.ofInt 8 128).toNat)]⟩:Rw) = B4 af ag 5 (pre ++ [I3 (BitVec.ofInt 8 (IntKind.u8.wrap (IntKind.u64.wrap (BitVec.ofInt 64 ((m:Nat):Int) &&& BitVec.ofInt 64 127).toNat)) ||| BitVec.ofInt 8 128).toNat]):=O8 (by simp only [bc,List.map,CX]; try rfl) rfl
  obtain ⟨ak,aB⟩:=ay.rowEq 0 [B4 af ag 5 (pre ++ [I3 (BitVec.ofInt 8 (IntKind.u8.wrap (IntKind.u64.wrap (BitVec.ofInt 64 ((m:Nat):Int) &&& BitVec.ofInt 64 127).toNat)) ||| BitVec.ofInt 8 128).toNat])] aA
  have aC:=EnvOk.pick az (ks:=[0,6,10,12]) (env':=[aa,ac,(10,.v (.int .u8 (IntKind.u8.wrap (BitVec.ofInt 8 (IntKind.u8.wrap (IntKind.u64.wrap (BitVec.ofInt 64 ((m:Nat):Int) &&& BitVec.ofInt 64 127).toNat)) ||| BitVec.ofInt 8 128).toNat))),(12,.v (.slice af (pre.length + 1) ag))]) kz
  have aD:=aC.cast (env':=[aa,ac,(10,.v (.int .u8 (IntKind.u8.wrap (BitVec.ofInt 8 (IntKind.u8.wrap (IntKind.u64.wrap (BitVec.ofInt 64 ((m:Nat):Int) &&& BitVec.ofInt 64 127).toNat)) ||| BitVec.ofInt 8 128).toNat))),(12,.v (.slice af ((pre ++ [I3 (BitVec.ofInt 8 (IntKind.u8.wrap (IntKind.u64.wrap (BitVec.ofInt 64 ((m:Nat):Int) &&& BitVec.ofInt 64 127).toNat)) ||| BitVec.ofInt 8 128).toNat]).length) ag))]) (by simp only [List.length_append,List.length_cons,List.length_nil,Nat.zero_add])
  refine B1 [7] [] [aa,(3,.v (.slice af ((pre ++ [I3 (BitVec.ofInt 8 (IntKind.u8.wrap (IntKind.u64.wrap (BitVec.ofInt 64 ((m:Nat):Int) &&& BitVec.ofInt 64 127).toNat)) ||| BitVec.ofInt 8 128).toNat]).length) ag))] ak aD fun aZ aE=>?_
  refine B5 (A4 ?_)
  refine D7 [0,1,2] kz ?_
  refine B1 [0,1,2] [] [(0,.v (.int .u64 (Int.fdiv ((m:Nat):Int) 128))),(3,.v (.slice af ((pre ++ [I3 (BitVec.ofInt 8 (IntKind.u8.wrap (IntKind.u64.wrap (BitVec.ofInt 64 ((m:Nat):Int) &&& BitVec.ofInt 64 127).toNat)) ||| BitVec.ofInt 8 128).toNat]).length) ag))] ak aE fun ba al=>?_
  refine B5 (F2 (A4 ?_))
  have ar:(pre ++ [I3 (BitVec.ofInt 8 (IntKind.u8.wrap (IntKind.u64.wrap (BitVec.ofInt 64 ((m:Nat):Int) &&& BitVec.ofInt 64 127).toNat)) ||| BitVec.ofInt 8 128).toNat]) = (pre ++ [UInt8.ofNat (m % 128 + 128)]):=by rw [KR m (by omega)]
  have aF:=congrArg (B4 af ag 5) ar
  obtain ⟨aG,aH⟩:=ak.rowEq 0 [B4 af ag 5 (pre ++ [UInt8.ofNat (m % 128 + 128)])] aF
  rw [ar] at al
  have aI:Int.fdiv ((m:Nat):Int) 128 = ((m / 128:Nat):Int):=KS m
  rw [aI] at al
  exact ⟨m / 128,by omega,af,ag,pre ++ [UInt8.ofNat (m % 128 + 128)],m / 128,rfl,by rw [← hp,W5 (show 128 ≤ m by omega)]; simp,by omega,al.pk,aG,(((av.trans ax).trans aB).trans aH)⟩
 have aS:=of_decide_eq_false aj
 refine wp_exit (E7 (E7 (G9 (A4 (C0 [0,1,2,3,4,5] kz ?_)))))
 let ae:Nat × SV:=(15,.v (.slice A pre.length c))
 refine B1 [0,1,2] [3,4,5] [ae,(17,.v (.int .u8 (IntKind.u8.wrap ((m:Nat):Int))))] ab ai fun bd aJ=>?_
 refine Bz ab aJ (k:=0) (e:=5) (size:=1) (len:=1) (cs:=[.int .u8 (IntKind.u8.wrap ((m:Nat):Int))]) (d1:=18) (d:=19) kz (t:=22) (bytes:=1) kz (fun _=>by kernel_rfl) rfl kz (by have h1_:=Db x hx; rw [← hp,List.length_append] at h1_; omega) fun am ao bf bg aT aK ⟨_,aL⟩=>?_
 have aM:(⟨am,ao,5,1,pre.length + 1,bc pre ++ [.int .u8 (IntKind.u8.wrap ((m:Nat):Int))]⟩:Rw) = B4 am ao 5 (pre ++ [I3 ((m:Nat):Int)]):=O8 (by simp only [bc,List.map,CX]; try rfl) rfl
 obtain ⟨ap,aU⟩:=aK.rowEq 0 [B4 am ao 5 (pre ++ [I3 ((m:Nat):Int)])] aM
 have aN:=EnvOk.pick aL (ks:=[15,17,19]) (env':=[ae,(17,.v (.int .u8 (IntKind.u8.wrap ((m:Nat):Int)))),(19,.v (.slice am (pre.length + 1) ao))]) kz
 have aO:=aN.cast (env':=[ae,(17,.v (.int .u8 (IntKind.u8.wrap ((m:Nat):Int)))),(19,.v (.slice am ((pre ++ [I3 ((m:Nat):Int)]).length) ao))]) (by simp only [List.length_append,List.length_cons,List.length_nil,Nat.zero_add])
 refine B1 [5] [] [(2,.v (.slice am ((pre ++ [I3 ((m:Nat):Int)]).length) ao))] ap aO fun bh aP=>?_
 refine B5 (A4 ?_)
 refine wp_ret (C8 aP ap.cells (v:=.slice am ((pre ++ [I3 ((m:Nat):Int)]).length) ao) kz ?_)
 exact M8 ap (k:=0) rfl (by rw [← hp,W4 (show m < 128 by omega),HE])
theorem Cz (flex null:Bool) (m sz:Nat) (hm:m ≤ 1099511627776) (hsz:sz ≤ 8) (w:World) :
  Calls Tryz.prog 80 #[.bool flex,.bool null,.int .i64 ((m:Nat):Int),.int .i64 ((sz:Nat):Int)] w (W3 w 5 (D9 flex null m sz)):=by
 refine enter (n:=28) Tryz.func80 rfl Tryz.ntmps80 kz fun a hE=>?_
 have hW:=WOk.start w C1
 let ac:Nat × SV:=(1,.v (.bool null))
 let aa:Nat × SV:=(2,.v (.int .i64 ((m:Nat):Int)))
 let ab:Nat × SV:=(3,.v (.int .i64 ((sz:Nat):Int)))
 refine B7 [(0,.v (.bool flex)),ac,aa,ab] hW hE fun a1 hE2=>?_
 refine wp_seq (wp_block (C0 [0,1,2,3,4] kz ?_))
 refine B1 [0,1] [2,3,4] [(0,.v (.bool flex)),ac,aa,ab,(11,.v (.bool flex))] hW hE2 fun a3 hE4=>?_
 refine (Bool.eq_false_or_eq_true (flex)).elim (fun hc5=>?_) (fun hc5=>?_)
 ·
  let ae:Nat × SV:=(0,.v (.bool true))
  have hE7:=hE4.cast (env':=[ae,ac,aa,ab,(11,.v (.bool true))]) (by rw [hc5])
  let af:Nat × SV:=(9,.v (.bool null))
  refine B1 [2,3,4] [] [ae,ac,aa,ab,af] hW hE7 fun a8 hE9=>?_
  refine B5 (A4 ?_)
  refine D4 hE9 (b:=null) kz (fun ag=>?_) (fun ag=>?_)
  ·
   refine C0 [0,1] kz ?_
   refine B2 (L3 hW hE9 (e:=5) (size:=1) (len:=1) (cs:=[.int .u8 0]) (d:=14) kz kz fun ah bn bo ba bd bf av aw=>?_)
   have ax:(⟨some ⟨ah,0,none⟩,1,5,1,1,[.int .u8 0]⟩:Rw) = B4 (some ⟨ah,0,none⟩) 1 5 [I3 0]:=by first | rfl | (simp only [B4,bc,List.map,CX]; try rfl)
   obtain ⟨ai,bg⟩:=av.rowEq 0 [B4 (some ⟨ah,0,none⟩) 1 5 [I3 0]] ax
   have ay:=EnvOk.pick aw (ks:=[0,1,2,3,9,14]) (env':=[ae,ac,aa,ab,af,(14,.v (.slice (some ⟨ah,0,none⟩) 1 1))]) kz
   have az:=ay.cast (env':=[ae,ac,aa,ab,af,(14,.v (.slice (some ⟨ah,0,none⟩) ([I3 0].length) 1))]) rfl
   refine B1 [1] [] [(8,.v (.slice (some ⟨ah,0,none⟩) ([I3 0].length) 1))] ai az fun bp aA=>?_
   refine B5 (A4 ?_)
   refine wp_ret (F3 (D6 (C8 aA ai.cells (v:=.slice (some ⟨ah,0,none⟩) ([I3 0].length) 1) kz ?_)))
   exact M8 ai (k:=0) rfl (by simp [D9,hc5,ag]; try rfl)
  refine B7 [ac,aa,ab,(15,.v (.bool true))] hW hE9 fun bq ap=>?_
  refine I7 ap (b:=true) kz rfl ?_
  refine C0 [0,1,2,3,4] kz ?_
  refine B1 [0,1,2] [3,4] [(19,.v (.int .u64 (IntKind.u64.wrap ((IntKind.u64.wrap ((m:Nat):Int)) + 1))))] hW ap fun bt aB=>?_
  have aC:IntKind.u64.wrap ((IntKind.u64.wrap ((m:Nat):Int)) + 1) = ((m + 1:Nat):Int):=by simp only [G3,E3,N8,IntKind.wrap_i64,IntKind.wrap_i32]; omega
  have aD:=EnvOk.pick aB (ks:=[19]) (env':=[(19,.v (.int .u64 (IntKind.u64.wrap ((IntKind.u64.wrap ((m:Nat):Int)) + 1))))]) kz
  have aE:=aD
  rw [aC] at aE
  refine B2 (D3 aE (f:=44) (vs:=[.int .u64 ((m + 1:Nat):Int)]) (d:=20) kz Tryz.call44 (Cy (m + 1) (by omega) _) ?_)
  rintro e_ bu ⟨aF,aG,rfl,aH,aI⟩
  refine ⟨_,rfl,fun bw aJ=>?_⟩
  obtain ⟨aj,bh⟩:=hW.frFresh aI (B4 aF aG 5 (uv (m + 1))) (Nat.le_refl _) aH
  refine B1 [4] [] [(8,.v (.slice aF ((uv (m + 1)).length) aG))] aj aJ fun bx aK=>?_
  refine B5 (A4 ?_)
  refine wp_ret (F3 (D6 (C8 aK aj.cells (v:=.slice aF ((uv (m + 1)).length) aG) kz ?_)))
  exact M8 aj (k:=0) rfl (by simp [D9,hc5,ag]; try rfl)
 have aL:=hE4.cast (env':=[(0,.v (.bool false)),ac,aa,ab,(11,.v (.bool false))]) (by rw [hc5])
 refine B1 [2,3,4] [] [(0,.v (.bool false)),ac,aa,ab,(9,.v (.bool false))] hW aL fun bz ar=>?_
 refine B5 (A4 ?_)
 refine E6 ar (b:=false) kz rfl ?_
 refine B7 [ac,aa,ab,(15,.v (.bool false))] hW ar fun bA au=>?_
 refine E6 au (b:=false) kz rfl ?_
 refine B7 [aa,ab,(21,.v (.bool null))] hW au fun bB ak=>?_
 refine D4 ak (b:=null) kz (fun al=>?_) (fun al=>?_)
 ·
  refine C0 [0,1,2] kz ?_
  refine B1 [0] [1,2] [(23,.v (.int .i64 ((sz:Nat):Int)))] hW ak fun bC aM=>?_
  refine B2 (D3 aM (f:=45) (vs:=[.int .i64 (-1),.int .i64 ((sz:Nat):Int)]) (d:=24) kz Tryz.call45 (BJ (-1) sz (by first | decide | exact P7 _ | omega) _) ?_)
  rintro e_ bD ⟨aN,aO,rfl,aP,aQ⟩
  refine ⟨_,rfl,fun bE aR=>?_⟩
  obtain ⟨am,bj⟩:=hW.frFresh aQ (B4 aN aO 5 (be sz (-1))) (Nat.le_refl _) aP
  refine B1 [2] [] [(8,.v (.slice aN ((be sz (-1)).length) aO))] am aR fun bF aS=>?_
  refine B5 (A4 ?_)
  refine wp_ret (F3 (D6 (C8 aS am.cells (v:=.slice aN ((be sz (-1)).length) aO) kz ?_)))
  exact M8 am (k:=0) rfl (by simp [D9,hc5,al]; try rfl)
 refine wp_skip (F2 (A4 (C0 [0,1,2,3] kz ?_)))
 refine B1 [0,1] [2,3] [(25,.v (.int .i64 ((m:Nat):Int))),(26,.v (.int .i64 ((sz:Nat):Int)))] hW ak fun bG aT=>?_
 refine B2 (D3 aT (f:=45) (vs:=[.int .i64 ((m:Nat):Int),.int .i64 ((sz:Nat):Int)]) (d:=27) kz Tryz.call45 (BJ ((m:Nat):Int) sz (by first | decide | exact P7 _ | omega) _) ?_)
 rintro e_ bH ⟨aU,aV,rfl,aW,aX⟩
 refine ⟨_,rfl,fun bI aY=>?_⟩
 obtain ⟨ao,bk⟩:=hW.frFresh aX (B4 aU aV 5 (be sz ((m:Nat):Int))) (Nat.le_refl _) aW
 refine B1 [3] [] [(8,.v (.slice aU ((be sz ((m:Nat):Int)).length) aV))] ao aY fun bJ aZ=>?_
 refine B5 (A4 ?_)
 refine wp_ret (C8 aZ ao.cells (v:=.slice aU ((be sz ((m:Nat):Int)).length) aV) kz ?_)
 exact M8 ao (k:=0) rfl (by simp [D9,hc5,al]; try rfl)
abbrev z7 (x0) (x1) (x2) (x3) (x4) (x5) (x6) (x7):=([.int .i64 x0,.int .i64 x1,.int .i64 x2,.int .i64 x3,.int .i64 x4,.int .i64 x5,.int .i64 x6,x7]:List Value)
theorem Jh (A:Option Addr) (c:Nat) (l:List Fld) (w:World) (F:Nat → Nat → Prop) (hl:FldsR w F A c l) :
  Calls Tryz.prog 43 #[.slice A l.length c] w (L5 w (.int .u32 (D0 l))):=by
 obtain ⟨xfs,h1,h2⟩:=hl.ex
 have hsm:=h1.small
 refine enter (n:=23) Tryz.func43 rfl Tryz.ntmps43 kz fun a hE=>?_
 have hW:=WOk.start w C1
 refine B7 [(0,.v (.slice A l.length c))] hW hE fun a1 hE2=>?_
 refine B7 [(0,.v (.slice A l.length c)),(3,.v (.int .u32 0))] hW hE2 fun a3 hE4=>?_
 refine wp_seq ?_
 let aa:Nat × SV:=(6,.v (.slice A l.length c))
 let ab:Nat × SV:=(7,.v (.int .i64 ((l.length:Nat):Int)))
 refine B7 [(3,.v (.int .u32 0)),aa,ab,(8,.v (.int .i64 0))] hW hE4 fun a5 hE6=>?_
 refine wp_block (wp_loop_ghost (fun n_ a_ w_=>∃ (k:Nat),n_ = l.length - k ∧ k ≤ l.length ∧ F9 hW 23 [] [] [(3,.v (.int .u32 (D0 (l.take k)))),aa,ab,(8,.v (.int .i64 ((k:Nat):Int)))] a_ w_) (l.length) ⟨0,by omega,by omega,hE6.pk,hW,Fr.refl _ _ _⟩ ?_)
 rintro n7 a8 w9 ⟨k,bf,bg,aA,ae,aw⟩
 let ah:Nat × SV:=(8,.v (.int .i64 ((k:Nat):Int)))
 refine B7 [(3,.v (.int .u32 (D0 (l.take k)))),aa,ab,ah,(9,.v (.bool (decide (((k:Nat):Int) < ((l.length:Nat):Int)))))] ae aA fun bB al=>?_
 refine wp_seq (D4 al (b:=decide (((k:Nat):Int) < ((l.length:Nat):Int))) kz (fun am=>?_) (fun am=>?_))
 ·
  have bh:=of_decide_eq_true am
  refine wp_skip (A4 (wp_seq (wp_block (C0 [0,1,2,3] kz ?_))))
  obtain ⟨bj,bk,aB,bn,aj⟩:=Slots.get h1 (i:=k) (by omega)
  obtain ⟨bo,ao⟩:∃ x,l[k]? = some x:=⟨_,List.getElem?_eq_getElem (by omega)⟩
  have ax:=h2 k bo ao
  obtain ⟨aC,aD,aE,aF,af,aG,aH,bp,bq,bt,bu,rfl,ak,bw,bC⟩:=ax.open_
  rw [ak] at ax
  have bd:=bw.small
  rw [ak] at aj
  refine B2 (G6 al (t:=29) (A:=A) (m:=l.length) (q:=((k:Nat):Int)) (d:=10) kz (e:=51) (size:=8) (bytes:=80) kz aB rfl (by omega) fun bD aI=>?_)
  let ai:Value:=.slice bq bp.length bt
  refine B2 (K3 aI (t:=51) (b:=bj) (o:=bk + k * 8) (d:=11) kz (cs:=(z7 aC aD aE aF af aG aH ai)) (v:=.agg #[.int .i64 aC,.int .i64 aD,.int .i64 aE,.int .i64 aF,.int .i64 af,.int .i64 aG,.int .i64 aH,ai]) kz (AtF.move aj ae.step A7 E8).at_ fun bE aJ=>?_)
  let ac:Value:=.int .i64 0
  refine B2 (H4 ae aJ (d:=5) (cs:=[ac,ac,ac,ac,ac,ac,ac,.slice none 0 0]) kz fun bF bG bH bx bz ay aK aL=>?_)
  refine B2 (D5 aK aL (oi:=0) (cs:=(z7 aC aD aE aF af aG aH ai)) kz fun bI az ag aM=>?_)
  refine B5 (A4 ?_)
  refine B7 [(3,.v (.int .u32 (D0 (l.take k)))),(5,.p 0 0),aa,ab,ah,(14,.v (.bool (decide (af ≥ 0))))] ag aM fun bJ ap=>?_
  refine D4 ap (b:=decide (af ≥ 0)) kz (fun ar=>?_) (fun ar=>?_)
  ·
   have aN:=of_decide_eq_true ar
   refine D7 [0,1,2,3,4,5,6] kz ?_
   refine B1 [0,1,2,3,4,5,6] [] [(3,.v (.int .u32 (if IntKind.u32.wrap ((IntKind.u32.wrap af) + 1) > D0 (l.take k) then IntKind.u32.wrap ((IntKind.u32.wrap af) + 1) else D0 (l.take k)))),aa,ab,ah] ag ap fun bK aO=>?_
   refine B5 (F2 (A4 (D7 [0,1] kz ?_)))
   refine B1 [0,1] [] [(3,.v (.int .u32 (if IntKind.u32.wrap ((IntKind.u32.wrap af) + 1) > D0 (l.take k) then IntKind.u32.wrap ((IntKind.u32.wrap af) + 1) else D0 (l.take k)))),aa,ab,(8,.v (.int .i64 (IntKind.i64.wrap (((k:Nat):Int) + 1))))] ag aO fun bL aP=>?_
   refine B5 (A4 ?_)
   obtain ⟨au,aQ,aR⟩:=ag.cutB aP 0 [] [(3,.v (.int .u32 (if IntKind.u32.wrap ((IntKind.u32.wrap af) + 1) > D0 (l.take k) then IntKind.u32.wrap ((IntKind.u32.wrap af) + 1) else D0 (l.take k)))),aa,ab,(8,.v (.int .i64 (IntKind.i64.wrap (((k:Nat):Int) + 1))))]
   have aS:IntKind.i64.wrap (((k:Nat):Int) + 1) = ((k + 1:Nat):Int):=G8 (by omega)
   rw [aS] at au
   have aT:(if IntKind.u32.wrap ((IntKind.u32.wrap af) + 1) > D0 (l.take k) then IntKind.u32.wrap ((IntKind.u32.wrap af) + 1) else D0 (l.take k)) = D0 (l.take (k + 1)):=KT ao aN
   rw [aT] at au
   exact ⟨l.length - (k + 1),by omega,k + 1,rfl,by omega,au.pk,aQ,(((aw.trans ay).trans az).trans aR)⟩
  have aU:=of_decide_eq_false ar
  refine wp_skip (F2 (A4 (D7 [0,1] kz ?_)))
  refine B1 [0,1] [] [(3,.v (.int .u32 (D0 (l.take k)))),aa,ab,(8,.v (.int .i64 (IntKind.i64.wrap (((k:Nat):Int) + 1))))] ag ap fun bM aV=>?_
  refine B5 (A4 ?_)
  obtain ⟨av,aW,aX⟩:=ag.cutB aV 0 [] [(3,.v (.int .u32 (D0 (l.take k)))),aa,ab,(8,.v (.int .i64 (IntKind.i64.wrap (((k:Nat):Int) + 1))))]
  have aY:IntKind.i64.wrap (((k:Nat):Int) + 1) = ((k + 1:Nat):Int):=G8 (by omega)
  rw [aY] at av
  have aZ:D0 (l.take k) = D0 (l.take (k + 1)):=KU ao aU
  rw [aZ] at av
  exact ⟨l.length - (k + 1),by omega,k + 1,rfl,by omega,av.pk,aW,(((aw.trans ay).trans az).trans aX)⟩
 have bA:=of_decide_eq_false am
 refine wp_exit (E7 (E7 (G9 (A4 (B7 [(2,.v (.int .u32 (D0 (l.take k))))] ae al fun bN ba=>?_)))))
 refine wp_ret (C8 ba ae.cells (v:=.int .u32 (D0 (l.take k))) kz ?_)
 exact ⟨by rw [List.take_of_length_le (by omega)],ae.step⟩
def Gq (d:Nat):Prop:=∀ (A:Option Addr) (c:Nat) (l:List Fld) (v:Int) (flex:Bool) (ct:List Value) (t:Tree) (w:World) (F:Nat → Nat → Prop),FldsR w F A c l → depths l ≤ d → TreeR w F ct t → (E2 d l v flex t).length ≤ 1099511627776 →
  Calls Tryz.prog 22 #[.slice A l.length c,.int .i64 v,.bool flex,.agg ct.toArray] w (W3 w 5 (E2 d l v flex t))
theorem Gr {d:Nat} (hp:Gq d) (kind:Int) (A:Option Addr) (c:Nat) (l:List Fld) (null:Bool) (v:Int) (flex:Bool) (ct:List Value) (t:Tree) (w:World) (F:Nat → Nat → Prop) (hl:FldsR w F A c l) (hd:depths l ≤ d) (ht:TreeR w F ct t) (hroom:(F1 (E2 d l v flex) kind null flex t).length ≤ 1099511627776) :
  Calls Tryz.prog 81 #[.int .i64 kind,.slice A l.length c,.bool null,.int .i64 v,.bool flex,.agg ct.toArray] w (W3 w 5 (F1 (E2 d l v flex) kind null flex t)):=by
 obtain ⟨n1,s2,b3,l4,u5,A6,c7,A8,c9,ew,ey,ez,rfl,rfl,bt,eB,fU,fV⟩:=ht.open_
 have d7:=bt.small
 have d8:=eB.small
 have hl0:=hl
 obtain ⟨xfs,h1,h2⟩:=hl.ex
 have hsm:=h1.small
 refine enter (n:=70) Tryz.func81 rfl Tryz.ntmps81 kz fun a hE=>?_
 have hW:=WOk.start w C1
 refine C0 [0,1] kz ?_
 let au:Value:=.slice A6 s2.length c7
 let aJ:Value:=.slice A8 l4.length c9
 let aK:Value:=.slice ew u5.length ey
 refine B2 (K9 hW hE (d:=11) (cs:=[.int .i64 n1,au,.bool b3,aJ,aK]) kz fun fW fX fY eC eD eE aa dF=>?_)
 let ah:Nat × SV:=(0,.v (.int .i64 kind))
 let ai:Nat × SV:=(1,.v (.slice A l.length c))
 let ac:Nat × SV:=(2,.v (.bool null))
 let aj:Nat × SV:=(3,.v (.int .i64 v))
 let ab:Nat × SV:=(4,.v (.bool flex))
 let ae:Nat × SV:=(11,.p 0 0)
 refine B1 [1] [] [ah,ai,ac,aj,ab,ae] aa dF fun fZ dG=>?_
 refine B5 (A4 ?_)
 refine wp_seq ?_
 let av:Nat × SV:=(16,.v (.int .i64 kind))
 refine B7 [ah,ai,ac,aj,ab,ae,av] aa dG fun f5 dH=>?_
 refine wp_block (B7 [ah,ai,ac,aj,ab,ae,av,(17,.v (.bool (kind == 0)))] aa dH fun f7 bG=>?_)
 refine D4 bG (b:=kind == 0) kz (fun ag=>?_) (fun ag=>?_)
 ·
  have dI:kind = 0:=by simpa using ag
  refine C0 [0,1,2,3,4,5] kz ?_
  refine B1 [0,1,2,3] [4,5] [(22,.v (.int .u8 (IntKind.u8.wrap (IntKind.i64.wrap (BitVec.ofInt 64 n1 &&& BitVec.ofInt 64 1).toNat))))] aa bG fun f8 dJ=>?_
  refine B2 (L3 aa dJ (e:=5) (size:=1) (len:=1) (cs:=[.int .u8 (IntKind.u8.wrap (IntKind.i64.wrap (BitVec.ofInt 64 n1 &&& BitVec.ofInt 64 1).toNat))]) (d:=23) kz kz fun bH f9 ga eF eG eH dK dL=>?_)
  have dM:(⟨some ⟨bH,0,none⟩,1,5,1,1,[.int .u8 (IntKind.u8.wrap (IntKind.i64.wrap (BitVec.ofInt 64 n1 &&& BitVec.ofInt 64 1).toNat))]⟩:Rw) = B4 (some ⟨bH,0,none⟩) 1 5 [I3 (IntKind.i64.wrap (BitVec.ofInt 64 n1 &&& BitVec.ofInt 64 1).toNat)]:=by first | rfl | (simp only [B4,bc,List.map,CX]; try rfl)
  obtain ⟨bI,eI⟩:=dK.rowEq 0 [B4 (some ⟨bH,0,none⟩) 1 5 [I3 (IntKind.i64.wrap (BitVec.ofInt 64 n1 &&& BitVec.ofInt 64 1).toNat)]] dM
  have dN:=EnvOk.pick dL (ks:=[22,23]) (env':=[(22,.v (.int .u8 (IntKind.u8.wrap (IntKind.i64.wrap (BitVec.ofInt 64 n1 &&& BitVec.ofInt 64 1).toNat)))),(23,.v (.slice (some ⟨bH,0,none⟩) 1 1))]) kz
  have dO:=dN.cast (env':=[(22,.v (.int .u8 (IntKind.u8.wrap (IntKind.i64.wrap (BitVec.ofInt 64 n1 &&& BitVec.ofInt 64 1).toNat)))),(23,.v (.slice (some ⟨bH,0,none⟩) ([I3 (IntKind.i64.wrap (BitVec.ofInt 64 n1 &&& BitVec.ofInt 64 1).toNat)].length) 1))]) rfl
  refine B1 [5] [] [(12,.v (.slice (some ⟨bH,0,none⟩) ([I3 (IntKind.i64.wrap (BitVec.ofInt 64 n1 &&& BitVec.ofInt 64 1).toNat)].length) 1))] bI dO fun gb dP=>?_
  refine B5 (A4 ?_)
  refine wp_ret (F3 (D6 (C8 dP bI.cells (v:=.slice (some ⟨bH,0,none⟩) ([I3 (IntKind.i64.wrap (BitVec.ofInt 64 n1 &&& BitVec.ofInt 64 1).toNat)].length) 1) kz ?_)))
  exact M8 bI (k:=0) rfl (by (try simp only [H0]); simp [F1,Tree.S,Tree.N,dI,ag])
 have aw:kind ≠ 0:=by simpa using ag
 refine B7 [ah,ai,ac,aj,ab,ae,av,(24,.v (.bool (kind == 7)))] aa bG fun gc bJ=>?_
 refine D4 bJ (b:=kind == 7) kz (fun ak=>?_) (fun ak=>?_)
 ·
  have dQ:kind = 7:=by simpa using ak
  refine C0 [0,1] kz ?_
  refine B2 (BC aa bJ (d:=26) (j:=16) (t:=22) (e:=5) (bytes:=1) (z:=.int .u8 0) kz kz kz kz (rfl) (rfl) (by omega) fun bq gd ge eJ eK eL aL dR=>?_)
  let aM:Nat × SV:=(13,.v (.slice (some ⟨bq,0,none⟩) 16 16))
  refine B1 [1] [] [ae,aM] aL dR fun gg dS=>?_
  refine B5 (A4 ?_)
  refine C0 [0,1,2,3] kz ?_
  let bu:Nat × SV:=(27,.v (.slice (some ⟨bq,0,none⟩) 16 16))
  let aN:Nat × SV:=(29,.v (.slice A6 s2.length c7))
  refine B1 [0,1,2] [3] [aM,bu,aN] aL dS fun gh dT=>?_
  refine B2 (Cj aL dT (k:=0) (d:=30) (t:=22) (u:=22) (e:=5) (bytes:=1) (A:=(some ⟨bq,0,none⟩)) (As:=A6) (m:=s2.length) (cs:=c7) (m0:=16) (c:=16) (xs:=(List.replicate 16 (.int .u8 0))) (news:=bc s2) kz kz rfl (bt.move aL.step A7 aL.imm).src fun gi gj eM dU dV=>?_)
  have dW:(⟨(some ⟨bq,0,none⟩),16,5,1,16,H8 (List.replicate 16 (.int .u8 0)) 0 ((bc s2).take (min s2.length 16))⟩:Rw) = B4 (some ⟨bq,0,none⟩) 16 5 (G1 s2):=Ck _ _ _
  obtain ⟨bK,eN⟩:=dU.rowEq 0 [B4 (some ⟨bq,0,none⟩) 16 5 (G1 s2)] dW
  have dX:=EnvOk.pick dV (ks:=[13,27,29,30]) (env':=[aM,bu,aN,(30,.v (.int .i64 ((min s2.length 16:Nat):Int)))]) kz
  have dY:=dX.cast (env':=[(13,.v (.slice (some ⟨bq,0,none⟩) ((G1 s2).length) 16)),(27,.v (.slice (some ⟨bq,0,none⟩) ((G1 s2).length) 16)),aN,(30,.v (.int .i64 ((min s2.length 16:Nat):Int)))]) (by rw [P9 _])
  refine B5 (A4 ?_)
  refine B7 [(12,.v (.slice (some ⟨bq,0,none⟩) ((G1 s2).length) 16))] bK dY fun gk dZ=>?_
  refine wp_ret (F3 (D6 (C8 dZ bK.cells (v:=.slice (some ⟨bq,0,none⟩) ((G1 s2).length) 16) kz ?_)))
  exact M8 bK (k:=0) rfl (by (try simp only [H0]); simp [F1,Tree.S,Tree.N,aw,dQ,ag,ak])
 have ay:kind ≠ 7:=by simpa using ak
 refine B7 [ah,ai,ac,aj,ab,ae,av,(32,.v (.bool (kind == 8)))] aa bJ fun gl bL=>?_
 refine D4 bL (b:=kind == 8) kz (fun am=>?_) (fun am=>?_)
 ·
  have bQ:kind = 8:=by simpa using am
  refine C0 [0,1,2,3] kz ?_
  refine B1 [0,1] [2,3] [ac,ab,(35,.v (.slice A6 s2.length c7))] aa bL fun gm d4=>?_
  have d9:=J7 s2
  refine B2 (D3 d4 (f:=30) (vs:=[au]) (d:=36) kz Tryz.call30 (V2 _ _ s2 (bt.move aa.step A7 aa.imm).le _) ?_)
  rintro e_ gn ⟨rfl,bR⟩
  refine ⟨_,rfl,fun gp d5=>?_⟩
  have az:=aa.next_nil bR
  have eO:=aa.frN bR
  refine B1 [3] [] [ac,ab,(14,.v (.slice A6 ((C5 s2).length) c7))] az d5 fun gq bS=>?_
  refine B5 (A4 ?_)
  refine wp_seq (B7 [ac,ab,(14,.v (.slice A6 ((C5 s2).length) c7)),(37,.v (.bool null))] az bS fun eP aO=>?_)
  refine D4 aO (b:=null) kz (fun aP=>?_) (fun aP=>?_)
  ·
   refine D7 [0] kz ?_
   refine B1 [0] [] [ac,ab,(14,.v (.slice none 0 0))] az aO fun eQ bT=>?_
   refine B5 (A4 ?_)
   refine C0 [0,1,2,3,4,5,6,7] kz ?_
   refine B1 [0,1,2,3] [4,5,6,7] [(14,.v (.slice none 0 0)),(38,.v (.bool flex)),(39,.v (.bool null)),(41,.v (.int .i64 0))] az bT fun eR bU=>?_
   refine B2 (D3 bU (f:=80) (vs:=[.bool flex,.bool null,.int .i64 0,.int .i64 2]) (d:=42) kz Tryz.call80 (Cz flex null 0 2 (by first | omega | exact Nat.le_trans (J7 _) (by decide) | exact Nat.le_trans (BD _) (by decide) | (simp; done) | (have:=hroom; omega)) (by first | decide | omega) _) ?_)
   rintro e_ eS ⟨aQ,aR,rfl,bV,bW⟩
   refine ⟨_,rfl,fun eU bX=>?_⟩
   obtain ⟨bw,ea⟩:=az.frFresh bW (B4 aQ aR 5 (D9 flex null 0 2)) (Nat.le_refl _) bV
   let aS:Nat × SV:=(43,.v (.slice none 0 0))
   refine B1 [5] [6,7] [(42,.v (.slice aQ ((D9 flex null 0 2).length) aR)),aS] bw bX fun eV bY=>?_
   refine B2 (I4 bw bY (k:=0) (d:=44) (t:=22) (e:=5) (size:=1) (bytes:=1) (A:=aQ) (As:=none) (m0:=((D9 flex null 0 2).length)) (c:=aR) (m:=0) (cs:=0) (xs:=(bc (D9 flex null 0 2))) (news:=bc ([]:Bs)) kz kz rfl (Octs.nil _ (fun _ _=>True)).src (fun _=>rfl) (by first | exact Bd (by omega) (by decide) (by omega) | exact Bd (Nat.le_trans (J7 _) (by decide)) (by decide) (Nat.le_trans (J7 _) (by decide)) | (simp; done)) fun aA aB eW eX eb bZ b8=>?_)
   have cd:(⟨aA,aB,5,1,(D9 flex null 0 2).length + 0,bc (D9 flex null 0 2) ++ bc ([]:Bs)⟩:Rw) = B4 aA aB 5 (D9 flex null 0 2 ++ ([]:Bs)):=O8 (rfl) rfl
   obtain ⟨aT,ec⟩:=bZ.rowEq 0 [B4 aA aB 5 (D9 flex null 0 2 ++ ([]:Bs))] cd
   have ce:=EnvOk.pick b8 (ks:=[42,43,44]) (env':=[(42,.v (.slice aQ ((D9 flex null 0 2).length) aR)),aS,(44,.v (.slice aA ((D9 flex null 0 2).length + 0) aB))]) kz
   have cm:=ce.cast (env':=[(42,.v (.slice aQ ((D9 flex null 0 2).length) aR)),aS,(44,.v (.slice aA ((D9 flex null 0 2 ++ ([]:Bs)).length) aB))]) (by simp only [List.length_append,List.length_cons,List.length_nil,Nat.zero_add])
   refine B1 [7] [] [(12,.v (.slice aA ((D9 flex null 0 2 ++ ([]:Bs)).length) aB))] aT cm fun eY cq=>?_
   refine B5 (A4 ?_)
   refine wp_ret (F3 (D6 (C8 cq aT.cells (v:=.slice aA ((D9 flex null 0 2 ++ ([]:Bs)).length) aB) kz ?_)))
   exact M8 aT (k:=0) rfl (by (try simp only [H0]); simp [F1,Tree.S,Tree.N,aw,ay,bQ,ag,ak,am,aP])
  refine wp_skip (A4 (C0 [0,1,2,3,4,5,6,7] kz ?_))
  refine B1 [0,1,2,3] [4,5,6,7] [(14,.v (.slice A6 ((C5 s2).length) c7)),(38,.v (.bool flex)),(39,.v (.bool null)),(41,.v (.int .i64 (((C5 s2).length:Nat):Int)))] az aO fun eZ cr=>?_
  refine B2 (D3 cr (f:=80) (vs:=[.bool flex,.bool null,.int .i64 (((C5 s2).length:Nat):Int),.int .i64 2]) (d:=42) kz Tryz.call80 (Cz flex null ((C5 s2).length) 2 (by first | omega | exact Nat.le_trans (J7 _) (by decide) | exact Nat.le_trans (BD _) (by decide) | (simp; done) | (have:=hroom; omega)) (by first | decide | omega) _) ?_)
  rintro e_ e9 ⟨aU,aV,rfl,cu,cw⟩
  refine ⟨_,rfl,fun fb cz=>?_⟩
  obtain ⟨ao,ee⟩:=az.frFresh cw (B4 aU aV 5 (D9 flex null ((C5 s2).length) 2)) (Nat.le_refl _) cu
  refine B1 [5] [6,7] [(42,.v (.slice aU ((D9 flex null ((C5 s2).length) 2).length) aV)),(43,.v (.slice A6 ((C5 s2).length) c7))] ao cz fun fe cA=>?_
  refine B2 (I4 ao cA (k:=0) (d:=44) (t:=22) (e:=5) (size:=1) (bytes:=1) (A:=aU) (As:=A6) (m0:=((D9 flex null ((C5 s2).length) 2).length)) (c:=aV) (m:=((C5 s2).length)) (cs:=c7) (xs:=(bc (D9 flex null ((C5 s2).length) 2))) (news:=bc (C5 s2)) kz kz rfl ((bt.take 32767).move ao.step A7 ao.imm).src ((bt.take 32767).move ao.step A7 ao.imm).cap (by first | exact Bd (by omega) (by decide) (by omega) | exact Bd (Nat.le_trans (J7 _) (by decide)) (by decide) (Nat.le_trans (J7 _) (by decide)) | (simp; done)) fun aC aD ff fg ef cB cC=>?_)
  have cD:(⟨aC,aD,5,1,(D9 flex null ((C5 s2).length) 2).length + (C5 s2).length,bc (D9 flex null ((C5 s2).length) 2) ++ bc (C5 s2)⟩:Rw) = B4 aC aD 5 (D9 flex null ((C5 s2).length) 2 ++ (C5 s2)):=O8 (rfl) rfl
  obtain ⟨aW,eg⟩:=cB.rowEq 0 [B4 aC aD 5 (D9 flex null ((C5 s2).length) 2 ++ (C5 s2))] cD
  have cE:=EnvOk.pick cC (ks:=[42,43,44]) (env':=[(42,.v (.slice aU ((D9 flex null ((C5 s2).length) 2).length) aV)),(43,.v (.slice A6 ((C5 s2).length) c7)),(44,.v (.slice aC ((D9 flex null ((C5 s2).length) 2).length + (C5 s2).length) aD))]) kz
  have cG:=cE.cast (env':=[(42,.v (.slice aU ((D9 flex null ((C5 s2).length) 2).length) aV)),(43,.v (.slice A6 ((C5 s2).length) c7)),(44,.v (.slice aC ((D9 flex null ((C5 s2).length) 2 ++ (C5 s2)).length) aD))]) (by simp only [List.length_append,List.length_cons,List.length_nil,Nat.zero_add])
  refine B1 [7] [] [(12,.v (.slice aC ((D9 flex null ((C5 s2).length) 2 ++ (C5 s2)).length) aD))] aW cG fun fh cH=>?_
  refine B5 (A4 ?_)
  refine wp_ret (F3 (D6 (C8 cH aW.cells (v:=.slice aC ((D9 flex null ((C5 s2).length) 2 ++ (C5 s2)).length) aD) kz ?_)))
  exact M8 aW (k:=0) rfl (by (try simp only [H0]); simp [F1,Tree.S,Tree.N,aw,ay,bQ,ag,ak,am,aP])
 have ax:kind ≠ 8:=by simpa using am
 refine B7 [ah,ai,ac,aj,ab,ae,av,(45,.v (.bool (kind == 9)))] aa bL fun fi aX=>?_
 refine D4 aX (b:=kind == 9) kz (fun af=>?_) (fun af=>?_)
 ·
  have bx:kind = 9:=by simpa using af
  refine C0 [0,1,2,3] kz ?_
  refine B1 [0,1] [2,3] [ac,ab,(48,.v (.slice A6 s2.length c7))] aa aX fun fj cI=>?_
  have d6:=J7 s2
  refine B2 (D3 cI (f:=30) (vs:=[au]) (d:=49) kz Tryz.call30 (V2 _ _ s2 (bt.move aa.step A7 aa.imm).le _) ?_)
  rintro e_ fk ⟨rfl,bz⟩
  refine ⟨_,rfl,fun fm cJ=>?_⟩
  have al:=aa.next_nil bz
  have eh:=aa.frN bz
  refine B1 [3] [] [ac,ab,(15,.v (.slice A6 ((C5 s2).length) c7))] al cJ fun fo cK=>?_
  refine B5 (A4 ?_)
  refine wp_seq (B7 [ac,ab,(15,.v (.slice A6 ((C5 s2).length) c7)),(50,.v (.bool null))] al cK fun fq aY=>?_)
  refine D4 aY (b:=null) kz (fun aZ=>?_) (fun aZ=>?_)
  ·
   refine D7 [0] kz ?_
   refine B1 [0] [] [ac,ab,(15,.v (.slice none 0 0))] al aY fun fr cL=>?_
   refine B5 (A4 ?_)
   refine C0 [0,1,2,3,4,5,6,7] kz ?_
   refine B1 [0,1,2,3] [4,5,6,7] [(15,.v (.slice none 0 0)),(51,.v (.bool flex)),(52,.v (.bool null)),(54,.v (.int .i64 0))] al cL fun ft cM=>?_
   refine B2 (D3 cM (f:=80) (vs:=[.bool flex,.bool null,.int .i64 0,.int .i64 4]) (d:=55) kz Tryz.call80 (Cz flex null 0 4 (by first | omega | exact Nat.le_trans (J7 _) (by decide) | exact Nat.le_trans (BD _) (by decide) | (simp; done) | (have:=hroom; omega)) (by first | decide | omega) _) ?_)
   rintro e_ fv ⟨ba,bd,rfl,cN,cO⟩
   refine ⟨_,rfl,fun fw cP=>?_⟩
   obtain ⟨bA,ei⟩:=al.frFresh cO (B4 ba bd 5 (D9 flex null 0 4)) (Nat.le_refl _) cN
   let bf:Nat × SV:=(56,.v (.slice none 0 0))
   refine B1 [5] [6,7] [(55,.v (.slice ba ((D9 flex null 0 4).length) bd)),bf] bA cP fun fx cQ=>?_
   refine B2 (I4 bA cQ (k:=0) (d:=57) (t:=22) (e:=5) (size:=1) (bytes:=1) (A:=ba) (As:=none) (m0:=((D9 flex null 0 4).length)) (c:=bd) (m:=0) (cs:=0) (xs:=(bc (D9 flex null 0 4))) (news:=bc ([]:Bs)) kz kz rfl (Octs.nil _ (fun _ _=>True)).src (fun _=>rfl) (by first | exact Bd (by omega) (by decide) (by omega) | exact Bd (Nat.le_trans (J7 _) (by decide)) (by decide) (Nat.le_trans (J7 _) (by decide)) | (simp; done)) fun aE aF fy fz ej cR cS=>?_)
   have cT:(⟨aE,aF,5,1,(D9 flex null 0 4).length + 0,bc (D9 flex null 0 4) ++ bc ([]:Bs)⟩:Rw) = B4 aE aF 5 (D9 flex null 0 4 ++ ([]:Bs)):=O8 (rfl) rfl
   obtain ⟨bg,ek⟩:=cR.rowEq 0 [B4 aE aF 5 (D9 flex null 0 4 ++ ([]:Bs))] cT
   have cU:=EnvOk.pick cS (ks:=[55,56,57]) (env':=[(55,.v (.slice ba ((D9 flex null 0 4).length) bd)),bf,(57,.v (.slice aE ((D9 flex null 0 4).length + 0) aF))]) kz
   have cV:=cU.cast (env':=[(55,.v (.slice ba ((D9 flex null 0 4).length) bd)),bf,(57,.v (.slice aE ((D9 flex null 0 4 ++ ([]:Bs)).length) aF))]) (by simp only [List.length_append,List.length_cons,List.length_nil,Nat.zero_add])
   refine B1 [7] [] [(12,.v (.slice aE ((D9 flex null 0 4 ++ ([]:Bs)).length) aF))] bg cV fun fA cW=>?_
   refine B5 (A4 ?_)
   refine wp_ret (F3 (D6 (C8 cW bg.cells (v:=.slice aE ((D9 flex null 0 4 ++ ([]:Bs)).length) aF) kz ?_)))
   exact M8 bg (k:=0) rfl (by (try simp only [H0]); simp [F1,Tree.S,Tree.N,aw,ay,ax,bx,ag,ak,am,af,aZ])
  refine wp_skip (A4 (C0 [0,1,2,3,4,5,6,7] kz ?_))
  refine B1 [0,1,2,3] [4,5,6,7] [(15,.v (.slice A6 ((C5 s2).length) c7)),(51,.v (.bool flex)),(52,.v (.bool null)),(54,.v (.int .i64 (((C5 s2).length:Nat):Int)))] al aY fun fB cX=>?_
  refine B2 (D3 cX (f:=80) (vs:=[.bool flex,.bool null,.int .i64 (((C5 s2).length:Nat):Int),.int .i64 4]) (d:=55) kz Tryz.call80 (Cz flex null ((C5 s2).length) 4 (by first | omega | exact Nat.le_trans (J7 _) (by decide) | exact Nat.le_trans (BD _) (by decide) | (simp; done) | (have:=hroom; omega)) (by first | decide | omega) _) ?_)
  rintro e_ fC ⟨bh,bj,rfl,cY,cZ⟩
  refine ⟨_,rfl,fun fD da=>?_⟩
  obtain ⟨ap,em⟩:=al.frFresh cZ (B4 bh bj 5 (D9 flex null ((C5 s2).length) 4)) (Nat.le_refl _) cY
  refine B1 [5] [6,7] [(55,.v (.slice bh ((D9 flex null ((C5 s2).length) 4).length) bj)),(56,.v (.slice A6 ((C5 s2).length) c7))] ap da fun fE db=>?_
  refine B2 (I4 ap db (k:=0) (d:=57) (t:=22) (e:=5) (size:=1) (bytes:=1) (A:=bh) (As:=A6) (m0:=((D9 flex null ((C5 s2).length) 4).length)) (c:=bj) (m:=((C5 s2).length)) (cs:=c7) (xs:=(bc (D9 flex null ((C5 s2).length) 4))) (news:=bc (C5 s2)) kz kz rfl ((bt.take 32767).move ap.step A7 ap.imm).src ((bt.take 32767).move ap.step A7 ap.imm).cap (by first | exact Bd (by omega) (by decide) (by omega) | exact Bd (Nat.le_trans (J7 _) (by decide)) (by decide) (Nat.le_trans (J7 _) (by decide)) | (simp; done)) fun aG aH fF fG eo dc de=>?_)
  have df:(⟨aG,aH,5,1,(D9 flex null ((C5 s2).length) 4).length + (C5 s2).length,bc (D9 flex null ((C5 s2).length) 4) ++ bc (C5 s2)⟩:Rw) = B4 aG aH 5 (D9 flex null ((C5 s2).length) 4 ++ (C5 s2)):=O8 (rfl) rfl
  obtain ⟨bk,ep⟩:=dc.rowEq 0 [B4 aG aH 5 (D9 flex null ((C5 s2).length) 4 ++ (C5 s2))] df
  have dg:=EnvOk.pick de (ks:=[55,56,57]) (env':=[(55,.v (.slice bh ((D9 flex null ((C5 s2).length) 4).length) bj)),(56,.v (.slice A6 ((C5 s2).length) c7)),(57,.v (.slice aG ((D9 flex null ((C5 s2).length) 4).length + (C5 s2).length) aH))]) kz
  have dh:=dg.cast (env':=[(55,.v (.slice bh ((D9 flex null ((C5 s2).length) 4).length) bj)),(56,.v (.slice A6 ((C5 s2).length) c7)),(57,.v (.slice aG ((D9 flex null ((C5 s2).length) 4 ++ (C5 s2)).length) aH))]) (by simp only [List.length_append,List.length_cons,List.length_nil,Nat.zero_add])
  refine B1 [7] [] [(12,.v (.slice aG ((D9 flex null ((C5 s2).length) 4 ++ (C5 s2)).length) aH))] bk dh fun fH di=>?_
  refine B5 (A4 ?_)
  refine wp_ret (F3 (D6 (C8 di bk.cells (v:=.slice aG ((D9 flex null ((C5 s2).length) 4 ++ (C5 s2)).length) aH) kz ?_)))
  exact M8 bk (k:=0) rfl (by (try simp only [H0]); simp [F1,Tree.S,Tree.N,aw,ay,ax,bx,ag,ak,am,af,aZ])
 have bn:kind ≠ 9:=by simpa using af
 refine B7 [ah,ai,aj,ab,ae,(58,.v (.bool (kind == 10)))] aa aX fun fI bo=>?_
 refine D4 bo (b:=kind == 10) kz (fun ar=>?_) (fun ar=>?_)
 ·
  have bB:kind = 10:=by simpa using ar
  refine C0 [0,1,2,3,4,5] kz ?_
  refine B1 [0,1,2,3] [4,5] [(60,.v (.slice A l.length c)),(61,.v (.int .i64 v)),(62,.v (.bool flex)),(63,.v (.agg #[.int .i64 n1,au,.bool b3,aJ,aK]))] aa bo fun fJ dj=>?_
  refine B2 (D3 dj (f:=22) (vs:=[.slice A l.length c,.int .i64 v,.bool flex,.agg #[.int .i64 n1,au,.bool b3,aJ,aK]]) (d:=64) kz Tryz.call22 (hp _ _ l v flex _ (Tree.mk n1 s2 b3 l4 u5) _ _ ⟨xfs,(h1.move aa.step A7 aa.imm),(fun i_ x_ h_=>((h2 i_ x_ h_).move aa.step A7 aa.imm))⟩ hd (ht.move aa.step A7 aa.imm) (by simpa [F1,aw,ay,ax,bn,bB,ag,ak,am,af,ar] using hroom)) ?_)
  rintro e_ fK ⟨bM,bN,rfl,dl,dp⟩
  refine ⟨_,rfl,fun fL dq=>?_⟩
  obtain ⟨bp,eu⟩:=aa.frFresh dp (B4 bM bN 5 (E2 d l v flex (Tree.mk n1 s2 b3 l4 u5))) (Nat.le_refl _) dl
  refine B1 [5] [] [(12,.v (.slice bM ((E2 d l v flex (Tree.mk n1 s2 b3 l4 u5)).length) bN))] bp dq fun fM dr=>?_
  refine B5 (A4 ?_)
  refine wp_ret (F3 (D6 (C8 dr bp.cells (v:=.slice bM ((E2 d l v flex (Tree.mk n1 s2 b3 l4 u5)).length) bN) kz ?_)))
  exact M8 bp (k:=0) rfl (by (try simp only [H0]); simp [F1,Tree.S,Tree.N,aw,ay,ax,bn,bB,ag,ak,am,af,ar])
 have dt:kind ≠ 10:=by simpa using ar
 refine wp_skip (F2 (A4 (G0 5 kz aa fun fN ev bC du=>?_)))
 refine C7 [0,1,2] [(66,.v (.int .i64 n1)),(67,.v (.int .i64 kind))] 3 (A5 B8) (fun _ h=>h.cells) du bo fun fO dv=>?_
 refine C2 (i:=3) kz (D3 dv (f:=46) (vs:=[.int .i64 kind]) (d:=68) kz Tryz.call46 (Gp kind _) ?_)
 rintro e_ fP ⟨rfl,bD⟩
 refine ⟨_,rfl,fun fQ dw=>?_⟩
 have bE:=bC.next_nil bD
 have bF:=bC.frN bD
 have dx:=TT.ofW bF bE
 refine ⟨fun _=>dx,?_⟩
 refine C2 (i:=4) kz (D3 dw (f:=45) (vs:=[.int .i64 n1,.int .i64 ((I5 kind:Nat):Int)]) (d:=69) kz Tryz.call45 (BJ n1 (I5 kind) (by first | decide | exact P7 _ | omega) _) ?_)
 rintro e_ fR ⟨bO,bP,rfl,dy,dA⟩
 refine ⟨_,rfl,fun fS dB=>?_⟩
 obtain ⟨aI,dC⟩:=bE.frFresh dA (B4 bO bP 5 (be (I5 kind) n1)) (Nat.le_refl _) dy
 have dD:=TT.ofW (bF.trans dC) aI
 refine ⟨fun _=>dD,?_⟩
 refine C2 (i:=5) kz (L4 [12] aI.cells dB (env':=[(12,.v (.slice bO ((be (I5 kind) n1).length) bP))]) kz fun fT dE=>?_)
 refine ⟨fun h=>absurd rfl h,?_⟩
 refine E5 kz ?_ _
 refine A4 (wp_ret (C8 dE aI.cells (v:=.slice bO ((be (I5 kind) n1).length) bP) kz ?_))
 exact M8 aI (k:=0) rfl (by (try simp only [H0]); simp [F1,Tree.S,Tree.N,aw,ay,ax,bn,dt,ag,ak,am,af,ar])
theorem Mh {d:Nat} (hp:Gq d) (cf:List Value) (f:Fld) (v:Int) (flex:Bool) (ct:List Value) (t:Tree) (w:World) (F:Nat → Nat → Prop) (hf:FldR w F cf f) (hd:depths f.sub ≤ d) (ht:TreeR w F ct t) (hroom:(Q5 d f v flex t).length ≤ 1099511627776) :
  Calls Tryz.prog 42 #[.agg cf.toArray,.int .i64 v,.bool flex,.agg ct.toArray] w (W3 w 5 (Q5 d f v flex t)):=by
 obtain ⟨n1,s2,b3,l4,u5,A6,c7,A8,c9,eS,eU,f5,rfl,rfl,f7,eV,f8,ir⟩:=ht.open_
 have fz:=f7.small
 have fA:=eV.small
 obtain ⟨ag,ai,aj,ah,ak,al,ab,aa,eP,eQ,bY,rfl,rfl,cY,eR⟩:=hf.open_
 have fB:=cY.small
 refine enter (n:=76) Tryz.func42 rfl Tryz.ntmps42 kz fun a hE=>?_
 have hW:=WOk.start w C1
 refine C0 [0,1,2] kz ?_
 let aI:Value:=.int .i64 ag
 let aT:Value:=.int .i64 ai
 let aU:Value:=.int .i64 aj
 let aV:Value:=.int .i64 ah
 let aW:Value:=.int .i64 ak
 let aX:Value:=.int .i64 al
 let aN:Value:=.int .i64 ab
 let aD:Value:=.slice eP aa.length eQ
 refine B2 (K9 hW hE (d:=4) (cs:=[aI,aT,aU,aV,aW,aX,aN,aD]) kz fun f9 iu iv ga gb gc eW eX=>?_)
 let az:Value:=.int .i64 n1
 let aA:Value:=.slice A6 s2.length c7
 let aB:Value:=.bool b3
 let ax:Value:=.slice A8 l4.length c9
 let aC:Value:=.slice eS u5.length eU
 refine B2 (K9 eW eX (d:=7) (cs:=[az,aA,aB,ax,aC]) kz fun gd iw ix ge gg gh bZ eY=>?_)
 let ac:Nat × SV:=(1,.v (.int .i64 v))
 let ae:Nat × SV:=(2,.v (.bool flex))
 let af:Nat × SV:=(4,.p 0 0)
 let ay:Nat × SV:=(7,.p 1 0)
 refine B1 [2] [] [ac,ae,af,ay] bZ eY fun iy eZ=>?_
 refine B5 (A4 ?_)
 refine C0 [0,1,2,3,4] kz ?_
 let fC:Value:=(.agg #[.int .i64 n1,.slice A6 s2.length c7,.bool b3,.slice A8 l4.length c9,.slice eS u5.length eU])
 refine B1 [0,1,2] [3,4] [ac,ae,af,ay,(13,.v (.agg #[aI,aT,aU,aV,aW,aX,aN,aD])),(14,.v (.int .i64 v)),(15,.v (.agg #[az,aA,aB,ax,aC]))] bZ eZ fun iz e9=>?_
 let aO:Value:=.int .i64 v
 let fD:Value:=.agg #[.int .i64 n1,.slice A6 s2.length c7,.bool b3,.slice A8 l4.length c9,.slice eS u5.length eU]
 refine B2 (D3 e9 (f:=47) (vs:=[.agg #[aI,aT,aU,aV,aW,aX,aN,aD],aO,.agg #[az,aA,aB,ax,aC]]) (d:=16) kz Tryz.call47 (Gn ag ai aj ah ak al ab aa _ _ v n1 s2 b3 l4 u5 _ _ _ _ _ _ _) ?_)
 rintro e_ iA ⟨rfl,cZ⟩
 refine ⟨_,rfl,fun iB fb=>?_⟩
 have am:=bZ.next_nil cZ
 have gi:=bZ.frN cZ
 let aw:Nat × SV:=(9,.v (.bool (z2 ag ai aj ah ak al ab aa v n1 s2 b3 l4 u5)))
 refine B1 [4] [] [ac,ae,af,ay,aw] am fb fun iC fe=>?_
 refine B5 (A4 ?_)
 refine wp_seq (B7 [ac,ae,af,ay,aw,(19,.v (.bool (ag == 11)))] am fe fun iD cK=>?_)
 let aJ:Value:=.bool flex
 let aY:Value:=.bool (z2 ag ai aj ah ak al ab aa v n1 s2 b3 l4 u5)
 refine D4 cK (b:=ag == 11) kz (fun cL=>?_) (fun cL=>?_)
 ·
  have gj:ag = 11:=by simpa using cL
  refine C0 [0,1,2,3] kz ?_
  refine B1 [0,1] [2,3] [ac,ae,af,aw,(21,.v (.slice A8 l4.length c9))] am cK fun iE ff=>?_
  refine B2 (D3 ff (f:=48) (vs:=[ax]) (d:=22) kz Tryz.call48 (EA _ _ l4 (eV.move am.step A7 am.imm).le _) ?_)
  rintro e_ iF ⟨rfl,da⟩
  refine ⟨_,rfl,fun iG fg=>?_⟩
  have aQ:=am.next_nil da
  have gk:=am.frN da
  refine B1 [3] [] [ac,ae,af,aw,(10,.v (.slice A8 ((B9 l4).length) c9))] aQ fg fun iH fh=>?_
  refine B5 (A4 ?_)
  refine wp_seq (B7 [ac,ae,af,aw,(10,.v (.slice A8 ((B9 l4).length) c9)),(23,.v (.bool (z2 ag ai aj ah ak al ab aa v n1 s2 b3 l4 u5)))] aQ fh fun iI cM=>?_)
  let b8:Ob:=⟨f9,0,[aI,aT,aU,aV,aW,aX,aN,aD],true⟩
  let cd:Ob:=⟨gd,0,[az,aA,aB,ax,aC],true⟩
  let ce:Nat × SV:=(25,.v (.bool (z2 ag ai aj ah ak al ab aa v n1 s2 b3 l4 u5)))
  refine D4 cM (b:=Fld.nul (Fld.mk ag ai aj ah ak al ab aa) v (Tree.mk n1 s2 b3 l4 u5)) kz (fun fi=>?_) (fun fi=>?_)
  ·
   refine D7 [0] kz ?_
   let aK:Nat × SV:=(10,.v (.slice none 0 0))
   refine B1 [0] [] [ac,ae,af,aw,aK] aQ cM fun iJ fj=>?_
   refine B5 (A4 ?_)
   refine C0 [0,1,2,3,4,5] kz ?_
   refine B1 [0,1,2,3] [4,5] [ac,ae,af,aK,(24,.v (.bool flex)),ce,(27,.v (.int .i64 0))] aQ fj fun iK fk=>?_
   refine B2 (D3 fk (f:=80) (vs:=[aJ,aY,.int .i64 0,.int .i64 4]) (d:=28) kz Tryz.call80 (Cz flex (Fld.nul (Fld.mk ag ai aj ah ak al ab aa) v (Tree.mk n1 s2 b3 l4 u5)) 0 4 (by first | omega | exact Nat.le_trans (J7 _) (by decide) | exact Nat.le_trans (BD _) (by decide) | (simp; done) | (have:=hroom; omega)) (by first | decide | omega) _) ?_)
   rintro e_ iL ⟨cW,cX,rfl,fm,fo⟩
   refine ⟨_,rfl,fun iM fq=>?_⟩
   obtain ⟨cN,gl⟩:=aQ.frFresh fo (B4 cW cX 5 (D9 flex (z2 ag ai aj ah ak al ab aa v n1 s2 b3 l4 u5) 0 4)) (Nat.le_refl _) fm
   refine B1 [5] [] [ac,ae,af,aK,(11,.v (.slice cW ((D9 flex (z2 ag ai aj ah ak al ab aa v n1 s2 b3 l4 u5) 0 4).length) cX))] cN fq fun iN fr=>?_
   refine B5 (A4 ?_)
   refine wp_seq ?_
   let bt:Nat × SV:=(30,.v (.int .i64 0))
   refine B7 [ac,ae,af,aK,(11,.v (.slice cW ((D9 flex (z2 ag ai aj ah ak al ab aa v n1 s2 b3 l4 u5) 0 4).length) cX)),bt,(31,.v (.int .i64 0))] cN fr fun iO db=>?_
   refine wp_block ?_
   have hr2:(D9 flex (Fld.nul (Fld.mk ag ai aj ah ak al ab aa) v (Tree.mk n1 s2 b3 l4 u5)) 0 4 ++ ([]:List Tree).flatMap (F1 (E2 d aa v flex) ab false flex)).length ≤ 1099511627776:=by have h_:=hroom; rw [HI ‹_› ‹_›] at h_; exact h_
   rw [List.length_append] at hr2
   have hr3:=FL ([]:List Tree) (F1 (E2 d aa v flex) ab false flex)
   have dc:(D9 flex (Fld.nul (Fld.mk ag ai aj ah ak al ab aa) v (Tree.mk n1 s2 b3 l4 u5)) 0 4) = (D9 flex (Fld.nul (Fld.mk ag ai aj ah ak al ab aa) v (Tree.mk n1 s2 b3 l4 u5)) 0 4 ++ (([]:List Tree).take 0).flatMap (F1 (E2 d aa v flex) ab false flex)):=by simp
   have de:=congrArg (B4 cW cX 5) dc
   obtain ⟨cm,fE⟩:=cN.rowEq 0 [B4 cW cX 5 (D9 flex (z2 ag ai aj ah ak al ab aa v n1 s2 b3 l4 u5) 0 4 ++ (([]:List Tree).take 0).flatMap (F1 (E2 d aa v flex) ab false flex))] de
   rw [dc] at db
   refine wp_loop_ghost (fun n_ a_ w_=>∃ (k:Nat) (A_:Option Addr) (c_:Nat),n_ = 0 - k ∧ k ≤ 0 ∧ F9 cm 76 [b8,cd] [B4 A_ c_ 5 (D9 flex (Fld.nul (Fld.mk ag ai aj ah ak al ab aa) v (Tree.mk n1 s2 b3 l4 u5)) 0 4 ++ (([]:List Tree).take k).flatMap (F1 (E2 d aa v flex) ab false flex))] [ac,ae,af,aK,(11,.v (.slice A_ ((D9 flex (Fld.nul (Fld.mk ag ai aj ah ak al ab aa) v (Tree.mk n1 s2 b3 l4 u5)) 0 4 ++ (([]:List Tree).take k).flatMap (F1 (E2 d aa v flex) ab false flex)).length) c_)),bt,(31,.v (.int .i64 ((k:Nat):Int)))] a_ w_) (0) ⟨0,cW,cX,by omega,by omega,db.pk,cm,Fr.refl _ _ _⟩ ?_
   rintro gm gn gp ⟨k,A_,c_,fF,fG,df,aZ,fH⟩
   refine B7 [ac,ae,af,aK,(11,.v (.slice A_ ((D9 flex (z2 ag ai aj ah ak al ab aa v n1 s2 b3 l4 u5) 0 4 ++ (([]:List Tree).take k).flatMap (F1 (E2 d aa v flex) ab false flex)).length) c_)),bt,(31,.v (.int .i64 ((k:Nat):Int))),(32,.v (.bool (decide (((k:Nat):Int) < 0))))] aZ df fun gq cq=>?_
   refine wp_seq (E6 cq (b:=decide (((k:Nat):Int) < 0)) kz (decide_eq_false (by omega)) ?_)
   refine wp_exit (E7 (E7 (G9 (A4 (B7 [(8,.v (.slice A_ ((D9 flex (z2 ag ai aj ah ak al ab aa v n1 s2 b3 l4 u5) 0 4 ++ (([]:List Tree).take k).flatMap (F1 (E2 d aa v flex) ab false flex)).length) c_))] aZ cq fun gt dg=>?_)))))
   refine wp_ret (D6 (C8 dg aZ.cells (v:=.slice A_ ((D9 flex (z2 ag ai aj ah ak al ab aa v n1 s2 b3 l4 u5) 0 4 ++ (([]:List Tree).take k).flatMap (F1 (E2 d aa v flex) ab false flex)).length) c_) kz ?_))
   exact M8 aZ (k:=0) rfl (by rw [HI ‹_› ‹_›]; simp)
  refine wp_skip (A4 (C0 [0,1,2,3,4,5] kz ?_))
  refine B1 [0,1,2,3] [4,5] [ac,ae,af,(10,.v (.slice A8 ((B9 l4).length) c9)),(24,.v (.bool flex)),ce,(27,.v (.int .i64 (((B9 l4).length:Nat):Int)))] aQ cM fun gv dh=>?_
  refine B2 (D3 dh (f:=80) (vs:=[aJ,aY,.int .i64 (((B9 l4).length:Nat):Int),.int .i64 4]) (d:=28) kz Tryz.call80 (Cz flex (Fld.nul (Fld.mk ag ai aj ah ak al ab aa) v (Tree.mk n1 s2 b3 l4 u5)) ((B9 l4).length) 4 (by first | omega | exact Nat.le_trans (J7 _) (by decide) | exact Nat.le_trans (BD _) (by decide) | (simp; done) | (have:=hroom; omega)) (by first | decide | omega) _) ?_)
  rintro e_ gw ⟨bp,bq,rfl,di,dj⟩
  refine ⟨_,rfl,fun gx dl=>?_⟩
  obtain ⟨bu,fI⟩:=aQ.frFresh dj (B4 bp bq 5 (D9 flex (z2 ag ai aj ah ak al ab aa v n1 s2 b3 l4 u5) ((B9 l4).length) 4)) (Nat.le_refl _) di
  refine B1 [5] [] [ac,ae,af,(10,.v (.slice A8 ((B9 l4).length) c9)),(11,.v (.slice bp ((D9 flex (z2 ag ai aj ah ak al ab aa v n1 s2 b3 l4 u5) ((B9 l4).length) 4).length) bq))] bu dl fun gy dp=>?_
  refine B5 (A4 ?_)
  refine wp_seq (B7 [ac,ae,af,(10,.v (.slice A8 ((B9 l4).length) c9)),(11,.v (.slice bp ((D9 flex (z2 ag ai aj ah ak al ab aa v n1 s2 b3 l4 u5) ((B9 l4).length) 4).length) bq)),(30,.v (.int .i64 (((B9 l4).length:Nat):Int))),(31,.v (.int .i64 0))] bu dp fun gz cr=>?_)
  refine wp_block ?_
  have hr2:(D9 flex (Fld.nul (Fld.mk ag ai aj ah ak al ab aa) v (Tree.mk n1 s2 b3 l4 u5)) ((B9 l4).length) 4 ++ (B9 l4).flatMap (F1 (E2 d aa v flex) ab false flex)).length ≤ 1099511627776:=by have h_:=hroom; rw [HJ ‹_› ‹_›] at h_; exact h_
  rw [List.length_append] at hr2
  have hr3:=FL (B9 l4) (F1 (E2 d aa v flex) ab false flex)
  have hsm3:(B9 l4).length ≤ 32767:=by simp only [B9,List.length_take]; omega
  have cu:(D9 flex (Fld.nul (Fld.mk ag ai aj ah ak al ab aa) v (Tree.mk n1 s2 b3 l4 u5)) ((B9 l4).length) 4) = (D9 flex (Fld.nul (Fld.mk ag ai aj ah ak al ab aa) v (Tree.mk n1 s2 b3 l4 u5)) ((B9 l4).length) 4 ++ ((B9 l4).take 0).flatMap (F1 (E2 d aa v flex) ab false flex)):=by simp
  have dq:=congrArg (B4 bp bq 5) cu
  obtain ⟨cw,fJ⟩:=bu.rowEq 0 [B4 bp bq 5 (D9 flex (z2 ag ai aj ah ak al ab aa v n1 s2 b3 l4 u5) ((B9 l4).length) 4 ++ ((B9 l4).take 0).flatMap (F1 (E2 d aa v flex) ab false flex))] dq
  rw [cu] at cr
  refine wp_loop_ghost (fun n_ a_ w_=>∃ (k:Nat) (A_:Option Addr) (c_:Nat),n_ = (B9 l4).length - k ∧ k ≤ (B9 l4).length ∧ F9 cw 76 [b8,cd] [B4 A_ c_ 5 (D9 flex (Fld.nul (Fld.mk ag ai aj ah ak al ab aa) v (Tree.mk n1 s2 b3 l4 u5)) ((B9 l4).length) 4 ++ ((B9 l4).take k).flatMap (F1 (E2 d aa v flex) ab false flex))] [ac,ae,af,(10,.v (.slice A8 ((B9 l4).length) c9)),(11,.v (.slice A_ ((D9 flex (Fld.nul (Fld.mk ag ai aj ah ak al ab aa) v (Tree.mk n1 s2 b3 l4 u5)) ((B9 l4).length) 4 ++ ((B9 l4).take k).flatMap (F1 (E2 d aa v flex) ab false flex)).length) c_)),(30,.v (.int .i64 (((B9 l4).length:Nat):Int))),(31,.v (.int .i64 ((k:Nat):Int)))] a_ w_) ((B9 l4).length) ⟨0,bp,bq,by omega,by omega,cr.pk,cw,Fr.refl _ _ _⟩ ?_
  rintro gA gB gC ⟨k,A_,c_,fK,fL,dr,aL,dt⟩
  let aM:Nat × SV:=(31,.v (.int .i64 ((k:Nat):Int)))
  refine B7 [ac,ae,af,(10,.v (.slice A8 ((B9 l4).length) c9)),(11,.v (.slice A_ ((D9 flex (z2 ag ai aj ah ak al ab aa v n1 s2 b3 l4 u5) ((B9 l4).length) 4 ++ ((B9 l4).take k).flatMap (F1 (E2 d aa v flex) ab false flex)).length) c_)),(30,.v (.int .i64 (((B9 l4).length:Nat):Int))),aM,(32,.v (.bool (decide (((k:Nat):Int) < (((B9 l4).length:Nat):Int)))))] aL dr fun gD bw=>?_
  refine wp_seq (D4 bw (b:=decide (((k:Nat):Int) < (((B9 l4).length:Nat):Int))) kz (fun bx=>?_) (fun bx=>?_))
  ·
   have fM:=of_decide_eq_true bx
   refine wp_skip (A4 (wp_seq (wp_block (B7 [ac,ae,af,(10,.v (.slice A8 ((B9 l4).length) c9)),(11,.v (.slice A_ ((D9 flex (z2 ag ai aj ah ak al ab aa v n1 s2 b3 l4 u5) ((B9 l4).length) 4 ++ ((B9 l4).take k).flatMap (F1 (E2 d aa v flex) ab false flex)).length) c_)),(12,.v (.int .i64 ((k:Nat):Int))),(30,.v (.int .i64 (((B9 l4).length:Nat):Int))),aM] aL bw fun gE du=>?_))))
   refine S8 13 kz aL fun gF dv aE bz=>?_
   let bA:Nat × SV:=(36,.v (.int .i64 ab))
   let bB:Nat × SV:=(38,.v (.slice eP aa.length eQ))
   let bC:Nat × SV:=(39,.v (.int .i64 v))
   let bD:Nat × SV:=(40,.v (.bool flex))
   let bE:Nat × SV:=(42,.v (.int .i64 ((k:Nat):Int)))
   refine C7 [0,1,2,3,4,5,6,7,8] [ac,ae,af,(10,.v (.slice A8 ((B9 l4).length) c9)),(11,.v (.slice A_ ((D9 flex (z2 ag ai aj ah ak al ab aa v n1 s2 b3 l4 u5) ((B9 l4).length) 4 ++ ((B9 l4).take k).flatMap (F1 (E2 d aa v flex) ab false flex)).length) c_)),(30,.v (.int .i64 (((B9 l4).length:Nat):Int))),aM,(34,.v (.slice A_ ((D9 flex (z2 ag ai aj ah ak al ab aa v n1 s2 b3 l4 u5) ((B9 l4).length) 4 ++ ((B9 l4).take k).flatMap (F1 (E2 d aa v flex) ab false flex)).length) c_)),bA,bB,bC,bD,(41,.v (.slice A8 ((B9 l4).length) c9)),bE] 5 (B6 (A5 (A5 (B6 (A5 (A5 B8)))))) (fun _ h=>h.cells) bz du fun gG dw=>?_
   obtain ⟨dx,dy,dA,fN,bF⟩:=Slots.get (DX eV) (i:=k) (by omega)
   obtain ⟨ft,ba⟩:∃ x,(B9 l4)[k]? = some x:=⟨_,List.getElem?_eq_getElem (by omega)⟩
   have bG:=(DY f8) k ft ba
   obtain ⟨ap,ar,ao,au,av,dB,dC,dD,dE,dF,dG,fO,rfl,bH,fv,fw,gH,gI⟩:=bG.open_
   rw [bH] at bG
   have fx:=fv.small
   have fy:=fw.small
   rw [bH] at bF
   refine F6 dw (i:=9) (t:=23) (A:=A8) (m:=((B9 l4).length)) (q:=((k:Nat):Int)) (d:=43) kz (e:=26) (size:=5) (bytes:=88) kz dA rfl (by omega) kz kz (B6 (A5 (A5 (B6 (A5 (A5 B8)))))) bz fun gJ dH=>?_
   let bd:Value:=.int .i64 ap
   let bf:Value:=.slice dB ar.length dC
   let bg:Value:=.slice dD au.length dE
   let bh:Value:=.slice dF av.length dG
   let fP:Value:=.agg #[.int .i64 ap,.slice dB ar.length dC,.bool ao,.slice dD au.length dE,.slice dF av.length dG]
   refine J4 dH (i:=10) (t:=26) (b:=dx) (o:=dy + k * 5) (d:=44) kz (cs:=[bd,bf,.bool ao,bg,bh]) (v:=.agg #[bd,bf,.bool ao,bg,bh]) kz (fun w' h'=>(AtF.move bF (TT.step0 aE h') A7 E8).at_) kz kz (B6 (A5 (A5 (B6 (A5 (A5 B8)))))) bz fun gK dI=>?_
   refine C2 (i:=11) kz (D3 dI (f:=81) (vs:=[aN,aD,.bool false,aO,aJ,.agg #[bd,bf,.bool ao,bg,bh]]) (d:=45) kz Tryz.call81 (Gr hp ab _ _ aa false v flex _ (Tree.mk ap ar ao au av) _ _ ⟨bY,(cY.move aE.step A7 aE.imm),(fun i_ x_ h_=>((eR i_ x_ h_).move aE.step A7 aE.imm))⟩ hd (bG.move aE.step A7 aE.imm) (by have:=HG (g:=F1 (E2 d aa v flex) ab false flex) ba; omega)) ?_)
   rintro e_ gL ⟨bI,bJ,rfl,dJ,dK⟩
   refine ⟨_,rfl,fun gM dL=>?_⟩
   obtain ⟨bj,bK⟩:=aE.frFresh dK (B4 bI bJ 5 (F1 (E2 d aa v flex) ab false flex (Tree.mk ap ar ao au av))) (Nat.le_refl _) dJ
   have dM:=TT.ofW bK bj
   refine ⟨fun _=>dM,?_⟩
   refine C2 (i:=12) kz (I4 bj dL (k:=0) (d:=46) (t:=22) (e:=5) (size:=1) (bytes:=1) (A:=A_) (As:=bI) (m0:=((D9 flex (Fld.nul (Fld.mk ag ai aj ah ak al ab aa) v (Tree.mk n1 s2 b3 l4 u5)) ((B9 l4).length) 4 ++ ((B9 l4).take k).flatMap (F1 (E2 d aa v flex) ab false flex)).length)) (c:=c_) (m:=((F1 (E2 d aa v flex) ab false flex (Tree.mk ap ar ao au av)).length)) (cs:=bJ) (xs:=(bc (D9 flex (Fld.nul (Fld.mk ag ai aj ah ak al ab aa) v (Tree.mk n1 s2 b3 l4 u5)) ((B9 l4).length) 4 ++ ((B9 l4).take k).flatMap (F1 (E2 d aa v flex) ab false flex)))) (news:=bc (F1 (E2 d aa v flex) ab false flex (Tree.mk ap ar ao au av))) kz kz rfl (L0 (bj.own 1 _ rfl) (S2 _)) (M1 (bj.own 1 _ rfl)) (by rw [List.length_append]; have h8_:=hr3 k; have h9_:=HG (g:=F1 (E2 d aa v flex) ab false flex) ba; omega) fun aG aH gN gO cz dN dO=>?_)
   have dP:(⟨aG,aH,5,1,(D9 flex (z2 ag ai aj ah ak al ab aa v n1 s2 b3 l4 u5) ((B9 l4).length) 4 ++ ((B9 l4).take k).flatMap (F1 (E2 d aa v flex) ab false flex)).length + (F1 (E2 d aa v flex) ab false flex (Tree.mk ap ar ao au av)).length,bc (D9 flex (z2 ag ai aj ah ak al ab aa v n1 s2 b3 l4 u5) ((B9 l4).length) 4 ++ ((B9 l4).take k).flatMap (F1 (E2 d aa v flex) ab false flex)) ++ bc (F1 (E2 d aa v flex) ab false flex (Tree.mk ap ar ao au av))⟩:Rw) = B4 aG aH 5 (D9 flex (z2 ag ai aj ah ak al ab aa v n1 s2 b3 l4 u5) ((B9 l4).length) 4 ++ ((B9 l4).take k).flatMap (F1 (E2 d aa v flex) ab false flex) ++ (F1 (E2 d aa v flex) ab false flex (Tree.mk ap ar ao au av))):=O8 (rfl) rfl
   obtain ⟨bk,cA⟩:=dN.rowEq 0 [B4 aG aH 5 (D9 flex (z2 ag ai aj ah ak al ab aa v n1 s2 b3 l4 u5) ((B9 l4).length) 4 ++ ((B9 l4).take k).flatMap (F1 (E2 d aa v flex) ab false flex) ++ (F1 (E2 d aa v flex) ab false flex (Tree.mk ap ar ao au av))),B4 bI bJ 5 (F1 (E2 d aa v flex) ab false flex (Tree.mk ap ar ao au av))] dP
   let cB:Nat × SV:=(43,.v (.pointer (some ⟨dx,dy + k * 5,none⟩)))
   let cC:Nat × SV:=(44,.v (.agg #[bd,bf,.bool ao,bg,bh]))
   have dQ:=EnvOk.pick dO (ks:=[1,2,4,10,11,30,31,34,36,38,39,40,41,42,43,44,45,46]) (env':=[ac,ae,af,(10,.v (.slice A8 ((B9 l4).length) c9)),(11,.v (.slice A_ ((D9 flex (z2 ag ai aj ah ak al ab aa v n1 s2 b3 l4 u5) ((B9 l4).length) 4 ++ ((B9 l4).take k).flatMap (F1 (E2 d aa v flex) ab false flex)).length) c_)),(30,.v (.int .i64 (((B9 l4).length:Nat):Int))),aM,(34,.v (.slice A_ ((D9 flex (z2 ag ai aj ah ak al ab aa v n1 s2 b3 l4 u5) ((B9 l4).length) 4 ++ ((B9 l4).take k).flatMap (F1 (E2 d aa v flex) ab false flex)).length) c_)),bA,bB,bC,bD,(41,.v (.slice A8 ((B9 l4).length) c9)),bE,cB,cC,(45,.v (.slice bI ((F1 (E2 d aa v flex) ab false flex (Tree.mk ap ar ao au av)).length) bJ)),(46,.v (.slice aG ((D9 flex (z2 ag ai aj ah ak al ab aa v n1 s2 b3 l4 u5) ((B9 l4).length) 4 ++ ((B9 l4).take k).flatMap (F1 (E2 d aa v flex) ab false flex)).length + (F1 (E2 d aa v flex) ab false flex (Tree.mk ap ar ao au av)).length) aH))]) kz
   have dR:=dQ.cast (env':=[ac,ae,af,(10,.v (.slice A8 ((B9 l4).length) c9)),(11,.v (.slice A_ ((D9 flex (Fld.nul (Fld.mk ag ai aj ah ak al ab aa) v (Tree.mk n1 s2 b3 l4 u5)) ((B9 l4).length) 4 ++ ((B9 l4).take k).flatMap (F1 (E2 d aa v flex) ab false flex)).length) c_)),(30,.v (.int .i64 (((B9 l4).length:Nat):Int))),aM,(34,.v (.slice A_ ((D9 flex (Fld.nul (Fld.mk ag ai aj ah ak al ab aa) v (Tree.mk n1 s2 b3 l4 u5)) ((B9 l4).length) 4 ++ ((B9 l4).take k).flatMap (F1 (E2 d aa v flex) ab false flex)).length) c_)),bA,bB,bC,bD,(41,.v (.slice A8 ((B9 l4).length) c9)),bE,cB,cC,(45,.v (.slice bI ((F1 (E2 d aa v flex) ab false flex (Tree.mk ap ar ao au av)).length) bJ)),(46,.v (.slice aG ((D9 flex (Fld.nul (Fld.mk ag ai aj ah ak al ab aa) v (Tree.mk n1 s2 b3 l4 u5)) ((B9 l4).length) 4 ++ ((B9 l4).take k).flatMap (F1 (E2 d aa v flex) ab false flex) ++ (F1 (E2 d aa v flex) ab false flex (Tree.mk ap ar ao au av))).length) aH))]) (by simp only [List.length_append,List.length_cons,List.length_nil,Nat.zero_add])
   have dS:=TT.ofW ((bK.trans cz).trans cA) bk
   refine ⟨fun _=>dS,?_⟩
   refine C2 (i:=13) kz (L4 [1,2,4,10,11,30,31] bk.cells dR (env':=[ac,ae,af,(10,.v (.slice A8 ((B9 l4).length) c9)),(11,.v (.slice aG ((D9 flex (z2 ag ai aj ah ak al ab aa v n1 s2 b3 l4 u5) ((B9 l4).length) 4 ++ ((B9 l4).take k).flatMap (F1 (E2 d aa v flex) ab false flex) ++ (F1 (E2 d aa v flex) ab false flex (Tree.mk ap ar ao au av))).length) aH)),(30,.v (.int .i64 (((B9 l4).length:Nat):Int))),aM]) kz fun gP dT=>?_)
   refine ⟨fun h=>absurd rfl h,?_⟩
   refine E5 kz ?_ _
   refine F2 (A4 (D7 [0,1] kz ?_))
   refine B1 [0,1] [] [ac,ae,af,(10,.v (.slice A8 ((B9 l4).length) c9)),(11,.v (.slice aG ((D9 flex (z2 ag ai aj ah ak al ab aa v n1 s2 b3 l4 u5) ((B9 l4).length) 4 ++ ((B9 l4).take k).flatMap (F1 (E2 d aa v flex) ab false flex) ++ (F1 (E2 d aa v flex) ab false flex (Tree.mk ap ar ao au av))).length) aH)),(30,.v (.int .i64 (((B9 l4).length:Nat):Int))),(31,.v (.int .i64 (IntKind.i64.wrap (((k:Nat):Int) + 1))))] bk dT fun gQ bL=>?_
   refine B5 (A4 ?_)
   obtain ⟨dU,dV⟩:=bk.cutR 1 [B4 aG aH 5 (D9 flex (z2 ag ai aj ah ak al ab aa v n1 s2 b3 l4 u5) ((B9 l4).length) 4 ++ ((B9 l4).take k).flatMap (F1 (E2 d aa v flex) ab false flex) ++ (F1 (E2 d aa v flex) ab false flex (Tree.mk ap ar ao au av)))]
   have cD:(D9 flex (Fld.nul (Fld.mk ag ai aj ah ak al ab aa) v (Tree.mk n1 s2 b3 l4 u5)) ((B9 l4).length) 4 ++ ((B9 l4).take k).flatMap (F1 (E2 d aa v flex) ab false flex) ++ (F1 (E2 d aa v flex) ab false flex (Tree.mk ap ar ao au av))) = (D9 flex (Fld.nul (Fld.mk ag ai aj ah ak al ab aa) v (Tree.mk n1 s2 b3 l4 u5)) ((B9 l4).length) 4 ++ ((B9 l4).take (k + 1)).flatMap (F1 (E2 d aa v flex) ab false flex)):=by rw [HH ba,List.append_assoc]
   have dW:=congrArg (B4 aG aH 5) cD
   obtain ⟨dX,dY⟩:=dU.rowEq 0 [B4 aG aH 5 (D9 flex (z2 ag ai aj ah ak al ab aa v n1 s2 b3 l4 u5) ((B9 l4).length) 4 ++ ((B9 l4).take (k + 1)).flatMap (F1 (E2 d aa v flex) ab false flex))] dW
   rw [cD] at bL
   have dZ:IntKind.i64.wrap (((k:Nat):Int) + 1) = ((k + 1:Nat):Int):=G8 (by omega)
   rw [dZ] at bL
   exact ⟨(B9 l4).length - (k + 1),by omega,k + 1,aG,aH,rfl,by omega,bL.pk,dX,((((((dt.trans dv).trans bK).trans cz).trans cA).trans dV).trans dY)⟩
  have fQ:=of_decide_eq_false bx
  refine wp_exit (E7 (E7 (G9 (A4 (B7 [(8,.v (.slice A_ ((D9 flex (z2 ag ai aj ah ak al ab aa v n1 s2 b3 l4 u5) ((B9 l4).length) 4 ++ ((B9 l4).take k).flatMap (F1 (E2 d aa v flex) ab false flex)).length) c_))] aL bw fun gR d4=>?_)))))
  refine wp_ret (D6 (C8 d4 aL.cells (v:=.slice A_ ((D9 flex (z2 ag ai aj ah ak al ab aa v n1 s2 b3 l4 u5) ((B9 l4).length) 4 ++ ((B9 l4).take k).flatMap (F1 (E2 d aa v flex) ab false flex)).length) c_) kz ?_))
  have hkk:(B9 l4).take k = B9 l4:=List.take_of_length_le (by omega)
  exact M8 aL (k:=0) rfl (by rw [hkk,HJ ‹_› ‹_›]; rfl)
 have fR:ag ≠ 11:=by simpa using cL
 refine wp_skip (A4 (wp_seq (C0 [0,1,2,3,4,5,6,7] kz ?_)))
 refine B1 [0,1,2,3] [4,5,6,7] [ac,ae,af,ay,aw,(52,.v (.bool (ag == 10)))] am cK fun gS cE=>?_
 let cG:C6:=[(68,.v (.int .i64 ag)),(70,.v (.slice eP aa.length eQ)),(71,.v (.bool (z2 ag ai aj ah ak al ab aa v n1 s2 b3 l4 u5))),(72,.v (.int .i64 v)),(73,.v (.bool flex)),(74,.v (.agg #[az,aA,aB,ax,aC]))]
 refine (Bool.eq_false_or_eq_true (ag == 10)).elim (fun aP=>?_) (fun aP=>?_)
 ·
  have fS:ag = 10:=by simpa using aP
  have d5:=cE
  rw [aP] at d5
  refine B1 [4,5,6,7] [] [ac,ae,af,ay,aw,(56,.v (.bool (decide (ah ≥ 0))))] am d5 fun gT bM=>?_
  refine B5 (A4 ?_)
  refine D4 bM (b:=decide (ah ≥ 0)) kz (fun bN=>?_) (fun bN=>?_)
  ·
   have fT:=of_decide_eq_true bN
   refine wp_seq (B7 [ac,ae,af,ay,(57,.v (.bool (z2 ag ai aj ah ak al ab aa v n1 s2 b3 l4 u5)))] am bM fun gU bO=>?_)
   refine D4 bO (b:=Fld.nul (Fld.mk ag ai aj ah ak al ab aa) v (Tree.mk n1 s2 b3 l4 u5)) kz (fun d6=>?_) (fun d6=>?_)
   ·
    refine C0 [0,1] kz ?_
    refine B2 (D3 bO (f:=45) (vs:=[.int .i64 (-1),.int .i64 1]) (d:=58) kz Tryz.call45 (BJ (-1) 1 (by first | decide | exact P7 _ | omega) _) ?_)
    rintro e_ gV ⟨cO,cP,rfl,d7,d8⟩
    refine ⟨_,rfl,fun gW d9=>?_⟩
    obtain ⟨bP,fU⟩:=am.frFresh d8 (B4 cO cP 5 (be 1 (-1))) (Nat.le_refl _) d7
    refine B1 [1] [] [(8,.v (.slice cO ((be 1 (-1)).length) cP))] bP d9 fun gX ea=>?_
    refine B5 (A4 ?_)
    refine wp_ret (D6 (D6 (C8 ea bP.cells (v:=.slice cO ((be 1 (-1)).length) cP) kz ?_)))
    exact M8 bP (k:=0) rfl (by first | rw [Cn ‹_› ‹_›] | rw [Cm ‹_› ‹_› ‹_›] | rw [Cl ‹_› ‹_› ‹_› ‹_›] | rw [Ec ‹_› ‹_› ‹_› ‹_›])
   refine wp_skip (A4 (G0 8 kz am fun gY fV eb ec=>?_))
   let bQ:Nat × SV:=(61,.v (.slice eP aa.length eQ))
   let bR:Nat × SV:=(62,.v (.int .i64 v))
   let bS:Nat × SV:=(64,.v (.agg #[az,aA,aB,ax,aC]))
   refine C7 [1,2,3,4,5] [bQ,bR,(63,.v (.bool flex)),bS] 4 (A5 (A5 B8)) (fun _ h=>h.cells) ec bO fun gZ ee=>?_
   refine C2 (i:=0) kz (D3 ee (f:=45) (vs:=[.int .i64 1,.int .i64 1]) (d:=59) kz Tryz.call45 (BJ 1 1 (by first | decide | exact P7 _ | omega) _) ?_)
   rintro e_ hC ⟨cQ,cR,rfl,ef,eg⟩
   refine ⟨_,rfl,fun hJ eh=>?_⟩
   obtain ⟨aF,bT⟩:=eb.frFresh eg (B4 cQ cR 5 (be 1 1)) (Nat.le_refl _) ef
   have ei:=TT.ofW bT aF
   refine ⟨fun _=>ei,?_⟩
   refine C2 (i:=6) kz (D3 eh (f:=22) (vs:=[aD,aO,aJ,.agg #[az,aA,aB,ax,aC]]) (d:=65) kz Tryz.call22 (hp _ _ aa v flex _ (Tree.mk n1 s2 b3 l4 u5) _ _ ⟨bY,(cY.move aF.step A7 aF.imm),(fun i_ x_ h_=>((eR i_ x_ h_).move aF.step A7 aF.imm))⟩ hd (ht.move aF.step A7 aF.imm) (by have h9_:=hroom; rw [Cl ‹_› ‹_› ‹_› ‹_›,List.length_append] at h9_; omega)) ?_)
   rintro e_ hK ⟨bU,bV,rfl,ej,ek⟩
   refine ⟨_,rfl,fun hZ em=>?_⟩
   obtain ⟨bn,cH⟩:=aF.frFresh ek (B4 bU bV 5 (E2 d aa v flex (Tree.mk n1 s2 b3 l4 u5))) (Nat.le_refl _) ej
   have eo:=TT.ofW (bT.trans cH) bn
   refine ⟨fun _=>eo,?_⟩
   refine C2 (i:=7) kz (I4 bn em (k:=0) (d:=66) (t:=22) (e:=5) (size:=1) (bytes:=1) (A:=cQ) (As:=bU) (m0:=((be 1 1).length)) (c:=cR) (m:=((E2 d aa v flex (Tree.mk n1 s2 b3 l4 u5)).length)) (cs:=bV) (xs:=(bc (be 1 1))) (news:=bc (E2 d aa v flex (Tree.mk n1 s2 b3 l4 u5))) kz kz rfl (L0 (bn.own 1 _ rfl) (S2 _)) (M1 (bn.own 1 _ rfl)) (by have h9_:=hroom; rw [Cl ‹_› ‹_› ‹_› ‹_›,List.length_append] at h9_; omega) fun aR aS ia ib ep eu ev=>?_)
   have ew:(⟨aR,aS,5,1,(be 1 1).length + (E2 d aa v flex (Tree.mk n1 s2 b3 l4 u5)).length,bc (be 1 1) ++ bc (E2 d aa v flex (Tree.mk n1 s2 b3 l4 u5))⟩:Rw) = B4 aR aS 5 (be 1 1 ++ (E2 d aa v flex (Tree.mk n1 s2 b3 l4 u5))):=O8 (rfl) rfl
   obtain ⟨bo,ey⟩:=eu.rowEq 0 [B4 aR aS 5 (be 1 1 ++ (E2 d aa v flex (Tree.mk n1 s2 b3 l4 u5))),B4 bU bV 5 (E2 d aa v flex (Tree.mk n1 s2 b3 l4 u5))] ew
   let cI:Nat × SV:=(59,.v (.slice cQ ((be 1 1).length) cR))
   have ez:=EnvOk.pick ev (ks:=[61,62,63,64,59,65,66]) (env':=[bQ,bR,(63,.v (.bool flex)),bS,cI,(65,.v (.slice bU ((E2 d aa v flex (Tree.mk n1 s2 b3 l4 u5)).length) bV)),(66,.v (.slice aR ((be 1 1).length + (E2 d aa v flex (Tree.mk n1 s2 b3 l4 u5)).length) aS))]) kz
   have eB:=ez.cast (env':=[bQ,bR,(63,.v (.bool flex)),bS,cI,(65,.v (.slice bU ((E2 d aa v flex (Tree.mk n1 s2 b3 l4 u5)).length) bV)),(66,.v (.slice aR ((be 1 1 ++ (E2 d aa v flex (Tree.mk n1 s2 b3 l4 u5))).length) aS))]) (by simp only [List.length_append,List.length_cons,List.length_nil,Nat.zero_add])
   have eC:=TT.ofW (((bT.trans cH).trans ep).trans ey) bo
   refine ⟨fun _=>eC,?_⟩
   refine C2 (i:=8) kz (L4 [8] bo.cells eB (env':=[(8,.v (.slice aR ((be 1 1 ++ (E2 d aa v flex (Tree.mk n1 s2 b3 l4 u5))).length) aS))]) kz fun ic eD=>?_)
   refine ⟨fun h=>absurd rfl h,?_⟩
   refine E5 kz ?_ _
   refine A4 (wp_ret (D6 (C8 eD bo.cells (v:=.slice aR ((be 1 1 ++ (E2 d aa v flex (Tree.mk n1 s2 b3 l4 u5))).length) aS) kz ?_)))
   exact M8 bo (k:=0) rfl (by first | rw [Cn ‹_› ‹_›] | rw [Cm ‹_› ‹_› ‹_›] | rw [Cl ‹_› ‹_› ‹_› ‹_›] | rw [Ec ‹_› ‹_› ‹_› ‹_›])
  have fW:=of_decide_eq_false bN
  refine wp_skip (A4 (C0 [0,1,2,3,4,5,6,7,8,9] kz ?_))
  refine B1 [0,1,2,3,4,5,6,7] [8,9] cG am bM fun ig eE=>?_
  refine B2 (D3 eE (f:=81) (vs:=[aI,aD,aY,aO,aJ,.agg #[az,aA,aB,ax,aC]]) (d:=75) kz Tryz.call81 (Gr hp ag _ _ aa (Fld.nul (Fld.mk ag ai aj ah ak al ab aa) v (Tree.mk n1 s2 b3 l4 u5)) v flex _ (Tree.mk n1 s2 b3 l4 u5) _ _ ⟨bY,(cY.move am.step A7 am.imm),(fun i_ x_ h_=>((eR i_ x_ h_).move am.step A7 am.imm))⟩ hd (ht.move am.step A7 am.imm) (by have h_:=hroom; (first | rw [Cn ‹_› ‹_›] at h_ | rw [Cm ‹_› ‹_› ‹_›] at h_); exact h_)) ?_)
  rintro e_ ii ⟨cS,cT,rfl,eF,eG⟩
  refine ⟨_,rfl,fun ij eH=>?_⟩
  obtain ⟨bW,fX⟩:=am.frFresh eG (B4 cS cT 5 (F1 (E2 d aa v flex) ag (z2 ag ai aj ah ak al ab aa v n1 s2 b3 l4 u5) flex (Tree.mk n1 s2 b3 l4 u5))) (Nat.le_refl _) eF
  refine B1 [9] [] [(8,.v (.slice cS ((F1 (E2 d aa v flex) ag (z2 ag ai aj ah ak al ab aa v n1 s2 b3 l4 u5) flex (Tree.mk n1 s2 b3 l4 u5)).length) cT))] bW eH fun ik eI=>?_
  refine B5 (A4 ?_)
  refine wp_ret (C8 eI bW.cells (v:=.slice cS ((F1 (E2 d aa v flex) ag (z2 ag ai aj ah ak al ab aa v n1 s2 b3 l4 u5) flex (Tree.mk n1 s2 b3 l4 u5)).length) cT) kz ?_)
  exact M8 bW (k:=0) rfl (by first | rw [Cn ‹_› ‹_›] | rw [Cm ‹_› ‹_› ‹_›] | rw [Cl ‹_› ‹_› ‹_› ‹_›] | rw [Ec ‹_› ‹_› ‹_› ‹_›])
 have fY:ag ≠ 10:=by simpa using aP
 have eJ:=cE.cast (env':=[ac,ae,af,ay,aw,(52,.v (.bool false))]) (by rw [aP])
 refine B1 [4,5,6,7] [] [ac,ae,af,ay,aw,(56,.v (.bool false))] am eJ fun il cJ=>?_
 refine B5 (A4 ?_)
 refine E6 cJ (b:=false) kz rfl ?_
 refine wp_skip (A4 (C0 [0,1,2,3,4,5,6,7,8,9] kz ?_))
 refine B1 [0,1,2,3,4,5,6,7] [8,9] cG am cJ fun im eK=>?_
 refine B2 (D3 eK (f:=81) (vs:=[aI,aD,aY,aO,aJ,.agg #[az,aA,aB,ax,aC]]) (d:=75) kz Tryz.call81 (Gr hp ag _ _ aa (Fld.nul (Fld.mk ag ai aj ah ak al ab aa) v (Tree.mk n1 s2 b3 l4 u5)) v flex _ (Tree.mk n1 s2 b3 l4 u5) _ _ ⟨bY,(cY.move am.step A7 am.imm),(fun i_ x_ h_=>((eR i_ x_ h_).move am.step A7 am.imm))⟩ hd (ht.move am.step A7 am.imm) (by have h_:=hroom; (first | rw [Cn ‹_› ‹_›] at h_ | rw [Cm ‹_› ‹_› ‹_›] at h_); exact h_)) ?_)
 rintro e_ io ⟨cU,cV,rfl,eL,eM⟩
 refine ⟨_,rfl,fun ip eN=>?_⟩
 obtain ⟨bX,fZ⟩:=am.frFresh eM (B4 cU cV 5 (F1 (E2 d aa v flex) ag (z2 ag ai aj ah ak al ab aa v n1 s2 b3 l4 u5) flex (Tree.mk n1 s2 b3 l4 u5))) (Nat.le_refl _) eL
 refine B1 [9] [] [(8,.v (.slice cU ((F1 (E2 d aa v flex) ag (z2 ag ai aj ah ak al ab aa v n1 s2 b3 l4 u5) flex (Tree.mk n1 s2 b3 l4 u5)).length) cV))] bX eN fun iq eO=>?_
 refine B5 (A4 ?_)
 refine wp_ret (C8 eO bX.cells (v:=.slice cU ((F1 (E2 d aa v flex) ag (z2 ag ai aj ah ak al ab aa v n1 s2 b3 l4 u5) flex (Tree.mk n1 s2 b3 l4 u5)).length) cV) kz ?_)
 exact M8 bX (k:=0) rfl (by first | rw [Cn ‹_› ‹_›] | rw [Cm ‹_› ‹_› ‹_›] | rw [Cl ‹_› ‹_› ‹_› ‹_›] | rw [Ec ‹_› ‹_› ‹_› ‹_›])
theorem Gs (Af:Option Addr) (cf:Nat) (l:List Fld) (A:Option Addr) (c:Nat) (u:List (Int × Bs)) (w:World) (F:Nat → Nat → Prop) (hl:FldsR w F Af cf l) (hu:TagsR w F A c u) :
  Calls Tryz.prog 28 #[.slice Af l.length cf,.slice A u.length c] w (Hz w F (C4 l u)):=by
 obtain ⟨xf,hf1,hf2⟩:=hl.ex
 obtain ⟨xu,hu1,hu2⟩:=hu.ex
 have hsmu:=hu1.small
 have hule:(u.take 32767).length ≤ 32767:=by rw [List.length_take]; omega
 refine enter (n:=85) Tryz.func28 rfl Tryz.ntmps28 kz fun a hE=>?_
 have hW:=WOk.start w C1
 let ba:Nat × SV:=(1,.v (.slice A u.length c))
 refine B7 [(0,.v (.slice Af l.length cf)),ba] hW hE fun a1 hE2=>?_
 refine C0 [0,1,2] kz ?_
 refine B1 [0] [1,2] [ba,(11,.v (.slice Af l.length cf))] hW hE2 fun a3 hE4=>?_
 refine B2 (D3 hE4 (f:=43) (vs:=[.slice Af l.length cf]) (d:=12) kz Tryz.call43 (Jh _ _ l _ _ ⟨xf,(hf1.move hW.step A7 hW.imm),(fun i_ x_ h_=>((hf2 i_ x_ h_).move hW.step A7 hW.imm))⟩) ?_)
 rintro e_ w6 ⟨rfl,hs5⟩
 refine ⟨_,rfl,fun a7 hE8=>?_⟩
 have hW9:=hW.next_nil hs5
 have f9:=hW.frN hs5
 refine B1 [2] [] [ba,(5,.v (.int .u32 (D0 l)))] hW9 hE8 fun iM fi=>?_
 refine B5 (A4 ?_)
 let bh:Nat × SV:=(6,.v (.slice none 0 0))
 refine B7 [ba,(5,.v (.int .u32 (D0 l))),bh] hW9 fi fun iN fj=>?_
 refine wp_seq (C0 [0,1,2,3,4,5,6] kz ?_)
 refine B1 [0,1,2,3] [4,5,6] [(5,.v (.int .u32 (D0 l))),bh,(13,.v (.slice A u.length c)),(16,.v (.int .i64 (if 32767 < ((u.length:Nat):Int) then 32767 else ((u.length:Nat):Int))))] hW9 fj fun iO fk=>?_
 refine B2 (DU fk (t:=24) (A:=A) (m:=u.length) (cp:=c) (q:=(if 32767 < ((u.length:Nat):Int) then 32767 else ((u.length:Nat):Int))) (d:=17) (j:=(u.take 32767).length) kz (e:=66) (size:=2) (bytes:=32) kz (by simpa using FD u.length) (by rw [List.length_take]; have:=hu1.le; omega) fun iP fm=>?_)
 let aa:Nat × SV:=(17,.v (.slice A ((u.take 32767).length) c))
 let ab:Nat × SV:=(18,.v (.int .i64 (((u.take 32767).length:Nat):Int)))
 refine B1 [5,6] [] [(5,.v (.int .u32 (D0 l))),bh,aa,ab,(19,.v (.int .i64 0))] hW9 fm fun iQ fo=>?_
 refine B5 (A4 ?_)
 refine wp_block ?_
 have dc:=hW9.addNil 66 2
 have ga:=hW9.frNil 66 2
 refine wp_loop_ghost (fun n_ a_ w_=>∃ (k:Nat) (A_:Option Addr) (c_:Nat) (out:List (Int × Bs)) (css:List (List Value)),n_ = (u.take 32767).length - k ∧ k ≤ (u.take 32767).length ∧ (TagsE w_ (E9 F w w_ [] [⟨A_,c_,66,2,out.length,css.flatten⟩]) out css) ∧ (out = ((u.take 32767).take k).foldl (L6 (D0 l)) []) ∧ (out.length ≤ k) ∧ F9 dc 85 [] [⟨A_,c_,66,2,out.length,css.flatten⟩] [(5,.v (.int .u32 (D0 l))),(6,.v (.slice A_ out.length c_)),aa,ab,(19,.v (.int .i64 ((k:Nat):Int)))] a_ w_) ((u.take 32767).length) ⟨0,none,0,[],[],by omega,by omega,TagsE.nil _ _,rfl,Nat.zero_le _,fo.pk,dc,Fr.refl _ _ _⟩ ?_
 rintro iR iS iT ⟨k,A_,c_,out,css,gb,gc,hT,hout,hlen,fq,bd,bj⟩
 let ag:Nat × SV:=(6,.v (.slice A_ out.length c_))
 let ac:Nat × SV:=(19,.v (.int .i64 ((k:Nat):Int)))
 refine B7 [(5,.v (.int .u32 (D0 l))),ag,aa,ab,ac,(20,.v (.bool (decide (((k:Nat):Int) < (((u.take 32767).length:Nat):Int)))))] bd fq fun iU cT=>?_
 refine wp_seq (D4 cT (b:=decide (((k:Nat):Int) < (((u.take 32767).length:Nat):Int))) kz (fun cU=>?_) (fun cU=>?_))
 ·
  have gd:=of_decide_eq_true cU
  refine wp_skip (A4 (wp_seq (wp_block (C0 [0,1,2,3] kz ?_))))
  obtain ⟨ge,gg,fr,gh,bS⟩:=Slots.get (Ln hu1 32767) (i:=k) (by omega)
  obtain ⟨⟨aE,aV⟩,bf⟩:∃ x,(u.take 32767)[k]? = some x:=⟨_,List.getElem?_eq_getElem (by omega)⟩
  obtain ⟨⟨cV,cW,de,df⟩,fI,fJ⟩:=(Lo hu2 32767) k aE aV bf
  rw [de] at bS
  refine B2 (G6 cT (t:=24) (A:=A) (m:=((u.take 32767).length)) (q:=((k:Nat):Int)) (d:=21) kz (e:=66) (size:=2) (bytes:=32) kz fr rfl (by omega) fun iV ft=>?_)
  let aF:Value:=.int .u32 aE
  let aG:Value:=.slice cV aV.length cW
  refine B2 (K3 ft (t:=66) (b:=ge) (o:=gg + k * 2) (d:=22) kz (cs:=[aF,aG]) (v:=.agg #[aF,aG]) kz (AtF.move bS bd.step A7 E8).at_ fun iW fv=>?_)
  let ao:Value:=.int .u32 0
  let ap:Value:=.slice none 0 0
  refine B2 (H4 bd fv (d:=8) (cs:=[ao,ap]) kz fun gi iX iY gj gk aj fw fx=>?_)
  refine B2 (D5 fw fx (oi:=0) (cs:=[aF,aG]) kz fun iZ ak cX fy=>?_)
  refine B5 (A4 ?_)
  let ae:Nat × SV:=(8,.p 0 0)
  refine B7 [(5,.v (.int .u32 (D0 l))),ag,ae,(9,.v (.int .i64 0)),aa,ab,ac] cX fy fun i6 fz=>?_
  refine wp_seq (wp_block ?_)
  let bk:Ob:=⟨gi,0,[aF,aG],true⟩
  refine wp_loop_ghost (fun n_ a_ w_=>∃ (i:Nat),n_ = out.length - i ∧ (i ≤ out.length) ∧ (∀ q,q < i → (out.getD q (0,[])).1 < aE) ∧ F9 cX 85 [bk] [⟨A_,c_,66,2,out.length,css.flatten⟩] [(5,.v (.int .u32 (D0 l))),ag,ae,(9,.v (.int .i64 ((i:Nat):Int))),aa,ab,ac] a_ w_) (out.length - 0) ⟨0,rfl,Nat.zero_le _,fun q h_=>absurd h_ (Nat.not_lt_zero q),fz.pk,cX,Fr.refl _ _ _⟩ ?_
  rintro i7 ja jb ⟨i,gl,hi,hlt,fA,fB,ah⟩
  refine wp_seq (Bc kz fB fun jc ai aO=>?_)
  let af:Nat × SV:=(9,.v (.int .i64 ((i:Nat):Int)))
  refine C7 [0,1,2,3,4] [(5,.v (.int .u32 (D0 l))),ag,ae,af,aa,ab,ac,(27,.v (.bool (decide (((i:Nat):Int) < ((out.length:Nat):Int)))))] 9 (A5 (A5 (A5 (B6 (A5 (B6 (A5 (A5 (B6 (A5 B8)))))))))) (fun _ h=>h ▸ aO.cells) rfl fA fun jd dg=>?_
  let aJ:Nat × SV:=(43,.v (.bool false))
  let aK:Nat × SV:=(48,.v (.bool (decide (((i:Nat):Int) < ((out.length:Nat):Int)))))
  let bT:Nat × SV:=(60,.v (.agg #[ao,ap]))
  let bU:Nat × SV:=(80,.v (.int .i64 ((i:Nat):Int)))
  let bV:Nat × SV:=(81,.v (.agg #[aF,aG]))
  refine (Bool.eq_false_or_eq_true (decide (((i:Nat):Int) < ((out.length:Nat):Int)))).elim (fun aZ=>?_) (fun aZ=>?_)
  ·
   have gm:=of_decide_eq_true aZ
   let bn:Nat × SV:=(27,.v (.bool true))
   have fC:=dg.cast (env':=[(5,.v (.int .u32 (D0 l))),ag,ae,af,aa,ab,ac,bn]) (by simp only [aK,aZ]; try rfl)
   refine C7 [5,6,10,11] [(5,.v (.int .u32 (D0 l))),ag,ae,af,aa,ab,ac,bn,(28,.v (.slice A_ out.length c_)),(29,.v (.int .i64 ((i:Nat):Int))),(34,.v (.int .u32 aE))] 5 (A5 (A5 (A5 (B6 (A5 (B6 (A5 (A5 (B6 (A5 B8)))))))))) (fun _ h=>h ▸ aO.cells) rfl fC fun je fD=>?_
   obtain ⟨fE,dh⟩:=P8 (aO.own 0 _ rfl) (show 0 < out.length by omega)
   obtain ⟨⟨fh,jf⟩,bP⟩:∃ x,out[i]? = some x:=⟨_,List.getElem?_eq_getElem (by omega)⟩
   obtain ⟨jg,jh,fF,gn,ji,jj⟩:=TagsE.get2 (hT.move (((aj.trans ak).trans ah).trans ai).step immM (((aj.trans ak).trans ah).trans ai).to') bP
   have di:=Ea (aO.own 0 _ rfl) dh (Ee (hT.move (((aj.trans ak).trans ah).trans ai).step immM (((aj.trans ak).trans ah).trans ai).to').two fF)
   refine F6 fD (i:=7) (t:=24) (A:=A_) (m:=out.length) (q:=((i:Nat):Int)) (d:=30) kz (e:=66) (size:=2) (bytes:=32) kz (b:=fE) (o:=0) (j:=i) dh (rfl) (by omega) kz kz (A5 (A5 (A5 (B6 (A5 (B6 (A5 (A5 (B6 (A5 B8)))))))))) rfl fun jk fG=>?_
   refine C7 [8] [(5,.v (.int .u32 (D0 l))),ag,ae,af,aa,ab,ac,bn,(31,.v (.pointer (some ⟨fE,0 + i * 2,none⟩))),(34,.v (.int .u32 aE))] 3 (A5 (A5 (A5 (B6 (A5 (B6 (A5 (A5 (B6 (A5 B8)))))))))) (fun _ h=>h ▸ aO.cells) rfl fG fun jl fH=>?_
   refine J4 fH (i:=9) (t:=64) (b:=fE) (o:=0 + i * 2) (d:=32) kz (cs:=[.int .u32 fh]) (v:=.int .u32 fh) kz (fun w' h'=>h' ▸ (At.drop di 0 1)) kz kz (A5 (A5 (A5 (B6 (A5 (B6 (A5 (A5 (B6 (A5 B8)))))))))) rfl fun gp dj=>?_
   refine C7 [12,13] [(5,.v (.int .u32 (D0 l))),ag,ae,af,aa,ab,ac,(36,.v (.bool (decide (fh < aE))))] 0 (A5 (A5 (A5 (B6 (A5 (B6 (A5 (A5 (B6 (A5 B8)))))))))) (fun _ h=>h ▸ aO.cells) rfl dj fun gq bo=>?_
   refine E5 kz ?_ _
   refine A4 (D4 bo (b:=decide (fh < aE)) kz (fun bp=>?_) (fun bp=>?_))
   ·
    have fK:=of_decide_eq_true bp
    refine wp_skip (A4 (wp_block (D7 [0,1,2] kz ?_)))
    refine B1 [0,1,2] [] [(5,.v (.int .u32 (D0 l))),ag,ae,(9,.v (.int .i64 (IntKind.i64.wrap (((i:Nat):Int) + 1)))),aa,ab,ac] aO bo fun gt bW=>?_
    refine B5 (F2 (A4 ?_))
    have dl:IntKind.i64.wrap (((i:Nat):Int) + 1) = ((i + 1:Nat):Int):=G8 (by omega)
    rw [dl] at bW
    exact ⟨out.length - (i + 1),by omega,(i + 1),rfl,by omega,fun q hq=>by rcases Nat.lt_succ_iff_lt_or_eq.1 hq with h_ | h_; exact hlt q h_; rw [h_,Ie bP]; assumption,bW.pk,aO,(ah.trans ai)⟩
   have fL:=of_decide_eq_false bp
   refine wp_exit (E7 (E7 (G9 (A4 (wp_seq (Bc kz aO fun gv al ax=>?_))))))
   refine C7 [0,1,2,3,4] [(5,.v (.int .u32 (D0 l))),ag,ae,af,aa,ab,ac,(43,.v (.bool (decide (aE < (D0 l)))))] 15 (A5 (A5 (B6 (A5 (A5 (B6 (A5 B8))))))) (fun _ h=>h ▸ ax.cells) rfl bo fun gw bX=>?_
   refine (Bool.eq_false_or_eq_true (decide (aE < (D0 l)))).elim (fun aW=>?_) (fun aW=>?_)
   ·
    have fM:=of_decide_eq_true aW
    have dp:=bX
    rw [aW] at dp
    refine C7 [5,6,7,8,9,10,11,12,13,14,15,16,17,18,19] [(5,.v (.int .u32 (D0 l))),ag,ae,af,aa,ab,ac,(58,.v (.bool true))] 0 (A5 (A5 (B6 (A5 (A5 (B6 (A5 B8))))))) (fun _ h=>h ▸ ax.cells) rfl dp fun gx bY=>?_
    refine E5 kz ?_ _
    refine A4 (I7 bY (b:=true) kz rfl ?_)
    refine wp_exit (E7 (G9 (A4 (D7 [0,1] kz ?_))))
    refine B1 [0,1] [] [(5,.v (.int .u32 (D0 l))),ag,aa,ab,(19,.v (.int .i64 (IntKind.i64.wrap (((k:Nat):Int) + 1))))] ax bY fun gy dq=>?_
    refine B5 (A4 ?_)
    obtain ⟨bZ,dr,bq⟩:=ax.cutB dq 0 [] [(5,.v (.int .u32 (D0 l))),ag,aa,ab,(19,.v (.int .i64 (IntKind.i64.wrap (((k:Nat):Int) + 1))))]
    have dt:IntKind.i64.wrap (((k:Nat):Int) + 1) = ((k + 1:Nat):Int):=G8 (by omega)
    rw [dt] at bZ
    exact ⟨(u.take 32767).length - (k + 1),by omega,k + 1,A_,c_,out,css,rfl,by omega,(hT.move (((((aj.trans ak).trans ah).trans ai).trans al).trans bq).step immM (((((aj.trans ak).trans ah).trans ai).trans al).trans bq).to'),by rw [Df bf,← hout]; exact (If ‹_›).symm,by omega,bZ.pk,dr,((((((bj.trans aj).trans ak).trans ah).trans ai).trans al).trans bq)⟩
   have fN:=of_decide_eq_false aW
   have du:=bX
   rw [aW] at du
   refine C7 [5,6,7,8,9] [(5,.v (.int .u32 (D0 l))),ag,ae,af,aa,ab,ac,aJ,aK] 10 (A5 (A5 (B6 (A5 (A5 (B6 (A5 B8))))))) (fun _ h=>h ▸ ax.cells) rfl du fun gz dv=>?_
   have dw:(decide (((i:Nat):Int) < ((out.length:Nat):Int))) = true:=aZ
   have dx:=dv.cast (env':=[(5,.v (.int .u32 (D0 l))),ag,ae,af,aa,ab,ac,aJ,(48,.v (.bool true))]) (by simp only [aK,dw]; try rfl)
   refine C7 [10,11,15,16] [(5,.v (.int .u32 (D0 l))),ag,ae,af,aa,ab,ac,aJ,(48,.v (.bool true)),(49,.v (.slice A_ out.length c_)),(50,.v (.int .i64 ((i:Nat):Int))),(55,.v (.int .u32 aE))] 6 (A5 (A5 (B6 (A5 (A5 (B6 (A5 B8))))))) (fun _ h=>h ▸ ax.cells) rfl dx fun gA dy=>?_
   obtain ⟨cY,b8⟩:=P8 (ax.own 0 _ rfl) (show 0 < out.length by omega)
   obtain ⟨⟨bg,gB⟩,aX⟩:∃ x,out[i]? = some x:=⟨_,List.getElem?_eq_getElem (by omega)⟩
   obtain ⟨gC,gD,dA,fO,gE,gF⟩:=TagsE.get2 (hT.move ((((aj.trans ak).trans ah).trans ai).trans al).step immM ((((aj.trans ak).trans ah).trans ai).trans al).to') aX
   have cZ:=Ea (ax.own 0 _ rfl) b8 (Ee (hT.move ((((aj.trans ak).trans ah).trans ai).trans al).step immM ((((aj.trans ak).trans ah).trans ai).trans al).to').two dA)
   refine F6 dy (i:=12) (t:=24) (A:=A_) (m:=out.length) (q:=((i:Nat):Int)) (d:=51) kz (e:=66) (size:=2) (bytes:=32) kz (b:=cY) (o:=0) (j:=i) b8 (rfl) (by omega) kz kz (A5 (A5 (B6 (A5 (A5 (B6 (A5 B8))))))) rfl fun gG dB=>?_
   refine C7 [13] [(5,.v (.int .u32 (D0 l))),ag,ae,af,aa,ab,ac,aJ,(48,.v (.bool true)),(52,.v (.pointer (some ⟨cY,0 + i * 2,none⟩))),(55,.v (.int .u32 aE))] 4 (A5 (A5 (B6 (A5 (A5 (B6 (A5 B8))))))) (fun _ h=>h ▸ ax.cells) rfl dB fun gH dC=>?_
   refine J4 dC (i:=14) (t:=64) (b:=cY) (o:=0 + i * 2) (d:=53) kz (cs:=[.int .u32 bg]) (v:=.int .u32 bg) kz (fun w' h'=>h' ▸ (At.drop cZ 0 1)) kz kz (A5 (A5 (B6 (A5 (A5 (B6 (A5 B8))))))) rfl fun gI dD=>?_
   refine C7 [17,18,19] [(5,.v (.int .u32 (D0 l))),ag,ae,af,aa,ab,ac,(58,.v (.bool (bg == aE)))] 0 (A5 (A5 (B6 (A5 (A5 (B6 (A5 B8))))))) (fun _ h=>h ▸ ax.cells) rfl dD fun gJ bt=>?_
   refine E5 kz ?_ _
   refine A4 (D4 bt (b:=bg == aE) kz (fun bu=>?_) (fun bu=>?_))
   ·
    have fP:bg = aE:=by simpa using bu
    refine wp_exit (E7 (G9 (A4 (D7 [0,1] kz ?_))))
    refine B1 [0,1] [] [(5,.v (.int .u32 (D0 l))),ag,aa,ab,(19,.v (.int .i64 (IntKind.i64.wrap (((k:Nat):Int) + 1))))] ax bt fun gK dE=>?_
    refine B5 (A4 ?_)
    obtain ⟨cd,dF,bw⟩:=ax.cutB dE 0 [] [(5,.v (.int .u32 (D0 l))),ag,aa,ab,(19,.v (.int .i64 (IntKind.i64.wrap (((k:Nat):Int) + 1))))]
    have dG:IntKind.i64.wrap (((k:Nat):Int) + 1) = ((k + 1:Nat):Int):=G8 (by omega)
    rw [dG] at cd
    exact ⟨(u.take 32767).length - (k + 1),by omega,k + 1,A_,c_,out,css,rfl,by omega,(hT.move (((((aj.trans ak).trans ah).trans ai).trans al).trans bw).step immM (((((aj.trans ak).trans ah).trans ai).trans al).trans bw).to'),by rw [Df bf,← hout]; exact (Ll (FT hi hlt (fun _=>by rw [Cs aX]; omega)) (by omega) (by rw [Cs aX]; omega)).symm,by omega,cd.pk,dF,((((((bj.trans aj).trans ak).trans ah).trans ai).trans al).trans bw)⟩
   have fQ:bg ≠ aE:=by simpa using bu
   refine wp_skip (A4 (C0 [0,1,2,3,4] kz ?_))
   refine B1 [0,1] [2,3,4] [(5,.v (.int .u32 (D0 l))),ae,af,aa,ab,ac,(59,.v (.slice A_ out.length c_)),bT] ax bt fun gL dH=>?_
   refine Bz ax dH (k:=0) (e:=66) (size:=2) (len:=1) (cs:=[ao,ap]) (d1:=61) (d:=62) kz (t:=24) (bytes:=32) kz (fun _=>by kernel_rfl) rfl kz (by omega) fun ar aA gM gN au bx ⟨_,dI⟩=>?_
   let aH:Nat × SV:=(6,.v (.slice ar (out.length + 1) aA))
   refine B1 [4] [] [(5,.v (.int .u32 (D0 l))),aH,ae,af,aa,ab,ac] bx dI fun gO dJ=>?_
   refine B5 (A4 ?_)
   refine wp_seq (B7 [(5,.v (.int .u32 (D0 l))),aH,ae,af,(10,.v (.int .i64 (IntKind.i64.wrap (((out.length + 1:Nat):Int) - 1)))),aa,ab,ac] bx dJ fun gP ce=>?_)
   refine wp_block ?_
   have hcl0:=(hT.move (((((aj.trans ak).trans ah).trans ai).trans al).trans au).step immM (((((aj.trans ak).trans ah).trans ai).trans al).trans au).to').len
   have dK:(⟨ar,aA,66,2,out.length + 1,css.flatten ++ [.int .u32 0,.slice none 0 0]⟩:Rw) = ⟨ar,aA,66,2,out.length + 1,(J0 css [.int .u32 0,.slice none 0 0] out.length).flatten⟩:=by rw [Ic hcl0]
   obtain ⟨cm,aB⟩:=bx.rowEq 0 [⟨ar,aA,66,2,out.length + 1,(J0 css [ao,ap] out.length).flatten⟩] dK
   have dL:IntKind.i64.wrap (((out.length + 1:Nat):Int) - 1) = ((out.length:Nat):Int):=by rw [wrap_i64 (by omega) (by omega)]; omega
   simp only [aK,dL] at ce
   refine wp_loop_ghost (fun n_ a_ w_=>∃ (j:Nat),n_ = j ∧ (i ≤ j) ∧ (j ≤ out.length) ∧ F9 cm 85 [bk] [⟨ar,aA,66,2,out.length + 1,(J0 css [ao,ap] j).flatten⟩] [(5,.v (.int .u32 (D0 l))),aH,ae,af,(10,.v (.int .i64 ((j:Nat):Int))),aa,ab,ac] a_ w_) (out.length) ⟨out.length,rfl,hi,Nat.le_refl _,ce.pk,cm,Fr.refl _ _ _⟩ ?_
   rintro gQ gR gS ⟨j,fR,hij,hjl,dM,aL,ay⟩
   refine wp_seq (B7 [(5,.v (.int .u32 (D0 l))),aH,ae,af,(10,.v (.int .i64 ((j:Nat):Int))),aa,ab,ac,(68,.v (.bool (decide (((j:Nat):Int) > ((i:Nat):Int)))))] aL dM fun gT bz=>?_)
   refine D4 bz (b:=decide (((j:Nat):Int) > ((i:Nat):Int))) kz (fun bA=>?_) (fun bA=>?_)
   ·
    have fS:=of_decide_eq_true bA
    refine wp_skip (A4 (wp_seq (wp_block (D7 [0,1,2,3,4,5,6,7,8] kz ?_))))
    refine B1 [0,1,2,3,4] [5,6,7,8] [(5,.v (.int .u32 (D0 l))),aH,ae,af,(10,.v (.int .i64 ((j:Nat):Int))),aa,ab,ac,(71,.v (.slice ar (out.length + 1) aA)),(72,.v (.int .i64 ((j:Nat):Int))),(73,.v (.slice ar (out.length + 1) aA)),(75,.v (.int .i64 (IntKind.i64.wrap (((j:Nat):Int) - 1))))] aL bz fun gU dN=>?_
    obtain ⟨dO,cq⟩:=P8 (aL.own 0 _ rfl) (show 0 < out.length + 1 by omega)
    obtain ⟨⟨bQ,dP⟩,dQ⟩:∃ x,out[j - 1]? = some x:=⟨_,List.getElem?_eq_getElem (by omega)⟩
    obtain ⟨dR,dS,cr,fT,gV,gW⟩:=TagsE.get2 (hT.move (((((((aj.trans ak).trans ah).trans ai).trans al).trans au).trans aB).trans ay).step immM (((((((aj.trans ak).trans ah).trans ai).trans al).trans au).trans aB).trans ay).to') dQ
    have da:=Ea (aL.own 0 _ rfl) cq (Ee (Ef (hT.move (((((((aj.trans ak).trans ah).trans ai).trans al).trans au).trans aB).trans ay).step immM (((((((aj.trans ak).trans ah).trans ai).trans al).trans au).trans aB).trans ay).to').two rfl j) (HZ (show j - 1 < j by omega) cr))
    refine B2 (G6 dN (t:=24) (A:=ar) (m:=(out.length + 1)) (q:=(IntKind.i64.wrap (((j:Nat):Int) - 1))) (d:=76) kz (e:=66) (size:=2) (bytes:=32) kz (b:=dO) (o:=0) (j:=(j - 1)) cq (by rw [wrap_i64 (by omega) (by omega)]; omega) (by omega) fun gX dT=>?_)
    let bB:Value:=.slice dR dP.length dS
    refine B2 (K3 dT (t:=66) (b:=dO) (o:=0 + (j - 1) * 2) (d:=77) kz (cs:=[.int .u32 bQ,bB]) (v:=.agg #[.int .u32 bQ,bB]) kz da fun gY dU=>?_)
    obtain ⟨dV,cu⟩:=P8 (aL.own 0 _ rfl) (show 0 < out.length + 1 by omega)
    refine B2 (G6 dU (t:=24) (A:=ar) (m:=(out.length + 1)) (q:=((j:Nat):Int)) (d:=78) kz (e:=66) (size:=2) (bytes:=32) kz (b:=dV) (o:=0) (j:=j) cu (rfl) (by omega) fun gZ dW=>?_)
    refine B2 (U3 aL dW (k:=0) (g:=dV) (o:=j * 2) (c:=aA) (m:=(out.length + 1)) (size:=2) (e:=66) (A:=ar) (xs:=((J0 css [ao,ap] j).flatten)) (vs:=[.int .u32 bQ,bB]) kz rfl cu (by simp only [List.length_cons,List.length_nil]; omega) fun hC bC cw dX=>?_)
    refine B5 (F2 (A4 (D7 [0,1,2] kz ?_)))
    refine B1 [0,1,2] [] [(5,.v (.int .u32 (D0 l))),aH,ae,af,(10,.v (.int .i64 (IntKind.i64.wrap (((j:Nat):Int) - 1)))),aa,ab,ac] cw dX fun hJ cz=>?_
    refine B5 (A4 ?_)
    have dY:(⟨ar,aA,66,2,out.length + 1,H8 ((J0 css [.int .u32 0,.slice none 0 0] j).flatten) (j * 2) [.int .u32 bQ,.slice dR dP.length dS]⟩:Rw) = ⟨ar,aA,66,2,out.length + 1,(J0 css [.int .u32 0,.slice none 0 0] (j - 1)).flatten⟩:=by rw [Ia (hT.move ((((((((aj.trans ak).trans ah).trans ai).trans al).trans au).trans aB).trans ay).trans bC).step immM ((((((((aj.trans ak).trans ah).trans ai).trans al).trans au).trans aB).trans ay).trans bC).to').two rfl (by omega) (by omega) cr]
    obtain ⟨dZ,d4⟩:=cw.rowEq 0 [⟨ar,aA,66,2,out.length + 1,(J0 css [ao,ap] (j - 1)).flatten⟩] dY
    have d5:IntKind.i64.wrap (((j:Nat):Int) - 1) = ((j - 1:Nat):Int):=by rw [wrap_i64 (by omega) (by omega)]; omega
    rw [d5] at cz
    exact ⟨(j - 1),by omega,(j - 1),rfl,by omega,by omega,cz.pk,dZ,((ay.trans bC).trans d4)⟩
   have fU:=of_decide_eq_false bA
   refine wp_exit (E7 (E7 (G9 (A4 (D7 [0,1,2,3,4] kz ?_)))))
   refine B1 [0,1,2] [3,4] [(5,.v (.int .u32 (D0 l))),aH,aa,ab,ac,(79,.v (.slice ar (out.length + 1) aA)),bU,bV] aL bz fun hK d6=>?_
   have hji:j = i:=by omega
   have d7:(⟨ar,aA,66,2,out.length + 1,(J0 css [.int .u32 0,.slice none 0 0] j).flatten⟩:Rw) = ⟨ar,aA,66,2,out.length + 1,(J0 css [.int .u32 0,.slice none 0 0] i).flatten⟩:=by rw [hji]
   obtain ⟨cA,aP⟩:=aL.rowEq 0 [⟨ar,aA,66,2,out.length + 1,(J0 css [ao,ap] i).flatten⟩] d7
   obtain ⟨d8,cB⟩:=P8 (cA.own 0 _ rfl) (show 0 < out.length + 1 by omega)
   refine B2 (G6 d6 (t:=24) (A:=ar) (m:=(out.length + 1)) (q:=((i:Nat):Int)) (d:=82) kz (e:=66) (size:=2) (bytes:=32) kz (b:=d8) (o:=0) (j:=i) cB (rfl) (by omega) fun hZ d9=>?_)
   refine B2 (U3 cA d9 (k:=0) (g:=d8) (o:=i * 2) (c:=aA) (m:=(out.length + 1)) (size:=2) (e:=66) (A:=ar) (xs:=((J0 css [ao,ap] i).flatten)) (vs:=[aF,aG]) kz rfl cB (by simp only [List.length_cons,List.length_nil]; omega) fun ia aQ cC ea=>?_)
   refine B5 (F2 (A4 (D7 [0,1] kz ?_)))
   refine B1 [0,1] [] [(5,.v (.int .u32 (D0 l))),aH,aa,ab,(19,.v (.int .i64 (IntKind.i64.wrap (((k:Nat):Int) + 1))))] cC ea fun ib eb=>?_
   refine B5 (A4 ?_)
   obtain ⟨bD,ec,aR⟩:=cC.cutB eb 0 [] [(5,.v (.int .u32 (D0 l))),aH,aa,ab,(19,.v (.int .i64 (IntKind.i64.wrap (((k:Nat):Int) + 1))))]
   have hcl:=(hT.move ((((((((((aj.trans ak).trans ah).trans ai).trans al).trans au).trans aB).trans ay).trans aP).trans aQ).trans aR).step immM ((((((((((aj.trans ak).trans ah).trans ai).trans al).trans au).trans aB).trans ay).trans aP).trans aQ).trans aR).to').len
   have ee:(⟨ar,aA,66,2,out.length + 1,H8 ((J0 css [.int .u32 0,.slice none 0 0] i).flatten) (i * 2) [.int .u32 aE,.slice cV aV.length cW]⟩:Rw) = ⟨ar,aA,66,2,(out.take i ++ (aE,aV) :: out.drop i).length,(css.take i ++ [.int .u32 aE,.slice cV aV.length cW] :: css.drop i).flatten⟩:=by rw [Ib (hT.move ((((((((((aj.trans ak).trans ah).trans ai).trans al).trans au).trans aB).trans ay).trans aP).trans aQ).trans aR).step immM ((((((((((aj.trans ak).trans ah).trans ai).trans al).trans au).trans aB).trans ay).trans aP).trans aQ).trans aR).to').two rfl (by omega) rfl,Cr (aE,aV) hi]
   obtain ⟨bE,bF⟩:=ec.rowEq 0 [⟨ar,aA,66,2,(out.take i ++ (aE,aV) :: out.drop i).length,(css.take i ++ [aF,aG] :: css.drop i).flatten⟩] ee
   have ef:IntKind.i64.wrap (((k:Nat):Int) + 1) = ((k + 1:Nat):Int):=G8 (by omega)
   rw [ef] at bD
   have eg:out.length + 1 = (out.take i ++ (aE,aV) :: out.drop i).length:=Cr (aE,aV) hi
   simp only [aH,eg] at bD
   exact ⟨(u.take 32767).length - (k + 1),by omega,k + 1,ar,aA,(out.take i ++ (aE,aV) :: out.drop i),(css.take i ++ [aF,aG] :: css.drop i),rfl,by omega,(hT.move (((((((((((aj.trans ak).trans ah).trans ai).trans al).trans au).trans aB).trans ay).trans aP).trans aQ).trans aR).trans bF).step immM (((((((((((aj.trans ak).trans ah).trans ai).trans al).trans au).trans aB).trans ay).trans aP).trans aQ).trans aR).trans bF).to').ins ⟨⟨cV,cW,rfl,(df.move bE.step A7 bE.imm)⟩,fI,fJ⟩ hi,by rw [Df bf,← hout]; exact (Ig (FT hi hlt (fun _=>by first | (rw [Cs bP]; omega) | (rw [Cs aX]; omega))) ‹_› (fun _=>by first | (rw [Cs bP]; omega) | (rw [Cs aX]; omega))).symm,by rw [← Cr (aE,aV) hi]; omega,bD.pk,bE,((((((((((((bj.trans aj).trans ak).trans ah).trans ai).trans al).trans au).trans aB).trans ay).trans aP).trans aQ).trans aR).trans bF)⟩
  have fV:=of_decide_eq_false aZ
  have eh:=dg.cast (env':=[(5,.v (.int .u32 (D0 l))),ag,ae,af,aa,ab,ac,(27,.v (.bool false))]) (by simp only [aK,aZ]; try rfl)
  refine C7 [5,6,7,8,9,10,11,12,13] [(5,.v (.int .u32 (D0 l))),ag,ae,af,aa,ab,ac,(36,.v (.bool false))] 0 (A5 (A5 (A5 (B6 (A5 (B6 (A5 (A5 (B6 (A5 B8)))))))))) (fun _ h=>h ▸ aO.cells) rfl eh fun ic cD=>?_
  refine E5 kz ?_ _
  refine A4 (E6 cD (b:=false) kz rfl ?_)
  refine wp_exit (E7 (E7 (G9 (A4 (wp_seq (Bc kz aO fun ig am aM=>?_))))))
  refine C7 [0,1,2,3,4] [(5,.v (.int .u32 (D0 l))),ag,ae,af,aa,ab,ac,(43,.v (.bool (decide (aE < (D0 l)))))] 15 (A5 (A5 (B6 (A5 (A5 (B6 (A5 B8))))))) (fun _ h=>h ▸ aM.cells) rfl cD fun ii cE=>?_
  refine (Bool.eq_false_or_eq_true (decide (aE < (D0 l)))).elim (fun aY=>?_) (fun aY=>?_)
  ·
   have fW:=of_decide_eq_true aY
   have ei:=cE
   rw [aY] at ei
   refine C7 [5,6,7,8,9,10,11,12,13,14,15,16,17,18,19] [(5,.v (.int .u32 (D0 l))),ag,ae,af,aa,ab,ac,(58,.v (.bool true))] 0 (A5 (A5 (B6 (A5 (A5 (B6 (A5 B8))))))) (fun _ h=>h ▸ aM.cells) rfl ei fun ij cG=>?_
   refine E5 kz ?_ _
   refine A4 (I7 cG (b:=true) kz rfl ?_)
   refine wp_exit (E7 (G9 (A4 (D7 [0,1] kz ?_))))
   refine B1 [0,1] [] [(5,.v (.int .u32 (D0 l))),ag,aa,ab,(19,.v (.int .i64 (IntKind.i64.wrap (((k:Nat):Int) + 1))))] aM cG fun ik ej=>?_
   refine B5 (A4 ?_)
   obtain ⟨cH,ek,bG⟩:=aM.cutB ej 0 [] [(5,.v (.int .u32 (D0 l))),ag,aa,ab,(19,.v (.int .i64 (IntKind.i64.wrap (((k:Nat):Int) + 1))))]
   have em:IntKind.i64.wrap (((k:Nat):Int) + 1) = ((k + 1:Nat):Int):=G8 (by omega)
   rw [em] at cH
   exact ⟨(u.take 32767).length - (k + 1),by omega,k + 1,A_,c_,out,css,rfl,by omega,(hT.move (((((aj.trans ak).trans ah).trans ai).trans am).trans bG).step immM (((((aj.trans ak).trans ah).trans ai).trans am).trans bG).to'),by rw [Df bf,← hout]; exact (If ‹_›).symm,by omega,cH.pk,ek,((((((bj.trans aj).trans ak).trans ah).trans ai).trans am).trans bG)⟩
  have fX:=of_decide_eq_false aY
  have eo:=cE
  rw [aY] at eo
  refine C7 [5,6,7,8,9] [(5,.v (.int .u32 (D0 l))),ag,ae,af,aa,ab,ac,aJ,aK] 10 (A5 (A5 (B6 (A5 (A5 (B6 (A5 B8))))))) (fun _ h=>h ▸ aM.cells) rfl eo fun il ep=>?_
  have eu:(decide (((i:Nat):Int) < ((out.length:Nat):Int))) = false:=aZ
  have ev:=ep.cast (env':=[(5,.v (.int .u32 (D0 l))),ag,ae,af,aa,ab,ac,aJ,(48,.v (.bool false))]) (by simp only [aK,eu]; try rfl)
  refine C7 [10,11,12,13,14,15,16,17,18,19] [(5,.v (.int .u32 (D0 l))),ag,ae,af,aa,ab,ac,(58,.v (.bool false))] 0 (A5 (A5 (B6 (A5 (A5 (B6 (A5 B8))))))) (fun _ h=>h ▸ aM.cells) rfl ev fun im cI=>?_
  refine E5 kz ?_ _
  refine A4 (E6 cI (b:=false) kz rfl ?_)
  refine wp_skip (A4 (C0 [0,1,2,3,4] kz ?_))
  refine B1 [0,1] [2,3,4] [(5,.v (.int .u32 (D0 l))),ae,af,aa,ab,ac,(59,.v (.slice A_ out.length c_)),bT] aM cI fun io ew=>?_
  refine Bz aM ew (k:=0) (e:=66) (size:=2) (len:=1) (cs:=[ao,ap]) (d1:=61) (d:=62) kz (t:=24) (bytes:=32) kz (fun _=>by kernel_rfl) rfl kz (by omega) fun av aC ip iq aw bH ⟨_,ey⟩=>?_
  let aI:Nat × SV:=(6,.v (.slice av (out.length + 1) aC))
  refine B1 [4] [] [(5,.v (.int .u32 (D0 l))),aI,ae,af,aa,ab,ac] bH ey fun ir ez=>?_
  refine B5 (A4 ?_)
  refine wp_seq (B7 [(5,.v (.int .u32 (D0 l))),aI,ae,af,(10,.v (.int .i64 (IntKind.i64.wrap (((out.length + 1:Nat):Int) - 1)))),aa,ab,ac] bH ez fun iu cJ=>?_)
  refine wp_block ?_
  have hcl0:=(hT.move (((((aj.trans ak).trans ah).trans ai).trans am).trans aw).step immM (((((aj.trans ak).trans ah).trans ai).trans am).trans aw).to').len
  have eB:(⟨av,aC,66,2,out.length + 1,css.flatten ++ [.int .u32 0,.slice none 0 0]⟩:Rw) = ⟨av,aC,66,2,out.length + 1,(J0 css [.int .u32 0,.slice none 0 0] out.length).flatten⟩:=by rw [Ic hcl0]
  obtain ⟨cK,aD⟩:=bH.rowEq 0 [⟨av,aC,66,2,out.length + 1,(J0 css [ao,ap] out.length).flatten⟩] eB
  have eC:IntKind.i64.wrap (((out.length + 1:Nat):Int) - 1) = ((out.length:Nat):Int):=by rw [wrap_i64 (by omega) (by omega)]; omega
  simp only [aK,eC] at cJ
  refine wp_loop_ghost (fun n_ a_ w_=>∃ (j:Nat),n_ = j ∧ (i ≤ j) ∧ (j ≤ out.length) ∧ F9 cK 85 [bk] [⟨av,aC,66,2,out.length + 1,(J0 css [ao,ap] j).flatten⟩] [(5,.v (.int .u32 (D0 l))),aI,ae,af,(10,.v (.int .i64 ((j:Nat):Int))),aa,ab,ac] a_ w_) (out.length) ⟨out.length,rfl,hi,Nat.le_refl _,cJ.pk,cK,Fr.refl _ _ _⟩ ?_
  rintro iv iw ix ⟨j,fY,hij,hjl,eD,aN,az⟩
  refine wp_seq (B7 [(5,.v (.int .u32 (D0 l))),aI,ae,af,(10,.v (.int .i64 ((j:Nat):Int))),aa,ab,ac,(68,.v (.bool (decide (((j:Nat):Int) > ((i:Nat):Int)))))] aN eD fun iy bI=>?_)
  refine D4 bI (b:=decide (((j:Nat):Int) > ((i:Nat):Int))) kz (fun bJ=>?_) (fun bJ=>?_)
  ·
   have fZ:=of_decide_eq_true bJ
   refine wp_skip (A4 (wp_seq (wp_block (D7 [0,1,2,3,4,5,6,7,8] kz ?_))))
   refine B1 [0,1,2,3,4] [5,6,7,8] [(5,.v (.int .u32 (D0 l))),aI,ae,af,(10,.v (.int .i64 ((j:Nat):Int))),aa,ab,ac,(71,.v (.slice av (out.length + 1) aC)),(72,.v (.int .i64 ((j:Nat):Int))),(73,.v (.slice av (out.length + 1) aC)),(75,.v (.int .i64 (IntKind.i64.wrap (((j:Nat):Int) - 1))))] aN bI fun iz eE=>?_
   obtain ⟨eF,cL⟩:=P8 (aN.own 0 _ rfl) (show 0 < out.length + 1 by omega)
   obtain ⟨⟨bR,eG⟩,eH⟩:∃ x,out[j - 1]? = some x:=⟨_,List.getElem?_eq_getElem (by omega)⟩
   obtain ⟨eI,eJ,cM,f5,iA,iB⟩:=TagsE.get2 (hT.move (((((((aj.trans ak).trans ah).trans ai).trans am).trans aw).trans aD).trans az).step immM (((((((aj.trans ak).trans ah).trans ai).trans am).trans aw).trans aD).trans az).to') eH
   have db:=Ea (aN.own 0 _ rfl) cL (Ee (Ef (hT.move (((((((aj.trans ak).trans ah).trans ai).trans am).trans aw).trans aD).trans az).step immM (((((((aj.trans ak).trans ah).trans ai).trans am).trans aw).trans aD).trans az).to').two rfl j) (HZ (show j - 1 < j by omega) cM))
   refine B2 (G6 eE (t:=24) (A:=av) (m:=(out.length + 1)) (q:=(IntKind.i64.wrap (((j:Nat):Int) - 1))) (d:=76) kz (e:=66) (size:=2) (bytes:=32) kz (b:=eF) (o:=0) (j:=(j - 1)) cL (by rw [wrap_i64 (by omega) (by omega)]; omega) (by omega) fun iC eK=>?_)
   let bK:Value:=.slice eI eG.length eJ
   refine B2 (K3 eK (t:=66) (b:=eF) (o:=0 + (j - 1) * 2) (d:=77) kz (cs:=[.int .u32 bR,bK]) (v:=.agg #[.int .u32 bR,bK]) kz db fun iD eL=>?_)
   obtain ⟨eM,cN⟩:=P8 (aN.own 0 _ rfl) (show 0 < out.length + 1 by omega)
   refine B2 (G6 eL (t:=24) (A:=av) (m:=(out.length + 1)) (q:=((j:Nat):Int)) (d:=78) kz (e:=66) (size:=2) (bytes:=32) kz (b:=eM) (o:=0) (j:=j) cN (rfl) (by omega) fun iE eN=>?_)
   refine B2 (U3 aN eN (k:=0) (g:=eM) (o:=j * 2) (c:=aC) (m:=(out.length + 1)) (size:=2) (e:=66) (A:=av) (xs:=((J0 css [ao,ap] j).flatten)) (vs:=[.int .u32 bR,bK]) kz rfl cN (by simp only [List.length_cons,List.length_nil]; omega) fun iF bL cO eO=>?_)
   refine B5 (F2 (A4 (D7 [0,1,2] kz ?_)))
   refine B1 [0,1,2] [] [(5,.v (.int .u32 (D0 l))),aI,ae,af,(10,.v (.int .i64 (IntKind.i64.wrap (((j:Nat):Int) - 1)))),aa,ab,ac] cO eO fun iG cP=>?_
   refine B5 (A4 ?_)
   have eP:(⟨av,aC,66,2,out.length + 1,H8 ((J0 css [.int .u32 0,.slice none 0 0] j).flatten) (j * 2) [.int .u32 bR,.slice eI eG.length eJ]⟩:Rw) = ⟨av,aC,66,2,out.length + 1,(J0 css [.int .u32 0,.slice none 0 0] (j - 1)).flatten⟩:=by rw [Ia (hT.move ((((((((aj.trans ak).trans ah).trans ai).trans am).trans aw).trans aD).trans az).trans bL).step immM ((((((((aj.trans ak).trans ah).trans ai).trans am).trans aw).trans aD).trans az).trans bL).to').two rfl (by omega) (by omega) cM]
   obtain ⟨eQ,eR⟩:=cO.rowEq 0 [⟨av,aC,66,2,out.length + 1,(J0 css [ao,ap] (j - 1)).flatten⟩] eP
   have eS:IntKind.i64.wrap (((j:Nat):Int) - 1) = ((j - 1:Nat):Int):=by rw [wrap_i64 (by omega) (by omega)]; omega
   rw [eS] at cP
   exact ⟨(j - 1),by omega,(j - 1),rfl,by omega,by omega,cP.pk,eQ,((az.trans bL).trans eR)⟩
  have f7:=of_decide_eq_false bJ
  refine wp_exit (E7 (E7 (G9 (A4 (D7 [0,1,2,3,4] kz ?_)))))
  refine B1 [0,1,2] [3,4] [(5,.v (.int .u32 (D0 l))),aI,aa,ab,ac,(79,.v (.slice av (out.length + 1) aC)),bU,bV] aN bI fun iH eU=>?_
  have hji:j = i:=by omega
  have eV:(⟨av,aC,66,2,out.length + 1,(J0 css [.int .u32 0,.slice none 0 0] j).flatten⟩:Rw) = ⟨av,aC,66,2,out.length + 1,(J0 css [.int .u32 0,.slice none 0 0] i).flatten⟩:=by rw [hji]
  obtain ⟨cQ,aS⟩:=aN.rowEq 0 [⟨av,aC,66,2,out.length + 1,(J0 css [ao,ap] i).flatten⟩] eV
  obtain ⟨eW,cR⟩:=P8 (cQ.own 0 _ rfl) (show 0 < out.length + 1 by omega)
  refine B2 (G6 eU (t:=24) (A:=av) (m:=(out.length + 1)) (q:=((i:Nat):Int)) (d:=82) kz (e:=66) (size:=2) (bytes:=32) kz (b:=eW) (o:=0) (j:=i) cR (rfl) (by omega) fun iI eX=>?_)
  refine B2 (U3 cQ eX (k:=0) (g:=eW) (o:=i * 2) (c:=aC) (m:=(out.length + 1)) (size:=2) (e:=66) (A:=av) (xs:=((J0 css [ao,ap] i).flatten)) (vs:=[aF,aG]) kz rfl cR (by simp only [List.length_cons,List.length_nil]; omega) fun iJ aT cS eY=>?_)
  refine B5 (F2 (A4 (D7 [0,1] kz ?_)))
  refine B1 [0,1] [] [(5,.v (.int .u32 (D0 l))),aI,aa,ab,(19,.v (.int .i64 (IntKind.i64.wrap (((k:Nat):Int) + 1))))] cS eY fun iK eZ=>?_
  refine B5 (A4 ?_)
  obtain ⟨bM,e9,aU⟩:=cS.cutB eZ 0 [] [(5,.v (.int .u32 (D0 l))),aI,aa,ab,(19,.v (.int .i64 (IntKind.i64.wrap (((k:Nat):Int) + 1))))]
  have hcl:=(hT.move ((((((((((aj.trans ak).trans ah).trans ai).trans am).trans aw).trans aD).trans az).trans aS).trans aT).trans aU).step immM ((((((((((aj.trans ak).trans ah).trans ai).trans am).trans aw).trans aD).trans az).trans aS).trans aT).trans aU).to').len
  have fb:(⟨av,aC,66,2,out.length + 1,H8 ((J0 css [.int .u32 0,.slice none 0 0] i).flatten) (i * 2) [.int .u32 aE,.slice cV aV.length cW]⟩:Rw) = ⟨av,aC,66,2,(out.take i ++ (aE,aV) :: out.drop i).length,(css.take i ++ [.int .u32 aE,.slice cV aV.length cW] :: css.drop i).flatten⟩:=by rw [Ib (hT.move ((((((((((aj.trans ak).trans ah).trans ai).trans am).trans aw).trans aD).trans az).trans aS).trans aT).trans aU).step immM ((((((((((aj.trans ak).trans ah).trans ai).trans am).trans aw).trans aD).trans az).trans aS).trans aT).trans aU).to').two rfl (by omega) rfl,Cr (aE,aV) hi]
  obtain ⟨bN,bO⟩:=e9.rowEq 0 [⟨av,aC,66,2,(out.take i ++ (aE,aV) :: out.drop i).length,(css.take i ++ [aF,aG] :: css.drop i).flatten⟩] fb
  have fe:IntKind.i64.wrap (((k:Nat):Int) + 1) = ((k + 1:Nat):Int):=G8 (by omega)
  rw [fe] at bM
  have ff:out.length + 1 = (out.take i ++ (aE,aV) :: out.drop i).length:=Cr (aE,aV) hi
  simp only [aI,ff] at bM
  exact ⟨(u.take 32767).length - (k + 1),by omega,k + 1,av,aC,(out.take i ++ (aE,aV) :: out.drop i),(css.take i ++ [aF,aG] :: css.drop i),rfl,by omega,(hT.move (((((((((((aj.trans ak).trans ah).trans ai).trans am).trans aw).trans aD).trans az).trans aS).trans aT).trans aU).trans bO).step immM (((((((((((aj.trans ak).trans ah).trans ai).trans am).trans aw).trans aD).trans az).trans aS).trans aT).trans aU).trans bO).to').ins ⟨⟨cV,cW,rfl,(df.move bN.step A7 bN.imm)⟩,fI,fJ⟩ hi,by rw [Df bf,← hout]; exact (Ig (FT hi hlt (fun h_=>absurd h_ (by omega))) ‹_› (fun h_=>absurd h_ (by omega))).symm,by rw [← Cr (aE,aV) hi]; omega,bM.pk,bN,((((((((((((bj.trans aj).trans ak).trans ah).trans ai).trans am).trans aw).trans aD).trans az).trans aS).trans aT).trans aU).trans bO)⟩
 have f8:=of_decide_eq_false cU
 refine wp_exit (E7 (E7 (G9 (A4 (B7 [(4,.v (.slice A_ out.length c_))] bd cT fun iL fg=>?_)))))
 refine wp_ret (C8 fg bd.cells (v:=.slice A_ out.length c_) kz ?_)
 exact Lp bd (k:=0) rfl rfl rfl hT (by omega) (by rw [hout,List.take_of_length_le (by omega)]; rfl)
def Ji (d:Nat):Prop:=∀ (cf:List Value) (f:Fld) (ct:List Value) (t:Tree) (w:World) (F:Nat → Nat → Prop),FldR w F cf f → f.depth ≤ d → TreeR w F ct t →
  Calls Tryz.prog 25 #[.agg cf.toArray,.agg ct.toArray] w (L5 w (.bool (f.usual t)))
theorem Mi {d:Nat} (hu:Ji d) (cf:List Value) (f:Fld) (ct:List Value) (t:Tree) (w:World) (F:Nat → Nat → Prop) (hf:FldR w F cf f) (hd:f.depth ≤ d + 1) (ht:TreeR w F ct t) :
  Calls Tryz.prog 25 #[.agg cf.toArray,.agg ct.toArray] w (L5 w (.bool (f.usual t))):=by
 obtain ⟨k1,y2,y3,y4,y5,y6,y7,l8,A9,d6,d7,rfl,rfl,d8,eR⟩:=hf.open_
 have eS:=d8.small
 obtain ⟨aJ,ak,aS,cw,bP,d9,eU,fO,fP,eV,eW,fQ,rfl,rfl,eX,fR,ix,fS⟩:=ht.open_
 have eY:=eX.small
 have eZ:=fR.small
 refine enter (n:=91) Tryz.func25 rfl Tryz.ntmps25 kz fun a hE=>?_
 have hW:=WOk.start w C1
 refine C0 [0,1,2] kz ?_
 let aT:Value:=.slice A9 l8.length d6
 refine B2 (K9 hW hE (d:=2) (cs:=(z7 k1 y2 y3 y4 y5 y6 y7 aT)) kz fun fT iy iz fU fV fW ea eb=>?_)
 let aB:Value:=.int .i64 aJ
 let aK:Value:=.slice d9 ak.length eU
 let aL:Value:=.slice fO cw.length fP
 let aC:Value:=.slice eV bP.length eW
 refine B2 (K9 ea eb (d:=3) (cs:=[aB,aK,.bool aS,aL,aC]) kz fun fX iA iB fY fZ f5 aa ec=>?_)
 let ac:Nat × SV:=(2,.p 0 0)
 let ab:Nat × SV:=(3,.p 1 0)
 refine B1 [2] [] [ac,ab] aa ec fun iC ee=>?_
 refine B5 (A4 ?_)
 refine wp_seq ?_
 let ao:Nat × SV:=(10,.v (.int .i64 k1))
 refine B7 [ac,ab,ao] aa ee fun iD ef=>?_
 refine wp_block (B7 [ac,ab,ao,(11,.v (.bool (k1 == 0)))] aa ef fun iE cz=>?_)
 refine D4 cz (b:=k1 == 0) kz (fun cA=>?_) (fun cA=>?_)
 ·
  have f7:k1 = 0:=by simpa using cA
  refine B7 [(4,.v (.bool ((IntKind.i64.wrap (BitVec.ofInt 64 aJ &&& BitVec.ofInt 64 1).toNat) == y6)))] aa cz fun iF eg=>?_
  refine wp_ret (F3 (D6 (C8 eg aa.cells (v:=.bool ((IntKind.i64.wrap (BitVec.ofInt 64 aJ &&& BitVec.ofInt 64 1).toNat) == y6)) kz ?_)))
  refine ⟨congrArg (fun b_=>Ending.returned (Value.bool b_)) ?_,aa.step⟩
  first
   | (rw [U4 ‹_›]; simp only [H0]; done)
   | (rw [N3 ‹_› ‹_›]; exact U9 hz (by omega); done)
   | (rw [N3 ‹_› ‹_›]; exact V0 (k:=k) (by omega) (by omega) ‹_›; done)
   | (rw [U5 ‹_› ‹_› (by omega) ‹_›]; done)
   | (rw [U6 ‹_› ‹_› (by omega) ‹_›]; done)
   | (rw [U7 ‹_› ‹_› ‹_› ‹_› ‹_›]; done)
   | (rw [T1 ‹_› ‹_› ‹_› ‹_› ‹_› ‹_›,huu,V1 (by omega),Bool.true_and]; done)
   | (rw [U8 ‹_› ‹_› ‹_› ‹_› ‹_› ‹_›]; done)
 have f8:k1 ≠ 0:=by simpa using cA
 refine B7 [ac,ab,ao,(19,.v (.bool (k1 == 7)))] aa cz fun iG cB=>?_
 let aU:Ob:=⟨fT,0,(z7 k1 y2 y3 y4 y5 y6 y7 aT),true⟩
 let aV:Ob:=⟨fX,0,[aB,aK,.bool aS,aL,aC],true⟩
 refine D4 cB (b:=k1 == 7) kz (fun cC=>?_) (fun cC=>?_)
 ·
  have f9:k1 = 7:=by simpa using cC
  refine wp_seq ?_
  let af:Nat × SV:=(22,.v (.slice d9 ak.length eU))
  let ag:Nat × SV:=(23,.v (.int .i64 ((ak.length:Nat):Int)))
  refine B7 [af,ag,(24,.v (.int .i64 0))] aa cB fun iH eh=>?_
  refine wp_block (wp_loop_ghost (fun n_ a_ w_=>∃ (k:Nat),n_ = ak.length - k ∧ k ≤ ak.length ∧ (∀ q,q < k → q < 16 → (((ak.getD q 0).toNat:Nat):Int) = 0) ∧ F9 aa 91 [aU,aV] [] [af,ag,(24,.v (.int .i64 ((k:Nat):Int)))] a_ w_) (ak.length) ⟨0,by omega,by omega,fun q h_=>absurd h_ (Nat.not_lt_zero q),eh.pk,aa,Fr.refl _ _ _⟩ ?_)
  rintro iI iJ iK ⟨k,ga,gb,hz,ei,ah,cI⟩
  let al:Nat × SV:=(24,.v (.int .i64 ((k:Nat):Int)))
  refine B7 [af,ag,al,(25,.v (.bool (decide (((k:Nat):Int) < ((ak.length:Nat):Int)))))] ah ei fun iL cD=>?_
  refine wp_seq (D4 cD (b:=decide (((k:Nat):Int) < ((ak.length:Nat):Int))) kz (fun cE=>?_) (fun cE=>?_))
  ·
   have gc:=of_decide_eq_true cE
   refine wp_skip (A4 (wp_seq (wp_block (C0 [0,1,2,3,4] kz ?_))))
   refine B1 [0] [1,2,3,4] [af,ag,al,(26,.v (.int .i64 ((k:Nat):Int)))] ah cD fun iM ej=>?_
   obtain ⟨gd,ge,ek,gg,cJ⟩:=Slots.get eX (i:=k) (by omega)
   refine B2 (G6 ej (t:=22) (A:=d9) (m:=ak.length) (q:=((k:Nat):Int)) (d:=27) kz (e:=5) (size:=1) (bytes:=1) kz ek rfl (by omega) fun iN em=>?_)
   refine B2 (K3 em (t:=5) (b:=gd) (o:=ge + k * 1) (d:=28) kz (cs:=[.int .u8 ((ak.getD k 0).toNat:Int)]) (v:=.int .u8 ((ak.getD k 0).toNat:Int)) kz (AtF.move cJ ah.step A7 E8).at_ fun iO eo=>?_)
   let aM:Nat × SV:=(6,.v (.int .u8 ((ak.getD k 0).toNat:Int)))
   refine B1 [3,4] [] [(5,.v (.int .i64 ((k:Nat):Int))),aM,af,ag,al] ah eo fun iP ep=>?_
   refine B5 (A4 ?_)
   refine C0 [0,1,2,3,4,5] kz ?_
   refine B1 [0,1,2] [3,4,5] [aM,af,ag,al,(31,.v (.bool (decide (((k:Nat):Int) < 16))))] ah ep fun iQ cK=>?_
   refine (Bool.eq_false_or_eq_true (decide (((k:Nat):Int) < 16))).elim (fun aW=>?_) (fun aW=>?_)
   ·
    have gh:=of_decide_eq_true aW
    have eu:=cK
    rw [aW] at eu
    refine B1 [3,4,5] [] [af,ag,al,(34,.v (.bool (((ak.getD k 0).toNat:Int) != 0)))] ah eu fun iR aX=>?_
    refine B5 (A4 ?_)
    refine D4 aX (b:=((ak.getD k 0).toNat:Int) != 0) kz (fun aY=>?_) (fun aY=>?_)
    ·
     have e9:((ak.getD k 0).toNat:Int) ≠ 0:=by simpa using aY
     refine B7 [(4,.v (.bool false))] ah aX fun gi cL=>?_
     refine wp_ret (F3 (D6 (D6 (F3 (D6 (F3 (D6 (C8 cL ah.cells (v:=.bool false) kz ?_))))))))
     refine ⟨congrArg (fun b_=>Ending.returned (Value.bool b_)) ?_,ah.step⟩
     first
      | (rw [U4 ‹_›]; simp only [H0]; done)
      | (rw [N3 ‹_› ‹_›]; exact U9 hz (by omega); done)
      | (rw [N3 ‹_› ‹_›]; exact V0 (k:=k) (by omega) (by omega) ‹_›; done)
      | (rw [U5 ‹_› ‹_› (by omega) ‹_›]; done)
      | (rw [U6 ‹_› ‹_› (by omega) ‹_›]; done)
      | (rw [U7 ‹_› ‹_› ‹_› ‹_› ‹_›]; done)
      | (rw [T1 ‹_› ‹_› ‹_› ‹_› ‹_› ‹_›,huu,V1 (by omega),Bool.true_and]; done)
      | (rw [U8 ‹_› ‹_› ‹_› ‹_› ‹_› ‹_›]; done)
    have fb:((ak.getD k 0).toNat:Int) = 0:=by simpa using aY
    refine wp_skip (F2 (A4 (D7 [0,1] kz ?_)))
    refine B1 [0,1] [] [af,ag,(24,.v (.int .i64 (IntKind.i64.wrap (((k:Nat):Int) + 1))))] ah aX fun gj bQ=>?_
    refine B5 (A4 ?_)
    have cM:IntKind.i64.wrap (((k:Nat):Int) + 1) = ((k + 1:Nat):Int):=G8 (by omega)
    rw [cM] at bQ
    exact ⟨ak.length - (k + 1),by omega,k + 1,rfl,by omega,fun q hq cN=>by rcases Nat.lt_succ_iff_lt_or_eq.1 hq with h_ | h_; exact hz q h_ cN; rw [h_] at cN ⊢; first | assumption | omega,bQ.pk,ah,cI⟩
   have fe:=of_decide_eq_false aW
   have cO:=cK
   rw [aW] at cO
   refine B1 [3,4,5] [] [af,ag,al,(34,.v (.bool false))] ah cO fun gk bR=>?_
   refine B5 (A4 ?_)
   refine E6 bR (b:=false) kz rfl ?_
   refine wp_skip (F2 (A4 (D7 [0,1] kz ?_)))
   refine B1 [0,1] [] [af,ag,(24,.v (.int .i64 (IntKind.i64.wrap (((k:Nat):Int) + 1))))] ah bR fun gl bS=>?_
   refine B5 (A4 ?_)
   have cP:IntKind.i64.wrap (((k:Nat):Int) + 1) = ((k + 1:Nat):Int):=G8 (by omega)
   rw [cP] at bS
   exact ⟨ak.length - (k + 1),by omega,k + 1,rfl,by omega,fun q hq cN=>by rcases Nat.lt_succ_iff_lt_or_eq.1 hq with h_ | h_; exact hz q h_ cN; rw [h_] at cN ⊢; first | assumption | omega,bS.pk,ah,cI⟩
  have ff:=of_decide_eq_false cE
  refine wp_exit (E7 (E7 (G9 (A4 (B7 [(4,.v (.bool true))] ah cD fun gm cQ=>?_)))))
  refine wp_ret (F3 (D6 (C8 cQ ah.cells (v:=.bool true) kz ?_)))
  refine ⟨congrArg (fun b_=>Ending.returned (Value.bool b_)) ?_,ah.step⟩
  first
   | (rw [U4 ‹_›]; simp only [H0]; done)
   | (rw [N3 ‹_› ‹_›]; exact U9 hz (by omega); done)
   | (rw [N3 ‹_› ‹_›]; exact V0 (k:=k) (by omega) (by omega) ‹_›; done)
   | (rw [U5 ‹_› ‹_› (by omega) ‹_›]; done)
   | (rw [U6 ‹_› ‹_› (by omega) ‹_›]; done)
   | (rw [U7 ‹_› ‹_› ‹_› ‹_› ‹_›]; done)
   | (rw [T1 ‹_› ‹_› ‹_› ‹_› ‹_› ‹_›,huu,V1 (by omega),Bool.true_and]; done)
   | (rw [U8 ‹_› ‹_› ‹_› ‹_› ‹_› ‹_›]; done)
 have fg:k1 ≠ 7:=by simpa using cC
 refine wp_seq (B7 [ac,ab,ao,(36,.v (.bool (k1 == 8)))] aa cB fun gn aN=>?_)
 let bT:C6:=[ab,(41,.v (.bool (decide (y4 ≥ 0))))]
 let bU:C6:=[(4,.v (.bool (((ak.length:Nat):Int) == 0)))]
 refine D4 aN (b:=k1 == 8) kz (fun aO=>?_) (fun aO=>?_)
 ·
  have fh:k1 = 8:=by simpa using aO
  refine wp_skip (A4 (I7 aN (b:=k1 == 8) kz (aO) ?_))
  refine wp_seq (B7 bT aa aN fun gp aZ=>?_)
  refine D4 aZ (b:=decide (y4 ≥ 0)) kz (fun ba=>?_) (fun ba=>?_)
  ·
   have fi:=of_decide_eq_true ba
   refine B7 [(4,.v (.bool aS))] aa aZ fun gq cR=>?_
   refine wp_ret (D6 (F3 (D6 (C8 cR aa.cells (v:=.bool aS) kz ?_))))
   refine ⟨congrArg (fun b_=>Ending.returned (Value.bool b_)) ?_,aa.step⟩
   first
    | (rw [U4 ‹_›]; simp only [H0]; done)
    | (rw [N3 ‹_› ‹_›]; exact U9 hz (by omega); done)
    | (rw [N3 ‹_› ‹_›]; exact V0 (k:=k) (by omega) (by omega) ‹_›; done)
    | (rw [U5 ‹_› ‹_› (by omega) ‹_›]; done)
    | (rw [U6 ‹_› ‹_› (by omega) ‹_›]; done)
    | (rw [U7 ‹_› ‹_› ‹_› ‹_› ‹_›]; done)
    | (rw [T1 ‹_› ‹_› ‹_› ‹_› ‹_› ‹_›,huu,V1 (by omega),Bool.true_and]; done)
    | (rw [U8 ‹_› ‹_› ‹_› ‹_› ‹_› ‹_›]; done)
  have fj:=of_decide_eq_false ba
  refine wp_skip (A4 (B7 bU aa aZ fun gt cS=>?_))
  refine wp_ret (F3 (D6 (C8 cS aa.cells (v:=.bool (((ak.length:Nat):Int) == 0)) kz ?_)))
  refine ⟨congrArg (fun b_=>Ending.returned (Value.bool b_)) ?_,aa.step⟩
  first
   | (rw [U4 ‹_›]; simp only [H0]; done)
   | (rw [N3 ‹_› ‹_›]; exact U9 hz (by omega); done)
   | (rw [N3 ‹_› ‹_›]; exact V0 (k:=k) (by omega) (by omega) ‹_›; done)
   | (rw [U5 ‹_› ‹_› (by omega) ‹_›]; done)
   | (rw [U6 ‹_› ‹_› (by omega) ‹_›]; done)
   | (rw [U7 ‹_› ‹_› ‹_› ‹_› ‹_›]; done)
   | (rw [T1 ‹_› ‹_› ‹_› ‹_› ‹_› ‹_›,huu,V1 (by omega),Bool.true_and]; done)
   | (rw [U8 ‹_› ‹_› ‹_› ‹_› ‹_› ‹_›]; done)
 have fk:k1 ≠ 8:=by simpa using aO
 refine D7 [0,1] kz ?_
 refine B1 [0,1] [] [ac,ab,ao,(36,.v (.bool (k1 == 9)))] aa aN fun gv bd=>?_
 refine B5 (A4 ?_)
 refine D4 bd (b:=k1 == 9) kz (fun bf=>?_) (fun bf=>?_)
 ·
  have fm:k1 = 9:=by simpa using bf
  refine wp_seq (B7 bT aa bd fun gw bg=>?_)
  refine D4 bg (b:=decide (y4 ≥ 0)) kz (fun bh=>?_) (fun bh=>?_)
  ·
   have fo:=of_decide_eq_true bh
   refine B7 [(4,.v (.bool aS))] aa bg fun gx cT=>?_
   refine wp_ret (D6 (F3 (D6 (C8 cT aa.cells (v:=.bool aS) kz ?_))))
   refine ⟨congrArg (fun b_=>Ending.returned (Value.bool b_)) ?_,aa.step⟩
   first
    | (rw [U4 ‹_›]; simp only [H0]; done)
    | (rw [N3 ‹_› ‹_›]; exact U9 hz (by omega); done)
    | (rw [N3 ‹_› ‹_›]; exact V0 (k:=k) (by omega) (by omega) ‹_›; done)
    | (rw [U5 ‹_› ‹_› (by omega) ‹_›]; done)
    | (rw [U6 ‹_› ‹_› (by omega) ‹_›]; done)
    | (rw [U7 ‹_› ‹_› ‹_› ‹_› ‹_›]; done)
    | (rw [T1 ‹_› ‹_› ‹_› ‹_› ‹_› ‹_›,huu,V1 (by omega),Bool.true_and]; done)
    | (rw [U8 ‹_› ‹_› ‹_› ‹_› ‹_› ‹_›]; done)
  have fq:=of_decide_eq_false bh
  refine wp_skip (A4 (B7 bU aa bg fun gy cU=>?_))
  refine wp_ret (F3 (D6 (C8 cU aa.cells (v:=.bool (((ak.length:Nat):Int) == 0)) kz ?_)))
  refine ⟨congrArg (fun b_=>Ending.returned (Value.bool b_)) ?_,aa.step⟩
  first
   | (rw [U4 ‹_›]; simp only [H0]; done)
   | (rw [N3 ‹_› ‹_›]; exact U9 hz (by omega); done)
   | (rw [N3 ‹_› ‹_›]; exact V0 (k:=k) (by omega) (by omega) ‹_›; done)
   | (rw [U5 ‹_› ‹_› (by omega) ‹_›]; done)
   | (rw [U6 ‹_› ‹_› (by omega) ‹_›]; done)
   | (rw [U7 ‹_› ‹_› ‹_› ‹_› ‹_›]; done)
   | (rw [T1 ‹_› ‹_› ‹_› ‹_› ‹_› ‹_›,huu,V1 (by omega),Bool.true_and]; done)
   | (rw [U8 ‹_› ‹_› ‹_› ‹_› ‹_› ‹_›]; done)
 have fr:k1 ≠ 9:=by simpa using bf
 refine B7 [ac,ab,ao,(48,.v (.bool (k1 == 11)))] aa bd fun gz bj=>?_
 refine D4 bj (b:=k1 == 11) kz (fun bk=>?_) (fun bk=>?_)
 ·
  have ft:k1 = 11:=by simpa using bk
  refine B7 [(4,.v (.bool (((cw.length:Nat):Int) == 0)))] aa bj fun gA cV=>?_
  refine wp_ret (F3 (D6 (C8 cV aa.cells (v:=.bool (((cw.length:Nat):Int) == 0)) kz ?_)))
  refine ⟨congrArg (fun b_=>Ending.returned (Value.bool b_)) ?_,aa.step⟩
  first
   | (rw [U4 ‹_›]; simp only [H0]; done)
   | (rw [N3 ‹_› ‹_›]; exact U9 hz (by omega); done)
   | (rw [N3 ‹_› ‹_›]; exact V0 (k:=k) (by omega) (by omega) ‹_›; done)
   | (rw [U5 ‹_› ‹_› (by omega) ‹_›]; done)
   | (rw [U6 ‹_› ‹_› (by omega) ‹_›]; done)
   | (rw [U7 ‹_› ‹_› ‹_› ‹_› ‹_›]; done)
   | (rw [T1 ‹_› ‹_› ‹_› ‹_› ‹_› ‹_›,huu,V1 (by omega),Bool.true_and]; done)
   | (rw [U8 ‹_› ‹_› ‹_› ‹_› ‹_› ‹_›]; done)
 have fv:k1 ≠ 11:=by simpa using bk
 refine B7 [ac,ab,(54,.v (.bool (k1 == 10)))] aa bj fun gB bn=>?_
 refine D4 bn (b:=k1 == 10) kz (fun bo=>?_) (fun bo=>?_)
 ·
  have fw:k1 = 10:=by simpa using bo
  refine wp_seq ?_
  let ai:Nat × SV:=(57,.v (.slice A9 l8.length d6))
  let aj:Nat × SV:=(58,.v (.int .i64 ((l8.length:Nat):Int)))
  refine B7 [ac,ab,ai,aj,(59,.v (.int .i64 0))] aa bn fun gC cW=>?_
  refine wp_block (wp_loop_ghost (fun n_ a_ w_=>∃ (k:Nat),n_ = l8.length - k ∧ k ≤ l8.length ∧ (usuals l8 (Tree.mk aJ ak aS cw bP) 0 = usuals (l8.drop k) (Tree.mk aJ ak aS cw bP) k) ∧ F9 aa 91 [aU,aV] [] [ac,ab,ai,aj,(59,.v (.int .i64 ((k:Nat):Int)))] a_ w_) (l8.length) ⟨0,by omega,by omega,rfl,cW.pk,aa,Fr.refl _ _ _⟩ ?_)
  rintro gD gE gF ⟨k,fx,fy,huu,cX,ae,cY⟩
  let aD:Nat × SV:=(59,.v (.int .i64 ((k:Nat):Int)))
  refine B7 [ac,ab,ai,aj,aD,(60,.v (.bool (decide (((k:Nat):Int) < ((l8.length:Nat):Int)))))] ae cX fun gG bp=>?_
  refine wp_seq (D4 bp (b:=decide (((k:Nat):Int) < ((l8.length:Nat):Int))) kz (fun bq=>?_) (fun bq=>?_))
  ·
   have fz:=of_decide_eq_true bq
   refine wp_skip (A4 (wp_seq (wp_block (C0 [0,1,2,3,4,5] kz ?_))))
   refine B1 [0] [1,2,3,4,5] [ac,ab,ai,aj,aD,(61,.v (.int .i64 ((k:Nat):Int)))] ae bp fun gH cZ=>?_
   obtain ⟨ev,ew,da,fA,bt⟩:=Slots.get d8 (i:=k) (by omega)
   obtain ⟨ey,aP⟩:∃ x,l8[k]? = some x:=⟨_,List.getElem?_eq_getElem (by omega)⟩
   have bu:=eR k ey aP
   obtain ⟨bw,bx,bz,bA,bB,bC,bD,bE,cG,cH,fB,rfl,bF,ez,gI⟩:=bu.open_
   rw [bF] at bu
   have eB:=ez.small
   rw [bF] at bt
   refine B2 (G6 cZ (t:=29) (A:=A9) (m:=l8.length) (q:=((k:Nat):Int)) (d:=62) kz (e:=51) (size:=8) (bytes:=80) kz da rfl (by omega) fun gJ db=>?_)
   let ap:Value:=.int .i64 bw
   let ar:Value:=.int .i64 bx
   let au:Value:=.int .i64 bz
   let av:Value:=.int .i64 bA
   let aw:Value:=.int .i64 bB
   let ax:Value:=.int .i64 bC
   let ay:Value:=.int .i64 bD
   let az:Value:=.slice cG bE.length cH
   let fC:Value:=.agg #[.int .i64 bw,.int .i64 bx,.int .i64 bz,.int .i64 bA,.int .i64 bB,.int .i64 bC,.int .i64 bD,.slice cG bE.length cH]
   refine B2 (K3 db (t:=51) (b:=ev) (o:=ew + k * 8) (d:=63) kz (cs:=[ap,ar,au,av,aw,ax,ay,az]) (v:=.agg #[ap,ar,au,av,aw,ax,ay,az]) kz (AtF.move bt ae.step A7 E8).at_ fun gK dc=>?_)
   let am:Value:=.int .i64 0
   refine B2 (H4 ae dc (d:=8) (cs:=[am,am,am,am,am,am,am,.slice none 0 0]) kz fun gL gM gN fD fE de bV df=>?_)
   let fF:Value:=(.agg #[.int .i64 bw,.int .i64 bx,.int .i64 bz,.int .i64 bA,.int .i64 bB,.int .i64 bC,.int .i64 bD,.slice cG bE.length cH])
   refine B1 [4] [5] [ac,ab,(7,.v (.int .i64 ((k:Nat):Int))),(8,.p 2 0),ai,aj,aD,(63,.v (.agg #[ap,ar,au,av,aw,ax,ay,az]))] bV df fun gO dg=>?_
   refine B2 (D5 bV dg (oi:=2) (cs:=[ap,ar,au,av,aw,ax,ay,az]) kz fun gP dh di dj=>?_)
   refine B5 (A4 ?_)
   refine G0 6 kz di fun gQ dl aE dp=>?_
   refine C7 [0,1,2] [ac,ab,ai,aj,aD,(64,.v (.agg #[ap,ar,au,av,aw,ax,ay,az])),(65,.v (.agg #[aB,aK,.bool aS,aL,aC])),(66,.v (.int .i64 ((k:Nat):Int)))] 3 (A5 (B6 (A5 (A5 (B6 (A5 (B6 (A5 B8)))))))) (fun _ h=>h.cells) dp dj fun gR dq=>?_
   refine C2 (i:=3) kz (D3 dq (f:=23) (vs:=[.agg #[aB,aK,.bool aS,aL,aC],.int .i64 ((k:Nat):Int)]) (d:=67) kz Tryz.call23 (Cx _ _ k _ _ (ht.move aE.step A7 aE.imm)) ?_)
   rintro e_ gS ⟨fG,rfl,dr,aF⟩
   have bG:=dr.move aF A7 (fun b o h_ hb_=>aE.laid (G:=F) aF b o (.inl h_) (Nat.lt_of_lt_of_le hb_ aF.size))
   obtain ⟨eC,eD,eE,eF,eG,eH,eI,eJ,eK,eL,eM,fH,fI,bH,eN,eO,gT,gU⟩:=bG.open_
   rw [bH] at bG
   have eP:=eN.small
   have eQ:=eO.small
   rw [bH]
   refine ⟨_,rfl,fun gV dt=>?_⟩
   have aG:=aE.next_nil aF
   have bI:=aE.frN aF
   have du:=TT.ofW bI aG
   refine ⟨fun _=>du,?_⟩
   refine C2 (i:=4) kz (D3 dt (f:=25) (vs:=[.agg #[ap,ar,au,av,aw,ax,ay,az],.agg #[.int .i64 eC,.slice eH eD.length eI,.bool eE,.slice eJ eF.length eK,.slice eL eG.length eM]]) (d:=68) kz Tryz.call25 ( hu _ _ _ _ _ _ (bu.move aG.step A7 aG.imm) (by have h_:=Eg aP; rw [Eh] at hd; omega) bG) ?_)
   rintro e_ gW ⟨rfl,bW⟩
   refine ⟨_,rfl,fun gX dv=>?_⟩
   have aA:=aG.next_nil bW
   have bX:=aG.frN bW
   have bY:=TT.ofW (bI.trans bX) aA
   refine ⟨fun _=>bY,?_⟩
   refine C7 [5] [ac,ab,ai,aj,aD,(69,.v (.bool (!(Fld.usual (Fld.mk bw bx bz bA bB bC bD bE) (Tree.at_ (Tree.mk aJ ak aS cw bP) k)))))] 0 (A5 (B6 (A5 (A5 (B6 (A5 (B6 (A5 B8)))))))) (fun _ h=>h.cells) bY dv fun gY bJ=>?_
   refine E5 kz ?_ _
   refine A4 (D4 bJ (b:=!(Fld.usual (Fld.mk bw bx bz bA bB bC bD bE) (Tree.at_ (Tree.mk aJ ak aS cw bP) k))) kz (fun bK=>?_) (fun bK=>?_))
   ·
    refine B7 [(4,.v (.bool false))] aA bJ fun gZ dw=>?_
    refine wp_ret (F3 (D6 (D6 (F3 (D6 (F3 (D6 (C8 dw aA.cells (v:=.bool false) kz ?_))))))))
    refine ⟨congrArg (fun b_=>Ending.returned (Value.bool b_)) ?_,aA.step⟩
    first
     | (rw [U4 ‹_›]; simp only [H0]; done)
     | (rw [N3 ‹_› ‹_›]; exact U9 hz (by omega); done)
     | (rw [N3 ‹_› ‹_›]; exact V0 (k:=k) (by omega) (by omega) ‹_›; done)
     | (rw [U5 ‹_› ‹_› (by omega) ‹_›]; done)
     | (rw [U6 ‹_› ‹_› (by omega) ‹_›]; done)
     | (rw [U7 ‹_› ‹_› ‹_› ‹_› ‹_›]; done)
     | (rw [T1 ‹_› ‹_› ‹_› ‹_› ‹_› ‹_›,huu,V1 (by omega),Bool.true_and]; done)
     | (rw [U8 ‹_› ‹_› ‹_› ‹_› ‹_› ‹_›]; done)
     | (rw [T1 ‹_› ‹_› ‹_› ‹_› ‹_› ‹_›,huu,Lr aP (by simpa using bK),Bool.false_and]; done)
   refine wp_skip (F2 (A4 (D7 [0,1] kz ?_)))
   refine B1 [0,1] [] [ac,ab,ai,aj,(59,.v (.int .i64 (IntKind.i64.wrap (((k:Nat):Int) + 1))))] aA bJ fun hC dx=>?_
   refine B5 (A4 ?_)
   obtain ⟨bZ,dy,dA⟩:=aA.cutB dx 2 [aU,aV] [ac,ab,ai,aj,(59,.v (.int .i64 (IntKind.i64.wrap (((k:Nat):Int) + 1))))]
   have dB:IntKind.i64.wrap (((k:Nat):Int) + 1) = ((k + 1:Nat):Int):=G8 (by omega)
   rw [dB] at bZ
   exact ⟨l8.length - (k + 1),by omega,k + 1,rfl,by omega,by rw [huu]; exact Lq aP (by simpa using bK),bZ.pk,dy,((((((cY.trans de).trans dh).trans dl).trans bI).trans bX).trans dA)⟩
  have fJ:=of_decide_eq_false bq
  refine wp_exit (E7 (E7 (G9 (A4 (C0 [0,1,2,3,4,5,6,7] kz ?_)))))
  refine B1 [0,1,2,3] [4,5,6,7] [(72,.v (.slice A9 l8.length d6)),(74,.v (.slice eV bP.length eW))] ae bp fun hJ dC=>?_
  refine B2 (D3 dC (f:=28) (vs:=[aT,aC]) (d:=75) kz Tryz.call28 (Gs _ _ l8 _ _ bP _ _ ⟨d7,(d8.move ae.step A7 ae.imm),(fun i_ x_ h_=>((eR i_ x_ h_).move ae.step A7 ae.imm))⟩ (fS.move ae.step A7 ae.imm)) ?_)
  rintro e_ hK ⟨hZ,ia,rfl,dD,bL⟩
  have fK:=dD.move (Step.refl _ C1) A7 (ae.laid (G:=F) bL)
  refine ⟨_,rfl,fun ib dE=>?_⟩
  have bM:=ae.next_nil bL
  have fL:=ae.frN bL
  refine B1 [5,6,7] [] [(4,.v (.bool ((((C4 l8 bP).length:Nat):Int) == 0)))] bM dE fun ic dF=>?_
  refine B5 (A4 ?_)
  refine wp_ret (F3 (D6 (C8 dF bM.cells (v:=.bool ((((C4 l8 bP).length:Nat):Int) == 0)) kz ?_)))
  refine ⟨congrArg (fun b_=>Ending.returned (Value.bool b_)) ?_,bM.step⟩
  first
   | (rw [U4 ‹_›]; simp only [H0]; done)
   | (rw [N3 ‹_› ‹_›]; exact U9 hz (by omega); done)
   | (rw [N3 ‹_› ‹_›]; exact V0 (k:=k) (by omega) (by omega) ‹_›; done)
   | (rw [U5 ‹_› ‹_› (by omega) ‹_›]; done)
   | (rw [U6 ‹_› ‹_› (by omega) ‹_›]; done)
   | (rw [U7 ‹_› ‹_› ‹_› ‹_› ‹_›]; done)
   | (rw [T1 ‹_› ‹_› ‹_› ‹_› ‹_› ‹_›,huu,V1 (by omega),Bool.true_and]; done)
   | (rw [U8 ‹_› ‹_› ‹_› ‹_› ‹_› ‹_›]; done)
 have fM:k1 ≠ 10:=by simpa using bo
 refine wp_skip (F2 (A4 (G0 13 kz aa fun ig fN b8 dG=>?_)))
 refine C7 [0,1,2,3,6,7,8,9] [(79,.v (.int .i64 aJ)),(81,.v (.int .i64 k1)),(85,.v (.int .i64 y6)),(87,.v (.int .i64 k1))] 6 (A5 B8) (fun _ h=>h.cells) dG bn fun ii dH=>?_
 refine C2 (i:=4) kz (D3 dH (f:=46) (vs:=[.int .i64 k1]) (d:=82) kz Tryz.call46 (Gp k1 _) ?_)
 rintro e_ ij ⟨rfl,cd⟩
 refine ⟨_,rfl,fun ik dI=>?_⟩
 have ce:=b8.next_nil cd
 have aH:=b8.frN cd
 have dJ:=TT.ofW aH ce
 refine ⟨fun _=>dJ,?_⟩
 refine C2 (i:=5) kz (D3 dI (f:=45) (vs:=[aB,.int .i64 ((I5 k1:Nat):Int)]) (d:=83) kz Tryz.call45 (BJ aJ (I5 k1) (by first | decide | exact P7 _ | omega) _) ?_)
 rintro e_ il ⟨dK,dL,rfl,dM,dN⟩
 refine ⟨_,rfl,fun im dO=>?_⟩
 obtain ⟨bN,aQ⟩:=ce.frFresh dN (B4 dK dL 5 (be (I5 k1) aJ)) (Nat.le_refl _) dM
 have dP:=TT.ofW (aH.trans aQ) bN
 refine ⟨fun _=>dP,?_⟩
 refine C2 (i:=10) kz (D3 dO (f:=46) (vs:=[.int .i64 k1]) (d:=88) kz Tryz.call46 (Gp k1 _) ?_)
 rintro e_ io ⟨rfl,cm⟩
 refine ⟨_,rfl,fun ip dQ=>?_⟩
 have cq:=bN.next_nil cm
 have bO:=bN.frN cm
 have dR:=TT.ofW ((aH.trans aQ).trans bO) cq
 refine ⟨fun _=>dR,?_⟩
 refine C2 (i:=11) kz (D3 dQ (f:=45) (vs:=[.int .i64 y6,.int .i64 ((I5 k1:Nat):Int)]) (d:=89) kz Tryz.call45 (BJ y6 (I5 k1) (by first | decide | exact P7 _ | omega) _) ?_)
 rintro e_ iq ⟨dS,dT,rfl,dU,dV⟩
 refine ⟨_,rfl,fun ir dW=>?_⟩
 obtain ⟨aI,cr⟩:=cq.frFresh dV (B4 dS dT 5 (be (I5 k1) y6)) (Nat.le_refl _) dU
 have dX:=TT.ofW (((aH.trans aQ).trans bO).trans cr) aI
 refine ⟨fun _=>dX,?_⟩
 refine C2 (i:=12) kz (D3 dW (f:=29) (vs:=[.slice dK ((be (I5 k1) aJ).length) dL,.slice dS ((be (I5 k1) y6).length) dT]) (d:=90) kz Tryz.call29 (Q9 _ _ _ _ (be (I5 k1) aJ) (be (I5 k1) y6) _ _ (R7 (aI.own 0 _ rfl) (by first | omega | (rw [P9]; decide) | (simp only [be_length]; exact Nat.le_trans (P7 _) (by decide)) | (have:=hroom; omega) | (have:=hmade; omega) | (simp only [List.length_append,List.length_nil]; omega)) (F:=fun _ _=>True) (fun _ _ _=>trivial)) (R7 (aI.own 1 _ rfl) (by first | omega | (rw [P9]; decide) | (simp only [be_length]; exact Nat.le_trans (P7 _) (by decide)) | (have:=hroom; omega) | (have:=hmade; omega) | (simp only [List.length_append,List.length_nil]; omega)) (F:=fun _ _=>True) (fun _ _ _=>trivial))) ?_)
 rintro e_ iu ⟨rfl,cu⟩
 refine ⟨_,rfl,fun iv dY=>?_⟩
 have aR:=aI.next_nil cu
 have dZ:=aI.frN cu
 have d4:=TT.ofW ((((aH.trans aQ).trans bO).trans cr).trans dZ) aR
 refine ⟨fun _=>d4,?_⟩
 refine C2 (i:=13) kz (L4 [4] aR.cells dY (env':=[(4,.v (.bool (decide (be (I5 k1) aJ = be (I5 k1) y6))))]) kz fun iw d5=>?_)
 refine ⟨fun h=>absurd rfl h,?_⟩
 refine E5 kz ?_ _
 refine A4 (wp_ret (C8 d5 aR.cells (v:=.bool (decide (be (I5 k1) aJ = be (I5 k1) y6))) kz ?_))
 refine ⟨congrArg (fun b_=>Ending.returned (Value.bool b_)) ?_,aR.step⟩
 first
  | (rw [U4 ‹_›]; simp only [H0]; done)
  | (rw [N3 ‹_› ‹_›]; exact U9 hz (by omega); done)
  | (rw [N3 ‹_› ‹_›]; exact V0 (k:=k) (by omega) (by omega) ‹_›; done)
  | (rw [U5 ‹_› ‹_› (by omega) ‹_›]; done)
  | (rw [U6 ‹_› ‹_› (by omega) ‹_›]; done)
  | (rw [U7 ‹_› ‹_› ‹_› ‹_› ‹_›]; done)
  | (rw [T1 ‹_› ‹_› ‹_› ‹_› ‹_› ‹_›,huu,V1 (by omega),Bool.true_and]; done)
  | (rw [U8 ‹_› ‹_› ‹_› ‹_› ‹_› ‹_›]; done)
theorem EB:∀ d,Ji d
 | 0=>fun cf f ct t w F hf hd ht=>by
  obtain ⟨k,x1,x2,x3,x4,x5,x6,l,A,c,xs,rfl,_⟩:=hf.open_
  rw [Eh] at hd; omega
 | d + 1=>Mi (EB d)
end Go.Proofs.YtoclgihkbmaolaaGreatDoor.ME