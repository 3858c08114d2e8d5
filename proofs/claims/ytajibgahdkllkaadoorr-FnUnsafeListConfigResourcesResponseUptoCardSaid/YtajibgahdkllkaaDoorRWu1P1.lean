/- The texts of a claim, put together: the engine, the contracts, the law. Own work. -/
import Derived.Test.YtajibgahdkllkaaDoorRWu1P0
import Derived.Lib.AppendZeros
import Derived.Deep.LoopGhost
import Derived.Test.YtajibgahdkllkaaDoorRProg
import Derived.ScopeJumps
namespace Go.Proofs.YtajibgahdkllkaaDoorR.ME
open Go
open Go.RowKit
set_option linter.unusedVariables false
set_option linter.unusedSimpArgs false
set_option maxRecDepth 20000
section
variable {w0 w:World} {M:Nat → Nat → Prop} {tb:Tb} {rs:List Rw}
theorem WOk.layRowM {g c e size n k:Nat} {xs:List Value} (hW:WOk w0 M w tb rs) (hk:rs[k]? = some ⟨some ⟨g,0,none⟩,c,e,size,n,xs⟩) (hl:k + 1 = rs.length) (hm:w0.heap.size ≤ g) (rs':List Rw) (tb':Tb) (hr:rs.take k = rs':=by rfl) (ht:tb ++ [⟨g,0,xs,true⟩] = tb':=by rfl):WOk w0 M w tb' rs' ∧ Fr w tb rs w tb' rs':=by
 subst hr ht
 have ho:=hW.own k _ hk
 have hlive:=qbC ho (g:=g) rfl
 have hfz:∀ j,w.frozen? ⟨g,j,none⟩ = false:=fun j=>by
  rcases ho.2 with ⟨hv,_⟩ | ⟨g',cap,cur,hv,_,hg,_⟩
  ·cases hv
  simp only [Rw.v,Value.slice.injEq,Option.some.injEq,Addr.mk.injEq,and_true] at hv
  obtain ⟨rfl,_⟩:=hv
  unfold World.frozen?
  rw [hg]
  simp
 have hlt:∀ (j:Nat) (r:Rw),(rs.take k)[j]? = some r → j ≠ k ∧ rs[j]? = some r:=fun j r hj=>by
  rw [List.getElem?_take] at hj
  split at hj
  ·exact ⟨by omega,hj⟩
  cases hj
 refine ⟨(hW.rows k).add ⟨g,0,xs,true⟩ hlive (fun j v hj=>?_) (fun _ j _=>⟨.inl hm,by dsimp only; rw [Nat.zero_add]; exact hfz j⟩) (fun i q hi _=>.inl (hW.rtb k _ hk g rfl i q hi)) (fun i r hi he=>?_),⟨fun x y _ hn ha=>hn ?_,Step.refl _ _⟩⟩
 ·have:=ho.cells (g:=g) rfl j v hj
  rw [qbB] at this
  dsimp only
  exact this
 ·obtain ⟨h1,h2⟩:=hlt i r hi
  exact hW.rr k i _ r (fun e=>h1 e.symm) hk h2 g rfl he
 rcases ha with ⟨j,q,hj,h1,h2,h3,h4⟩ | ⟨j,r,hj,h1⟩
 ·by_cases hjt:j < tb.length
  ·rw [List.getElem?_append_left hjt] at hj
   exact .inl ⟨j,q,hj,h1,h2,h3,h4⟩
  rw [List.getElem?_append_right (Nat.not_lt.1 hjt)] at hj
  have hq:q = ⟨g,0,xs,true⟩:=by
   rcases Nat.eq_zero_or_pos (j - tb.length) with h | h
   ·rw [h] at hj; exact (Option.some.inj hj).symm
   rw [List.getElem?_eq_none (by simp only [List.length_cons,List.length_nil]; omega)] at hj; cases hj
  subst hq
  exact .inr ⟨k,_,hk,by rw [← h2]; rfl⟩
 exact .inr ⟨j,r,(hlt j r hj).2,h1⟩
def qbQ (z:Value) (j:Nat):List Value:=(Builtin.zeroCells z.cells j).toList
variable {P:Program} {ops:Array Oper} {Q:Exit → Act → World → Prop} {n:Nat} {env:Env} {a:Act}
theorem qcT {w:World} (size len cap:Nat) (A:Option Addr):(Builtin.firstCells size 0 (.slice A len cap)).run P w = .ok #[] w:=by
 cases A with
 | none=>exact run_firstCells_none w size 0 len cap
 | some b=>exact run_firstCells_some w size 0 b len cap [] (by simp) (fun j v h=>by simp at h)
theorem qdg (w:World) (t tn ty e:TypeId) (A0:Option Addr) (i:TypeInfo) (z:Value) (k kn:IntKind) (ht:P.underlying t = some (.slice e)) (htn:P.underlying tn = some (.int kn)) (hi:P.info? e = some i) (hz:i.zero = some z)
  (n:Nat) (h0:0 < n) (hs:0 < i.size) (h63:(n:Int) ≤ 9223372036854775807) (h48:n * i.bytes ≤ 281474976710656) :
  (Builtin.append_ #[t,tn] ty #[.slice A0 0 0,.int k n]).run P w =
   .ok (.slice (some ⟨w.heap.size,0,none⟩) n (grownCap w n 0 e)) (w.drew.alloc (.cells (Builtin.zeroCells z.cells n ++ Builtin.zeroCells z.cells (grownCap w n 0 e - n)) e)):=by
 cases A0 with
 | none=>exact Lib.run_append_nil_zeros w t tn ty e i z k kn ht htn hi hz n h0 hs h63 h48
 | some b =>
  have hn:n ≠ 0:=by omega
  have hw:IntKind.i64.wrap (n:Int) = n:=by rw [IntKind.wrap_i64]; omega
  have h63':¬ (9223372036854775807 < (n:Int)):=by omega
  have h48':¬ (281474976710656 < Builtin.nextslicecap n 0 * i.bytes):=by rw [nextslicecap_zero h0]; omega
  have h48i:¬ (281474976710656 < (n:Int) * (i.bytes:Int)):=by
   rw [← Int.natCast_mul]
   omega
  have hneg:¬ ((n:Int) < 0):=by omega
  have hns:¬ (n * i.size = 0):=Nat.mul_ne_zero hn (by omega)
  simp [Builtin.append_,run_underlying ht,run_underlying htn,sizeOf,typeInfo,zeroValue,hi,hz,asInt,asIntOf,hw,hn,hneg,hns,h63',h48',h48i,Question.forced,qcT,newRow,grownCap]
theorem qel {i d j:Nat} {A0:Option Addr} {t tn e:TypeId} {size bytes:Nat} {k kn:IntKind} {q:Int} {z:Value} {N:Act → World → Prop} (hW:WOk w0 M w tb rs) (hE:EnvOk n tb env a)
  (h:appE tb env ops n i = some (t,tn,.slice A0 0 0,.int k q,d)) (ht:qck P t = some (e,size,bytes)) (htn:P.underlying tn = some (.int kn)) (hz:(P.info? e).bind (·.zero) = some z)
  (hq:q = (j:Int)) (hj:0 < j) (hb:j * bytes ≤ 140737488355328)
  (K:∀ b c a' w',b = w.heap.size → w0.heap.size ≤ b → Fr w tb rs w' tb (rs ++ [⟨some ⟨b,0,none⟩,c,e,size,j,qbQ z j⟩]) → WOk w0 M w' tb (rs ++ [⟨some ⟨b,0,none⟩,c,e,size,j,qbQ z j⟩]) →
   EnvOk n tb ((d,.v (.slice (some ⟨b,0,none⟩) j c)) :: env) a' → N a' w'):wpOp P ops Q i N a w:=by
 subst hq
 obtain ⟨ht',inf,z',hi,hz',hzs,hs1,rfl,hsz,hbp⟩:=qce ht
 have hzz:z' = z:=by rw [hi] at hz; simpa [hz'] using hz
 subst hzz
 obtain ⟨op,ho,hd,hrun⟩:=qfv (P:=P) (w:=w) hE h
 obtain ⟨o,h1,h2,h3,h4,h5⟩:=qbf hE ho
 have hjm:j ≤ maxLen:=by
  have:=Nat.le_mul_of_pos_right j hbp
  simp only [maxLen]; omega
 have hr:=qdg (P:=P) w t tn o.type e A0 inf z' k kn ht' htn hi hz' j hj (by omega) (by simp only [maxLen] at hjm; omega) (by omega)
 have hge:=grownCap_ge w j 0 e
 have hcm:=grownCap_le_maxLen w j 0 e hjm
 have hst:Step w (w.drew.alloc (.cells (Builtin.zeroCells z'.cells j ++ Builtin.zeroCells z'.cells (grownCap w j 0 e - j)) e)) Nil:=(Step.drew w).trans (Step.alloc _ _) fun _ _ _ h=>h
 have hown:(w.drew.alloc (.cells (Builtin.zeroCells z'.cells j ++ Builtin.zeroCells z'.cells (grownCap w j 0 e - j)) e)).ownsRow w.heap.size e size (.slice (some ⟨w.heap.size,0,none⟩) j (grownCap w j 0 e)) j (qbQ z' j):=by
  refine ⟨by unfold qbQ; rw [Array.length_toList,size_zeroCells,hzs,hs1],.inr ⟨w.heap.size,grownCap w j 0 e,_,rfl,Nat.le_refl _,qcI w.drew _,hge,hcm,?_,?_⟩⟩
  ·rw [Array.size_append,size_zeroCells,size_zeroCells,hzs,hs1,← Nat.add_mul]
   congr 1
   omega
  unfold qbQ
  rw [Array.toList_append]
  exact List.take_left' (by rw [Array.length_toList,size_zeroCells,hzs,hs1])
 simp only [wpOp,h1]
 have:Region.wanted o (yielded ops a.tmps) = true:=by first | exact h2 | simp [Region.wanted,h2]
 rw [this]
 simp only [if_true]
 refine .inl ?_
 unfold Oper.wp
 rw [hrun o _ _ h5 hr,Oper.upon,h3]
 exact K w.heap.size _ _ _ rfl hW.step.size (Fr.fresh tb rs hst ⟨some ⟨w.heap.size,0,none⟩,grownCap w j 0 e,e,size,j,qbQ z' j⟩ (Nat.le_refl _) hown) (hW.fresh hst ⟨some ⟨w.heap.size,0,none⟩,grownCap w j 0 e,e,size,j,qbQ z' j⟩ (Nat.le_refl _) hown) (hE.put hd (.v _) trivial)
theorem qeA (z:Value) (j:Nat):qbQ z (j + 1) = z.cells.toList ++ qbQ z j:=by
 refine List.ext_getElem? fun i=>?_
 unfold qbQ Builtin.zeroCells
 rw [List.getElem?_append]
 simp only [Array.toList_map,Array.toList_range,List.getElem?_map,Array.length_toList,Array.getElem?_toList]
 by_cases h:i < z.cells.size
 ·have h2:i < (j + 1) * z.cells.size:=Nat.lt_of_lt_of_le h (Nat.le_mul_of_pos_left _ (Nat.succ_pos j))
  rw [if_pos h,List.getElem?_range h2,Option.map_some,Nat.mod_eq_of_lt h,getElem!_pos z.cells i h,Array.getElem?_eq_getElem h]
 rw [if_neg h]
 by_cases h2:i < (j + 1) * z.cells.size
 ·have h3:i - z.cells.size < j * z.cells.size:=by rw [Nat.succ_mul] at h2; omega
  rw [List.getElem?_range h2,List.getElem?_range h3,Option.map_some,Option.map_some,Nat.mod_eq_sub_mod (Nat.not_lt.1 h)]
 have h3:¬ i - z.cells.size < j * z.cells.size:=by rw [Nat.succ_mul] at h2; omega
 rw [List.getElem?_eq_none (by simpa using h2),List.getElem?_eq_none (by simpa using h3)]
end
abbrev qcc:=World → (Nat → Nat → Prop) → Prop
structure MvF (P:qcc):Prop where
 move:∀ {w w':World} {F F' M:Nat → Nat → Prop},Step w w' M → (∀ b o,F b o → b < w.heap.size → ¬ M b o) → (∀ b o,F b o → b < w.heap.size → F' b o) → P w F → P w' F'
def andF (P Q:qcc):qcc:=fun w F=>P w F ∧ Q w F
theorem MvF.and {P Q:qcc} (h:MvF P) (h':MvF Q):MvF (andF P Q):=⟨fun hs hM hF g=>⟨h.move hs hM hF g.1,h'.move hs hM hF g.2⟩⟩
theorem MvF.mono {P:qcc} (h:MvF P) {w:World} {F F':Nat → Nat → Prop} (hF:∀ b o,F b o → b < w.heap.size → F' b o) (g:P w F):P w F':=h.move (Step.refl w Nil) nilM hF g
def qhx (m:Option Nat) (u:List (Int × Bs)):qcc:=fun w F=>MapR w F m u
theorem MvF.tags (m:Option Nat) (u:List (Int × Bs)):MvF (qhx m u):=⟨fun hs hM hF g=>MapR.move g hs hM hF⟩
def atF (b o:Nat) (cs:List Value):qcc:=fun w F=>AtF w F b o cs
theorem MvF.at_ (b o:Nat) (cs:List Value):MvF (atF b o cs):=⟨fun hs hM hF g=>AtF.move g hs hM hF⟩
section
variable {Pr:Program} {ops opsA opsB opsC:Array Oper} {Q:Exit → Act → World → Prop} {w0:World} {M F:Nat → Nat → Prop} {n br:Nat} {tb:Tb} {env:Env} {P:qcc} {s:Bs} {a:Act} {w:World}
theorem qfk {k:Nat} (h:Nat.blt 0 k = true):List.range k = [0] ++ (List.range k).drop 1:=by
 cases k with
 | zero=>cases h
 | succ k=>rw [List.range_succ_eq_map]; rfl
def stoE (P:Program) (ops:Array Oper) (n:Nat) (tb:Tb) (env:Env) (keys:List Nat):Option (Nat × List Value × Env) :=
 match runs P ops n tb (List.range (ops.size - 1)) env with
 | some e=>match qeO P tb e ops (ops.size - 1),pick e keys with
  | some (i,cs),some e'=>some (i,cs,e')
  | _,_=>none
 | none=>none
end
def qeB:Env → Env
 | []=>[]
 | (k,.v x) :: r=>(k,.v x) :: qeB r
 | (k,.p i j) :: r=>(k,.p (match i with | 0=>1 | 1=>0 | i=>i) j) :: qeB r
theorem qhi {n:Nat} {o1 o2:Ob} {env:Env} {a:Act} (h:EnvOk n [o1,o2] env a):EnvOk n [o2,o1] (qeB env) a:=by
 have key:∀ (env:Env) (k:Nat) (x:SV),lk (qeB env) k = some x → ∃ y,lk env k = some y ∧ (y.ok [o1,o2] → x.val [o2,o1] = y.val [o1,o2] ∧ x.ok [o2,o1]):=by
  intro env
  induction env with
  | nil=>intro k x hx; cases hx
  | cons e r ih =>
   obtain ⟨k',sv⟩:=e
   intro k x hx
   cases sv with
   | v y =>
    simp only [qeB,lk] at hx ⊢
    split at hx
    ·rename_i hb
     simp only [Option.some.injEq] at hx
     subst hx
     exact ⟨_,rfl,fun _=>⟨rfl,trivial⟩⟩
    exact ih k x hx
   | p i j =>
    simp only [qeB,lk] at hx ⊢
    split at hx
    ·rename_i hb
     simp only [Option.some.injEq] at hx
     subst hx
     refine ⟨_,rfl,fun hok=>?_⟩
     have hok':i < 2:=hok
     match i,hok' with
     | 0,_=>exact ⟨rfl,show 1 < 2 by omega⟩
     | 1,_=>exact ⟨rfl,show 0 < 2 by omega⟩
    exact ih k x hx
 refine ⟨h.defers,h.size,fun k x hx=>?_⟩
 obtain ⟨y,hy,hv⟩:=key env k x hx
 obtain ⟨h1,h2⟩:=h.at_ k y hy
 obtain ⟨h3,h4⟩:=hv h2
 exact ⟨by rw [h3]; exact h1,h4⟩
theorem qcn {α:Type} {x y o:α} {i:Nat} (h:[y,x][i]? = some o):[x,y][1 - i]? = some o ∧ i < 2:=by
 match i,h with
 | 0,h=>exact ⟨h,by omega⟩
 | 1,h=>exact ⟨h,by omega⟩
 | i + 2,h=>simp at h
theorem WOk.swap2 {w0 w:World} {M:Nat → Nat → Prop} {o1 o2:Ob} (h:WOk w0 M w [o1,o2] []):WOk w0 M w [o2,o1] [] :=
 ⟨h.step,fun i o hi=>h.cells _ o (qcn hi).1,fun i o hi=>h.live _ o (qcn hi).1,fun i o hi=>h.rw_ _ o (qcn hi).1,fun i j o o' hij hi hj hw=>h.apart _ _ o o' (by have:=(qcn hi).2; have:=(qcn hj).2; omega) (qcn hi).1 (qcn hj).1 hw,h.own,h.ownM,fun i r hi=>by simp at hi,h.rr⟩
theorem qeU {o1 o2:Ob} {b o:Nat} (h:Act_ [o2,o1] [] b o):Act_ [o1,o2] [] b o:=by
 rcases h with ⟨i,ob,hi,h1⟩ | ⟨i,r,hi,_⟩
 ·exact .inl ⟨_,ob,(qcn hi).1,h1⟩
 simp at hi
theorem qcU {α:Type} {l:List α} {x y o:α} {i:Nat} (h:(l ++ [x,y])[i]? = some o):(i < l.length ∧ l[i]? = some o) ∨ (i = l.length ∧ o = x) ∨ (i = l.length + 1 ∧ o = y):=by
 rcases Nat.lt_or_ge i l.length with hl | hl
 ·rw [List.getElem?_append_left hl] at h; exact .inl ⟨hl,h⟩
 rw [List.getElem?_append_right hl] at h
 rcases hk:i - l.length with _ | _ | k
 ·rw [hk] at h; exact .inr (.inl ⟨by omega,(Option.some.inj h).symm⟩)
 ·rw [hk] at h; exact .inr (.inr ⟨by omega,(Option.some.inj h).symm⟩)
 rw [hk] at h; simp at h
theorem qdr {α:Type} {l:List α} {x:α}:(l ++ [x])[l.length]? = some x:=by simp
section
variable {w0 w:World} {M:Nat → Nat → Prop} {tb:Tb} {rs:List Rw}
theorem WOk.splitL {b o o2:Nat} {cs1 cs2:List Value} (hW:WOk w0 M w (tb ++ [⟨b,o,cs1 ++ cs2,true⟩]) rs) (ho:o2 = o + cs1.length) :
  WOk w0 M w (tb ++ [⟨b,o2,cs2,true⟩,⟨b,o,cs1,true⟩]) rs ∧ Fr w (tb ++ [⟨b,o,cs1 ++ cs2,true⟩]) rs w (tb ++ [⟨b,o2,cs2,true⟩,⟨b,o,cs1,true⟩]) rs:=by
 subst ho
 have hi:(tb ++ [(⟨b,o,cs1 ++ cs2,true⟩:Ob)])[tb.length]? = some ⟨b,o,cs1 ++ cs2,true⟩:=qdr
 have old:∀ {j:Nat} {q:Ob},j < tb.length → tb[j]? = some q → (tb ++ [(⟨b,o,cs1 ++ cs2,true⟩:Ob)])[j]? = some q:=fun {j q} hj h=>by rw [List.getElem?_append_left hj]; exact h
 have hlen:(cs1 ++ cs2).length = cs1.length + cs2.length:=List.length_append
 have act:∀ x y,Act_ (tb ++ [⟨b,o + cs1.length,cs2,true⟩,⟨b,o,cs1,true⟩]) rs x y → Act_ (tb ++ [⟨b,o,cs1 ++ cs2,true⟩]) rs x y:=fun x y ha=>by
  rcases ha with ⟨j,q,hj,h1,h2,h3,h4⟩ | ha
  ·rcases qcU hj with ⟨hlt,hj⟩ | ⟨rfl,rfl⟩ | ⟨rfl,rfl⟩
   ·exact .inl ⟨j,q,old hlt hj,h1,h2,h3,h4⟩
   ·exact .inl ⟨_,_,hi,rfl,h2,by dsimp only at h3 ⊢; omega,by dsimp only at h4 ⊢; omega⟩
   exact .inl ⟨_,_,hi,rfl,h2,by dsimp only at h3 ⊢; omega,by dsimp only at h4 ⊢; omega⟩
  exact .inr ha
 refine ⟨⟨hW.step,?_,?_,?_,?_,hW.own,hW.ownM,?_,hW.rr⟩,⟨fun x y _ hn ha=>hn (act x y ha),Step.refl _ _⟩⟩
 ·intro j q hj p v hv
  rcases qcU hj with ⟨hlt,hj⟩ | ⟨rfl,rfl⟩ | ⟨rfl,rfl⟩
  ·exact hW.cells j q (old hlt hj) p v hv
  ·have:=hW.cells _ _ hi (cs1.length + p) v (by dsimp only at hv ⊢; rw [List.getElem?_append_right (by omega),Nat.add_sub_cancel_left]; exact hv)
   dsimp only at this ⊢
   rwa [Nat.add_assoc]
  exact hW.cells _ _ hi p v (by dsimp only at hv ⊢; rw [List.getElem?_append_left (List.getElem?_eq_some_iff.1 hv).1]; exact hv)
 ·intro j q hj
  rcases qcU hj with ⟨hlt,hj⟩ | ⟨rfl,rfl⟩ | ⟨rfl,rfl⟩
  ·exact hW.live j q (old hlt hj)
  ·have:=hW.live _ _ hi; exact this
  have:=hW.live _ _ hi; exact this
 ·intro j q hj hr p hp
  rcases qcU hj with ⟨hlt,hj⟩ | ⟨rfl,rfl⟩ | ⟨rfl,rfl⟩
  ·exact hW.rw_ j q (old hlt hj) hr p hp
  ·have:=hW.rw_ _ _ hi rfl (cs1.length + p) (by dsimp only at hp ⊢; omega)
   dsimp only at this ⊢
   rwa [Nat.add_assoc]
  exact hW.rw_ _ _ hi rfl p (by dsimp only at hp ⊢; omega)
 ·intro j k q q' hjk hj hk hw
  rcases qcU hj with ⟨hlj,hj⟩ | ⟨rfl,rfl⟩ | ⟨rfl,rfl⟩ <;> rcases qcU hk with ⟨hlk,hk⟩ | ⟨rfl,rfl⟩ | ⟨rfl,rfl⟩
  ·exact hW.apart j k q q' hjk (old hlj hj) (old hlk hk) hw
  ·have:=hW.apart j _ q _ (by omega) (old hlj hj) hi (.inr rfl)
   dsimp only at this ⊢; omega
  ·have:=hW.apart j _ q _ (by omega) (old hlj hj) hi (.inr rfl)
   dsimp only at this ⊢; omega
  ·have:=hW.apart _ k _ q' (by omega) hi (old hlk hk) (.inl rfl)
   dsimp only at this ⊢; omega
  ·exact absurd rfl hjk
  ·exact .inr (.inr (Nat.le_refl _))
  ·have:=hW.apart _ k _ q' (by omega) hi (old hlk hk) (.inl rfl)
   dsimp only at this ⊢; omega
  ·exact .inr (.inl (Nat.le_refl _))
  exact absurd rfl hjk
 intro j r hj g hg k q hk
 rcases qcU hk with ⟨hlk,hk⟩ | ⟨rfl,rfl⟩ | ⟨rfl,rfl⟩
 ·exact hW.rtb j r hj g hg k q (old hlk hk)
 ·have:=hW.rtb j r hj g hg _ _ hi; exact this
 have:=hW.rtb j r hj g hg _ _ hi; exact this
theorem WOk.atLast {G:Nat → Nat → Prop} {b o:Nat} {cs:List Value} (hW:WOk w0 M w (tb ++ [⟨b,o,cs,true⟩]) []) (hb:w0.heap.size ≤ b):AtF w (Imm G w0 w tb []) b o cs:=fun j v hj=>by
 have hlt:j < cs.length:=(List.getElem?_eq_some_iff.1 hj).1
 refine ⟨⟨.inr hb,?_,fun ha=>?_⟩,?_⟩
 ·have:=hW.live _ _ qdr; exact this
 ·rcases ha with ⟨i,q,hi,hr,h2,h3,h4⟩ | ⟨i,r,hi,_⟩
  ·have hil:i < tb.length:=(List.getElem?_eq_some_iff.1 hi).1
   have:=hW.apart i _ q _ (by omega) (by rw [List.getElem?_append_left hil]; exact hi) qdr (.inr rfl)
   dsimp only at this; omega
  simp at hi
 have:=hW.cells _ _ qdr j v hj; exact this
end
section
variable {Pr:Program} {ops:Array Oper} {Q:Exit → Act → World → Prop} {w0:World} {M F:Nat → Nat → Prop} {n br:Nat} {tb:Tb} {env:Env} {P:qcc} {s:Bs} {a:Act} {w:World}
 {g size:Nat} {cl:DV → List Value} {ok:World → (Nat → Nat → Prop) → DV → Prop} {rel:DV → Tree → Prop} {L:List Tree} {z:Value}
theorem qeV {c:Code} (h:c.wp Pr (Exit.then (fun _ _=>False) Q) a w):(Code.loop c).wp Pr Q a w:=by
 refine wp_loop_ghost (fun _ a_ w_=>a_ = a ∧ w_ = w) 0 ⟨rfl,rfl⟩ ?_
 rintro q _ _ ⟨rfl,rfl⟩
 refine wp_mono h fun e a' w' hq=>?_
 cases e <;> first | exact hq | exact hq.elim
theorem qgr {x y z:Code} {Mid:Act → World → Prop} (h1:x.wp Pr (Exit.then (fun a w=>y.wp Pr (Exit.then Mid Q) a w) Q) a w) (h2:∀ a' w',Mid a' w' → z.wp Pr Q a' w'):(Code.seq x (.seq y z)).wp Pr Q a w :=
 wp_seq (qfK h1 fun a' w' hy=>wp_seq (qfK hy h2))
end
theorem qhL {A:Option Addr} {c:Nat} (s:Bs) {w:World} {F:Nat → Nat → Prop} (ho:Octs w F A c s) (hl:2 ≤ s.length) :
  Calls Tryd.prog 104 #[.agg #[],.slice A s.length c] w (qcb w (.int .u16 (be16 s))):=by
 refine enter (n:=18) Tryd.func104 rfl Tryd.ntmps104 kz fun a hE=>?_
 have hW:=WOk.start w Nil
 have ob0:=qa9 s 0
 have ob1:=qa9 s 1
 refine qae [0,1] kz ?_
 refine qal (qcZ hW hE (d:=2) (cs:=[]) kz fun b1 a2 w3 hb4 hz5 hF6 hW7 hE8=>?_)
 refine qam [1] [] [(1,.v (.slice A s.length c))] hW7 hE8 fun a9 af=>?_
 refine qag (qab ?_)
 refine qae [0,1,2] kz ?_
 refine qam [0] [1,2] [(1,.v (.slice A s.length c)),(5,.v (.slice A s.length c))] hW7 af fun aC ag=>?_
 obtain ⟨av,aw,ac,ax,ab⟩:=Slots.get ho (i:=1) (by omega)
 refine qal (qao ag (t:=22) (A:=A) (m:=s.length) (q:=1) (d:=6) kz (e:=5) (size:=1) (bytes:=1) (j:=1) kz ac rfl (by omega) fun aD ah=>?_)
 refine qal (qat ah (t:=5) (b:=av) (o:=aw + 1 * 1) (d:=7) kz (cs:=[.int .u8 ((s.getD 1 0).toNat:Int)]) (v:=.int .u8 ((s.getD 1 0).toNat:Int)) kz (AtF.move ab hW7.step nilM qaF).at_ fun aE ai=>?_)
 refine qag (qab ?_)
 refine qcl kz hW7 fun aF ay aa=>?_
 refine qaP [0,4] [(8,.v (.slice A s.length c)),(12,.v (.slice A s.length c))] 9 (qac qah) (fun _ h=>h ▸ aa.cells) rfl ai fun aG aj=>?_
 refine qaL aj (i:=1) (t:=22) (A:=A) (m:=s.length) (q:=1) (d:=9) kz (e:=5) (size:=1) (bytes:=1) (j:=1) kz ac rfl (by omega) kz kz (qac qah) rfl fun aH ak=>?_
 refine qa4 ak (i:=2) (t:=5) (b:=av) (o:=aw + 1 * 1) (d:=10) kz (cs:=[.int .u8 ((s.getD 1 0).toNat:Int)]) (v:=.int .u8 ((s.getD 1 0).toNat:Int)) kz (fun w' h'=>h' ▸ (AtF.move ab aa.step nilM qaF).at_) kz kz (qac qah) rfl fun aI al=>?_
 refine qaP [3] [(11,.v (.int .u16 (IntKind.u16.wrap ((s.getD 1 0).toNat:Int)))),(12,.v (.slice A s.length c))] 6 (qac qah) (fun _ h=>h ▸ aa.cells) rfl al fun aJ am=>?_
 obtain ⟨az,aA,ao,aB,ae⟩:=Slots.get ho (i:=0) (by omega)
 refine qaL am (i:=5) (t:=22) (A:=A) (m:=s.length) (q:=0) (d:=13) kz (e:=5) (size:=1) (bytes:=1) (j:=0) kz ao rfl (by omega) kz kz (qac qah) rfl fun aK ap=>?_
 refine qa4 ap (i:=6) (t:=5) (b:=az) (o:=aA + 0 * 1) (d:=14) kz (cs:=[.int .u8 ((s.getD 0 0).toNat:Int)]) (v:=.int .u8 ((s.getD 0 0).toNat:Int)) kz (fun w' h'=>h' ▸ (AtF.move ae aa.step nilM qaF).at_) kz kz (qac qah) rfl fun aL ar=>?_
 refine qaP [7,8,9,10] [(4,.v (.int .u16 (IntKind.u16.wrap (BitVec.ofInt 16 (IntKind.u16.wrap ((s.getD 1 0).toNat:Int)) ||| BitVec.ofInt 16 (IntKind.u16.wrap ((IntKind.u16.wrap ((s.getD 0 0).toNat:Int)) * 256))).toNat)))] 0 (qac qah) (fun _ h=>h ▸ aa.cells) rfl ar fun aM au=>?_
 refine qaW kz ?_ _
 refine qab ?_
 refine wp_ret ?_
 refine qaZ au aa.cells (v:=.int .u16 (IntKind.u16.wrap (BitVec.ofInt 16 (IntKind.u16.wrap ((s.getD 1 0).toNat:Int)) ||| BitVec.ofInt 16 (IntKind.u16.wrap ((IntKind.u16.wrap ((s.getD 0 0).toNat:Int)) * 256))).toNat)) kz ?_
 exact ⟨congrArg Ending.returned (congrArg (Value.int IntKind.u16) (qhv (oc s 0) (oc s 1) ob0 ob1)),aa.step⟩
theorem qhM {A:Option Addr} {c:Nat} (s:Bs) {w:World} {F:Nat → Nat → Prop} (ho:Octs w F A c s) (hl:4 ≤ s.length) :
  Calls Tryd.prog 107 #[.agg #[],.slice A s.length c] w (qcb w (.int .u32 (be32 s))):=by
 refine enter (n:=30) Tryd.func107 rfl Tryd.ntmps107 kz fun a hE=>?_
 have hW:=WOk.start w Nil
 have ob0:=qa9 s 0
 have ob1:=qa9 s 1
 have ob2:=qa9 s 2
 have ob3:=qa9 s 3
 refine qae [0,1] kz ?_
 refine qal (qcZ hW hE (d:=2) (cs:=[]) kz fun b1 a2 w3 hb4 hz5 hF6 hW7 hE8=>?_)
 refine qam [1] [] [(1,.v (.slice A s.length c))] hW7 hE8 fun a9 ah=>?_
 refine qag (qab ?_)
 refine qae [0,1,2] kz ?_
 refine qam [0] [1,2] [(1,.v (.slice A s.length c)),(5,.v (.slice A s.length c))] hW7 ah fun aT ai=>?_
 obtain ⟨aF,aG,ac,aH,ab⟩:=Slots.get ho (i:=3) (by omega)
 refine qal (qao ai (t:=22) (A:=A) (m:=s.length) (q:=3) (d:=6) kz (e:=5) (size:=1) (bytes:=1) (j:=3) kz ac rfl (by omega) fun aU aj=>?_)
 refine qal (qat aj (t:=5) (b:=aF) (o:=aG + 3 * 1) (d:=7) kz (cs:=[.int .u8 ((s.getD 3 0).toNat:Int)]) (v:=.int .u8 ((s.getD 3 0).toNat:Int)) kz (AtF.move ab hW7.step nilM qaF).at_ fun aV ak=>?_)
 refine qag (qab ?_)
 refine qcl kz hW7 fun aW aI aa=>?_
 refine qaP [0,4,10,16] [(8,.v (.slice A s.length c)),(12,.v (.slice A s.length c)),(18,.v (.slice A s.length c)),(24,.v (.slice A s.length c))] 19 (qac qah) (fun _ h=>h ▸ aa.cells) rfl ak fun aX al=>?_
 refine qaL al (i:=1) (t:=22) (A:=A) (m:=s.length) (q:=3) (d:=9) kz (e:=5) (size:=1) (bytes:=1) (j:=3) kz ac rfl (by omega) kz kz (qac qah) rfl fun aY am=>?_
 refine qa4 am (i:=2) (t:=5) (b:=aF) (o:=aG + 3 * 1) (d:=10) kz (cs:=[.int .u8 ((s.getD 3 0).toNat:Int)]) (v:=.int .u8 ((s.getD 3 0).toNat:Int)) kz (fun w' h'=>h' ▸ (AtF.move ab aa.step nilM qaF).at_) kz kz (qac qah) rfl fun aZ ao=>?_
 refine qaP [3] [(11,.v (.int .u32 (IntKind.u32.wrap ((s.getD 3 0).toNat:Int)))),(12,.v (.slice A s.length c)),(18,.v (.slice A s.length c)),(24,.v (.slice A s.length c))] 16 (qac qah) (fun _ h=>h ▸ aa.cells) rfl ao fun ba ap=>?_
 obtain ⟨aJ,aK,ar,aL,ae⟩:=Slots.get ho (i:=2) (by omega)
 refine qaL ap (i:=5) (t:=22) (A:=A) (m:=s.length) (q:=2) (d:=13) kz (e:=5) (size:=1) (bytes:=1) (j:=2) kz ar rfl (by omega) kz kz (qac qah) rfl fun bf au=>?_
 refine qa4 au (i:=6) (t:=5) (b:=aJ) (o:=aK + 2 * 1) (d:=14) kz (cs:=[.int .u8 ((s.getD 2 0).toNat:Int)]) (v:=.int .u8 ((s.getD 2 0).toNat:Int)) kz (fun w' h'=>h' ▸ (AtF.move ae aa.step nilM qaF).at_) kz kz (qac qah) rfl fun bg av=>?_
 refine qaP [7,8,9] [(17,.v (.int .u32 (IntKind.u32.wrap (BitVec.ofInt 32 (IntKind.u32.wrap ((s.getD 3 0).toNat:Int)) ||| BitVec.ofInt 32 (IntKind.u32.wrap ((IntKind.u32.wrap ((s.getD 2 0).toNat:Int)) * 256))).toNat))),(18,.v (.slice A s.length c)),(24,.v (.slice A s.length c))] 11 (qac qah) (fun _ h=>h ▸ aa.cells) rfl av fun bh aw=>?_
 obtain ⟨aM,aO,ax,aP,af⟩:=Slots.get ho (i:=1) (by omega)
 refine qaL aw (i:=11) (t:=22) (A:=A) (m:=s.length) (q:=1) (d:=19) kz (e:=5) (size:=1) (bytes:=1) (j:=1) kz ax rfl (by omega) kz kz (qac qah) rfl fun bi ay=>?_
 refine qa4 ay (i:=12) (t:=5) (b:=aM) (o:=aO + 1 * 1) (d:=20) kz (cs:=[.int .u8 ((s.getD 1 0).toNat:Int)]) (v:=.int .u8 ((s.getD 1 0).toNat:Int)) kz (fun w' h'=>h' ▸ (AtF.move af aa.step nilM qaF).at_) kz kz (qac qah) rfl fun bj az=>?_
 refine qaP [13,14,15] [(23,.v (.int .u32 (IntKind.u32.wrap (BitVec.ofInt 32 (IntKind.u32.wrap (BitVec.ofInt 32 (IntKind.u32.wrap ((s.getD 3 0).toNat:Int)) ||| BitVec.ofInt 32 (IntKind.u32.wrap ((IntKind.u32.wrap ((s.getD 2 0).toNat:Int)) * 256))).toNat) ||| BitVec.ofInt 32 (IntKind.u32.wrap ((IntKind.u32.wrap ((s.getD 1 0).toNat:Int)) * 65536))).toNat))),(24,.v (.slice A s.length c))] 6 (qac qah) (fun _ h=>h ▸ aa.cells) rfl az fun bk aA=>?_
 obtain ⟨aQ,aR,aB,aS,ag⟩:=Slots.get ho (i:=0) (by omega)
 refine qaL aA (i:=17) (t:=22) (A:=A) (m:=s.length) (q:=0) (d:=25) kz (e:=5) (size:=1) (bytes:=1) (j:=0) kz aB rfl (by omega) kz kz (qac qah) rfl fun bn aC=>?_
 refine qa4 aC (i:=18) (t:=5) (b:=aQ) (o:=aR + 0 * 1) (d:=26) kz (cs:=[.int .u8 ((s.getD 0 0).toNat:Int)]) (v:=.int .u8 ((s.getD 0 0).toNat:Int)) kz (fun w' h'=>h' ▸ (AtF.move ag aa.step nilM qaF).at_) kz kz (qac qah) rfl fun bo aD=>?_
 refine qaP [19,20,21,22] [(4,.v (.int .u32 (IntKind.u32.wrap (BitVec.ofInt 32 (IntKind.u32.wrap (BitVec.ofInt 32 (IntKind.u32.wrap (BitVec.ofInt 32 (IntKind.u32.wrap ((s.getD 3 0).toNat:Int)) ||| BitVec.ofInt 32 (IntKind.u32.wrap ((IntKind.u32.wrap ((s.getD 2 0).toNat:Int)) * 256))).toNat) ||| BitVec.ofInt 32 (IntKind.u32.wrap ((IntKind.u32.wrap ((s.getD 1 0).toNat:Int)) * 65536))).toNat) ||| BitVec.ofInt 32 (IntKind.u32.wrap ((IntKind.u32.wrap ((s.getD 0 0).toNat:Int)) * 16777216))).toNat)))] 0 (qac qah) (fun _ h=>h ▸ aa.cells) rfl aD fun bp aE=>?_
 refine qaW kz ?_ _
 refine qab ?_
 refine wp_ret ?_
 refine qaZ aE aa.cells (v:=.int .u32 (IntKind.u32.wrap (BitVec.ofInt 32 (IntKind.u32.wrap (BitVec.ofInt 32 (IntKind.u32.wrap (BitVec.ofInt 32 (IntKind.u32.wrap ((s.getD 3 0).toNat:Int)) ||| BitVec.ofInt 32 (IntKind.u32.wrap ((IntKind.u32.wrap ((s.getD 2 0).toNat:Int)) * 256))).toNat) ||| BitVec.ofInt 32 (IntKind.u32.wrap ((IntKind.u32.wrap ((s.getD 1 0).toNat:Int)) * 65536))).toNat) ||| BitVec.ofInt 32 (IntKind.u32.wrap ((IntKind.u32.wrap ((s.getD 0 0).toNat:Int)) * 16777216))).toNat)) kz ?_
 exact ⟨congrArg Ending.returned (congrArg (Value.int IntKind.u32) (qhw (oc s 0) (oc s 1) (oc s 2) (oc s 3) ob0 ob1 ob2 ob3)),aa.step⟩
theorem rUv1 {A:Option Addr} {c:Nat} (s:Bs) {w:World} {F:Nat → Nat → Prop} (ho:Octs w F A c s) (hl:1 ≤ s.length) (d0:Nat) (h0:oc s 0 = d0) (g0:d0 < 128) :
  Calls Tryd.prog 118 #[.slice A s.length c] w (qcb w (.tuple #[.int .u32 ((d0:Nat):Int),.int .i64 1])):=by
 refine enter (n:=87) Tryd.func118 rfl Tryd.ntmps118 kz fun a hE=>?_
 have hW:=WOk.start w Nil
 refine qau [(0,.v (.slice A s.length c))] hW hE fun a1 hE2=>?_
 refine wp_scope_straight ?_
 refine qau [(0,.v (.slice A s.length c))] hW hE2 fun a3 hE4=>?_
 refine qau [(0,.v (.slice A s.length c))] hW hE4 fun a5 hE6=>?_
 refine wp_seq ?_
 refine qau [(0,.v (.slice A s.length c)),(8,.v (.bool (decide (((s.length:Nat):Int) < 1))))] hW hE6 fun a7 hE8=>?_
 refine qan hE8 (b:=decide (((s.length:Nat):Int) < 1)) kz (decide_eq_false (by omega)) ?_
 refine wp_skip ?_
 refine qab ?_
 refine qae [0,1,2,3,4,5] kz ?_
 refine qam [0] [1,2,3,4,5] [(0,.v (.slice A s.length c)),(9,.v (.slice A s.length c))] hW hE8 fun a9 ae=>?_
 obtain ⟨am,ao,ab,ap,aa⟩:=Slots.get ho (i:=0) (by first | omega | (simp only [List.length_append,be_length,List.length_cons,List.length_nil] at *; omega))
 refine qal (qao ae (t:=22) (A:=A) (m:=s.length) (q:=0) (d:=10) kz (e:=5) (size:=1) (bytes:=1) (j:=0) kz ab rfl (by first | omega | (simp only [List.length_append,be_length,List.length_cons,List.length_nil] at *; omega)) fun ar af=>?_)
 refine qal (qat af (t:=5) (b:=am) (o:=ao + 0 * 1) (d:=11) kz (cs:=[.int .u8 ((s.getD 0 0).toNat:Int)]) (v:=.int .u8 ((s.getD 0 0).toNat:Int)) kz (AtF.move aa hW.step nilM qaF).at_ fun au ag=>?_)
 refine qam [3,4,5] [] [(0,.v (.slice A s.length c)),(4,.v (.int .u32 (IntKind.u32.wrap (IntKind.u8.wrap (BitVec.ofInt 8 ((s.getD 0 0).toNat:Int) &&& BitVec.ofInt 8 127).toNat))))] hW ag fun av ah=>?_
 refine qag (qab ?_)
 refine wp_seq ?_
 refine qae [0,1,2,3,4] kz ?_
 refine qam [0] [1,2,3,4] [(0,.v (.slice A s.length c)),(4,.v (.int .u32 (IntKind.u32.wrap (IntKind.u8.wrap (BitVec.ofInt 8 ((s.getD 0 0).toNat:Int) &&& BitVec.ofInt 8 127).toNat)))),(14,.v (.slice A s.length c))] hW ah fun aw ai=>?_
 refine qal (qao ai (t:=22) (A:=A) (m:=s.length) (q:=0) (d:=15) kz (e:=5) (size:=1) (bytes:=1) (j:=0) kz ab rfl (by first | omega | (simp only [List.length_append,be_length,List.length_cons,List.length_nil] at *; omega)) fun ax aj=>?_)
 refine qal (qat aj (t:=5) (b:=am) (o:=ao + 0 * 1) (d:=16) kz (cs:=[.int .u8 ((s.getD 0 0).toNat:Int)]) (v:=.int .u8 ((s.getD 0 0).toNat:Int)) kz (AtF.move aa hW.step nilM qaF).at_ fun ay ak=>?_)
 refine qam [3,4] [] [(0,.v (.slice A s.length c)),(4,.v (.int .u32 (IntKind.u32.wrap (IntKind.u8.wrap (BitVec.ofInt 8 ((s.getD 0 0).toNat:Int) &&& BitVec.ofInt 8 127).toNat)))),(18,.v (.bool ((IntKind.u8.wrap (BitVec.ofInt 8 ((s.getD 0 0).toNat:Int) &&& BitVec.ofInt 8 128).toNat) == 0)))] hW ak fun az ac=>?_
 refine qag (qab ?_)
 refine qaV ac (b:=(IntKind.u8.wrap (BitVec.ofInt 8 ((s.getD 0 0).toNat:Int) &&& BitVec.ofInt 8 128).toNat) == 0) kz ((qbn _ (qa9 s 0)).trans (decide_eq_true (by have:=h0; unfold oc at this; omega))) ?_
 refine qau [(2,.v (.int .u32 (IntKind.u32.wrap (IntKind.u8.wrap (BitVec.ofInt 8 ((s.getD 0 0).toNat:Int) &&& BitVec.ofInt 8 127).toNat)))),(3,.v (.int .i64 1))] hW ac fun aA al=>?_
 refine wp_ret ?_
 refine qa2 ?_
 refine qcs ?_
 refine qaZ al hW.cells (v:=.tuple #[.int .u32 (IntKind.u32.wrap (IntKind.u8.wrap (BitVec.ofInt 8 ((s.getD 0 0).toNat:Int) &&& BitVec.ofInt 8 127).toNat)),.int .i64 1]) kz ?_
 have e_:=uv_1 (oc s 0) (qa9 s 0)
 refine ⟨congrArg (fun z_:Int=>Ending.returned (.tuple #[.int .u32 z_,.int .i64 1])) (Eq.trans e_ ?_),hW.step⟩
 omega
theorem rUv2 {A:Option Addr} {c:Nat} (s:Bs) {w:World} {F:Nat → Nat → Prop} (ho:Octs w F A c s) (hl:2 ≤ s.length) (d0 d1:Nat) (h0:oc s 0 = d0 + 128) (h1:oc s 1 = d1) (g0:d0 < 128) (g1:d1 < 128) :
  Calls Tryd.prog 118 #[.slice A s.length c] w (qcb w (.tuple #[.int .u32 ((d0 + d1 * 128:Nat):Int),.int .i64 2])):=by
 refine enter (n:=87) Tryd.func118 rfl Tryd.ntmps118 kz fun a hE=>?_
 have hW:=WOk.start w Nil
 refine qau [(0,.v (.slice A s.length c))] hW hE fun a1 hE2=>?_
 refine wp_scope_straight ?_
 refine qau [(0,.v (.slice A s.length c))] hW hE2 fun a3 hE4=>?_
 refine qau [(0,.v (.slice A s.length c))] hW hE4 fun a5 hE6=>?_
 refine wp_seq ?_
 refine qau [(0,.v (.slice A s.length c)),(8,.v (.bool (decide (((s.length:Nat):Int) < 1))))] hW hE6 fun a7 hE8=>?_
 refine qan hE8 (b:=decide (((s.length:Nat):Int) < 1)) kz (decide_eq_false (by omega)) ?_
 refine wp_skip ?_
 refine qab ?_
 refine qae [0,1,2,3,4,5] kz ?_
 refine qam [0] [1,2,3,4,5] [(0,.v (.slice A s.length c)),(9,.v (.slice A s.length c))] hW hE8 fun a9 ai=>?_
 obtain ⟨aB,aC,ac,aF,aa⟩:=Slots.get ho (i:=0) (by first | omega | (simp only [List.length_append,be_length,List.length_cons,List.length_nil] at *; omega))
 refine qal (qao ai (t:=22) (A:=A) (m:=s.length) (q:=0) (d:=10) kz (e:=5) (size:=1) (bytes:=1) (j:=0) kz ac rfl (by first | omega | (simp only [List.length_append,be_length,List.length_cons,List.length_nil] at *; omega)) fun aH aj=>?_)
 refine qal (qat aj (t:=5) (b:=aB) (o:=aC + 0 * 1) (d:=11) kz (cs:=[.int .u8 ((s.getD 0 0).toNat:Int)]) (v:=.int .u8 ((s.getD 0 0).toNat:Int)) kz (AtF.move aa hW.step nilM qaF).at_ fun aI ak=>?_)
 refine qam [3,4,5] [] [(0,.v (.slice A s.length c)),(4,.v (.int .u32 (IntKind.u32.wrap (IntKind.u8.wrap (BitVec.ofInt 8 ((s.getD 0 0).toNat:Int) &&& BitVec.ofInt 8 127).toNat))))] hW ak fun aJ al=>?_
 refine qag (qab ?_)
 refine wp_seq ?_
 refine qae [0,1,2,3,4] kz ?_
 refine qam [0] [1,2,3,4] [(0,.v (.slice A s.length c)),(4,.v (.int .u32 (IntKind.u32.wrap (IntKind.u8.wrap (BitVec.ofInt 8 ((s.getD 0 0).toNat:Int) &&& BitVec.ofInt 8 127).toNat)))),(14,.v (.slice A s.length c))] hW al fun aK am=>?_
 refine qal (qao am (t:=22) (A:=A) (m:=s.length) (q:=0) (d:=15) kz (e:=5) (size:=1) (bytes:=1) (j:=0) kz ac rfl (by first | omega | (simp only [List.length_append,be_length,List.length_cons,List.length_nil] at *; omega)) fun aL ao=>?_)
 refine qal (qat ao (t:=5) (b:=aB) (o:=aC + 0 * 1) (d:=16) kz (cs:=[.int .u8 ((s.getD 0 0).toNat:Int)]) (v:=.int .u8 ((s.getD 0 0).toNat:Int)) kz (AtF.move aa hW.step nilM qaF).at_ fun aM ap=>?_)
 refine qam [3,4] [] [(0,.v (.slice A s.length c)),(4,.v (.int .u32 (IntKind.u32.wrap (IntKind.u8.wrap (BitVec.ofInt 8 ((s.getD 0 0).toNat:Int) &&& BitVec.ofInt 8 127).toNat)))),(18,.v (.bool ((IntKind.u8.wrap (BitVec.ofInt 8 ((s.getD 0 0).toNat:Int) &&& BitVec.ofInt 8 128).toNat) == 0)))] hW ap fun aO ae=>?_
 refine qag (qab ?_)
 refine qan ae (b:=(IntKind.u8.wrap (BitVec.ofInt 8 ((s.getD 0 0).toNat:Int) &&& BitVec.ofInt 8 128).toNat) == 0) kz ((qbn _ (qa9 s 0)).trans (decide_eq_false (by have:=h0; unfold oc at this; omega))) ?_
 refine qau [(0,.v (.slice A s.length c)),(4,.v (.int .u32 (IntKind.u32.wrap (IntKind.u8.wrap (BitVec.ofInt 8 ((s.getD 0 0).toNat:Int) &&& BitVec.ofInt 8 127).toNat)))),(22,.v (.bool (decide (((s.length:Nat):Int) < 2))))] hW ae fun aP af=>?_
 refine qan af (b:=decide (((s.length:Nat):Int) < 2)) kz (decide_eq_false (by omega)) ?_
 refine wp_skip ?_
 refine qab ?_
 refine qae [0,1,2,3,4,5,6,7,8] kz ?_
 refine qam [0,1] [2,3,4,5,6,7,8] [(0,.v (.slice A s.length c)),(23,.v (.int .u32 (IntKind.u32.wrap (IntKind.u8.wrap (BitVec.ofInt 8 ((s.getD 0 0).toNat:Int) &&& BitVec.ofInt 8 127).toNat)))),(24,.v (.slice A s.length c))] hW af fun aQ ar=>?_
 obtain ⟨aD,aE,ag,aG,ab⟩:=Slots.get ho (i:=1) (by first | omega | (simp only [List.length_append,be_length,List.length_cons,List.length_nil] at *; omega))
 refine qal (qao ar (t:=22) (A:=A) (m:=s.length) (q:=1) (d:=25) kz (e:=5) (size:=1) (bytes:=1) (j:=1) kz ag rfl (by first | omega | (simp only [List.length_append,be_length,List.length_cons,List.length_nil] at *; omega)) fun aR au=>?_)
 refine qal (qat au (t:=5) (b:=aD) (o:=aE + 1 * 1) (d:=26) kz (cs:=[.int .u8 ((s.getD 1 0).toNat:Int)]) (v:=.int .u8 ((s.getD 1 0).toNat:Int)) kz (AtF.move ab hW.step nilM qaF).at_ fun aS av=>?_)
 refine qam [4,5,6,7,8] [] [(0,.v (.slice A s.length c)),(4,.v (.int .u32 (IntKind.u32.wrap (BitVec.ofInt 32 (IntKind.u32.wrap (IntKind.u8.wrap (BitVec.ofInt 8 ((s.getD 0 0).toNat:Int) &&& BitVec.ofInt 8 127).toNat)) ||| BitVec.ofInt 32 (IntKind.u32.wrap ((IntKind.u32.wrap (IntKind.u8.wrap (BitVec.ofInt 8 ((s.getD 1 0).toNat:Int) &&& BitVec.ofInt 8 127).toNat)) * 128))).toNat)))] hW av fun aT aw=>?_
 refine qag (qab ?_)
 refine wp_seq ?_
 refine qae [0,1,2,3,4] kz ?_
 refine qam [0] [1,2,3,4] [(0,.v (.slice A s.length c)),(4,.v (.int .u32 (IntKind.u32.wrap (BitVec.ofInt 32 (IntKind.u32.wrap (IntKind.u8.wrap (BitVec.ofInt 8 ((s.getD 0 0).toNat:Int) &&& BitVec.ofInt 8 127).toNat)) ||| BitVec.ofInt 32 (IntKind.u32.wrap ((IntKind.u32.wrap (IntKind.u8.wrap (BitVec.ofInt 8 ((s.getD 1 0).toNat:Int) &&& BitVec.ofInt 8 127).toNat)) * 128))).toNat))),(31,.v (.slice A s.length c))] hW aw fun aU ax=>?_
 refine qal (qao ax (t:=22) (A:=A) (m:=s.length) (q:=1) (d:=32) kz (e:=5) (size:=1) (bytes:=1) (j:=1) kz ag rfl (by first | omega | (simp only [List.length_append,be_length,List.length_cons,List.length_nil] at *; omega)) fun aV ay=>?_)
 refine qal (qat ay (t:=5) (b:=aD) (o:=aE + 1 * 1) (d:=33) kz (cs:=[.int .u8 ((s.getD 1 0).toNat:Int)]) (v:=.int .u8 ((s.getD 1 0).toNat:Int)) kz (AtF.move ab hW.step nilM qaF).at_ fun aW az=>?_)
 refine qam [3,4] [] [(0,.v (.slice A s.length c)),(4,.v (.int .u32 (IntKind.u32.wrap (BitVec.ofInt 32 (IntKind.u32.wrap (IntKind.u8.wrap (BitVec.ofInt 8 ((s.getD 0 0).toNat:Int) &&& BitVec.ofInt 8 127).toNat)) ||| BitVec.ofInt 32 (IntKind.u32.wrap ((IntKind.u32.wrap (IntKind.u8.wrap (BitVec.ofInt 8 ((s.getD 1 0).toNat:Int) &&& BitVec.ofInt 8 127).toNat)) * 128))).toNat))),(35,.v (.bool ((IntKind.u8.wrap (BitVec.ofInt 8 ((s.getD 1 0).toNat:Int) &&& BitVec.ofInt 8 128).toNat) == 0)))] hW az fun aX ah=>?_
 refine qag (qab ?_)
 refine qaV ah (b:=(IntKind.u8.wrap (BitVec.ofInt 8 ((s.getD 1 0).toNat:Int) &&& BitVec.ofInt 8 128).toNat) == 0) kz ((qbn _ (qa9 s 1)).trans (decide_eq_true (by have:=h1; unfold oc at this; omega))) ?_
 refine qau [(2,.v (.int .u32 (IntKind.u32.wrap (BitVec.ofInt 32 (IntKind.u32.wrap (IntKind.u8.wrap (BitVec.ofInt 8 ((s.getD 0 0).toNat:Int) &&& BitVec.ofInt 8 127).toNat)) ||| BitVec.ofInt 32 (IntKind.u32.wrap ((IntKind.u32.wrap (IntKind.u8.wrap (BitVec.ofInt 8 ((s.getD 1 0).toNat:Int) &&& BitVec.ofInt 8 127).toNat)) * 128))).toNat))),(3,.v (.int .i64 2))] hW ah fun aY aA=>?_
 refine wp_ret ?_
 refine qa2 ?_
 refine qcs ?_
 refine qaZ aA hW.cells (v:=.tuple #[.int .u32 (IntKind.u32.wrap (BitVec.ofInt 32 (IntKind.u32.wrap (IntKind.u8.wrap (BitVec.ofInt 8 ((s.getD 0 0).toNat:Int) &&& BitVec.ofInt 8 127).toNat)) ||| BitVec.ofInt 32 (IntKind.u32.wrap ((IntKind.u32.wrap (IntKind.u8.wrap (BitVec.ofInt 8 ((s.getD 1 0).toNat:Int) &&& BitVec.ofInt 8 127).toNat)) * 128))).toNat),.int .i64 2]) kz ?_
 have e_:=uv_2 (oc s 0) (oc s 1) (qa9 s 0) (qa9 s 1)
 refine ⟨congrArg (fun z_:Int=>Ending.returned (.tuple #[.int .u32 z_,.int .i64 2])) (Eq.trans e_ ?_),hW.step⟩
 omega
theorem rUv3 {A:Option Addr} {c:Nat} (s:Bs) {w:World} {F:Nat → Nat → Prop} (ho:Octs w F A c s) (hl:3 ≤ s.length) (d0 d1 d2:Nat) (h0:oc s 0 = d0 + 128) (h1:oc s 1 = d1 + 128) (h2:oc s 2 = d2) (g0:d0 < 128) (g1:d1 < 128) (g2:d2 < 128) :
  Calls Tryd.prog 118 #[.slice A s.length c] w (qcb w (.tuple #[.int .u32 ((d0 + d1 * 128 + d2 * 16384:Nat):Int),.int .i64 3])):=by
 refine enter (n:=87) Tryd.func118 rfl Tryd.ntmps118 kz fun a hE=>?_
 have hW:=WOk.start w Nil
 refine qau [(0,.v (.slice A s.length c))] hW hE fun a1 hE2=>?_
 refine wp_scope_straight ?_
 refine qau [(0,.v (.slice A s.length c))] hW hE2 fun a3 hE4=>?_
 refine qau [(0,.v (.slice A s.length c))] hW hE4 fun a5 hE6=>?_
 refine wp_seq ?_
 refine qau [(0,.v (.slice A s.length c)),(8,.v (.bool (decide (((s.length:Nat):Int) < 1))))] hW hE6 fun a7 hE8=>?_
 refine qan hE8 (b:=decide (((s.length:Nat):Int) < 1)) kz (decide_eq_false (by omega)) ?_
 refine wp_skip ?_
 refine qab ?_
 refine qae [0,1,2,3,4,5] kz ?_
 refine qam [0] [1,2,3,4,5] [(0,.v (.slice A s.length c)),(9,.v (.slice A s.length c))] hW hE8 fun a9 am=>?_
 obtain ⟨aM,aO,ae,aT,aa⟩:=Slots.get ho (i:=0) (by first | omega | (simp only [List.length_append,be_length,List.length_cons,List.length_nil] at *; omega))
 refine qal (qao am (t:=22) (A:=A) (m:=s.length) (q:=0) (d:=10) kz (e:=5) (size:=1) (bytes:=1) (j:=0) kz ae rfl (by first | omega | (simp only [List.length_append,be_length,List.length_cons,List.length_nil] at *; omega)) fun aW ao=>?_)
 refine qal (qat ao (t:=5) (b:=aM) (o:=aO + 0 * 1) (d:=11) kz (cs:=[.int .u8 ((s.getD 0 0).toNat:Int)]) (v:=.int .u8 ((s.getD 0 0).toNat:Int)) kz (AtF.move aa hW.step nilM qaF).at_ fun aX ap=>?_)
 refine qam [3,4,5] [] [(0,.v (.slice A s.length c)),(4,.v (.int .u32 (IntKind.u32.wrap (IntKind.u8.wrap (BitVec.ofInt 8 ((s.getD 0 0).toNat:Int) &&& BitVec.ofInt 8 127).toNat))))] hW ap fun aY ar=>?_
 refine qag (qab ?_)
 refine wp_seq ?_
 refine qae [0,1,2,3,4] kz ?_
 refine qam [0] [1,2,3,4] [(0,.v (.slice A s.length c)),(4,.v (.int .u32 (IntKind.u32.wrap (IntKind.u8.wrap (BitVec.ofInt 8 ((s.getD 0 0).toNat:Int) &&& BitVec.ofInt 8 127).toNat)))),(14,.v (.slice A s.length c))] hW ar fun aZ au=>?_
 refine qal (qao au (t:=22) (A:=A) (m:=s.length) (q:=0) (d:=15) kz (e:=5) (size:=1) (bytes:=1) (j:=0) kz ae rfl (by first | omega | (simp only [List.length_append,be_length,List.length_cons,List.length_nil] at *; omega)) fun ba av=>?_)
 refine qal (qat av (t:=5) (b:=aM) (o:=aO + 0 * 1) (d:=16) kz (cs:=[.int .u8 ((s.getD 0 0).toNat:Int)]) (v:=.int .u8 ((s.getD 0 0).toNat:Int)) kz (AtF.move aa hW.step nilM qaF).at_ fun bf aw=>?_)
 refine qam [3,4] [] [(0,.v (.slice A s.length c)),(4,.v (.int .u32 (IntKind.u32.wrap (IntKind.u8.wrap (BitVec.ofInt 8 ((s.getD 0 0).toNat:Int) &&& BitVec.ofInt 8 127).toNat)))),(18,.v (.bool ((IntKind.u8.wrap (BitVec.ofInt 8 ((s.getD 0 0).toNat:Int) &&& BitVec.ofInt 8 128).toNat) == 0)))] hW aw fun bg af=>?_
 refine qag (qab ?_)
 refine qan af (b:=(IntKind.u8.wrap (BitVec.ofInt 8 ((s.getD 0 0).toNat:Int) &&& BitVec.ofInt 8 128).toNat) == 0) kz ((qbn _ (qa9 s 0)).trans (decide_eq_false (by have:=h0; unfold oc at this; omega))) ?_
 refine qau [(0,.v (.slice A s.length c)),(4,.v (.int .u32 (IntKind.u32.wrap (IntKind.u8.wrap (BitVec.ofInt 8 ((s.getD 0 0).toNat:Int) &&& BitVec.ofInt 8 127).toNat)))),(22,.v (.bool (decide (((s.length:Nat):Int) < 2))))] hW af fun bh ag=>?_
 refine qan ag (b:=decide (((s.length:Nat):Int) < 2)) kz (decide_eq_false (by omega)) ?_
 refine wp_skip ?_
 refine qab ?_
 refine qae [0,1,2,3,4,5,6,7,8] kz ?_
 refine qam [0,1] [2,3,4,5,6,7,8] [(0,.v (.slice A s.length c)),(23,.v (.int .u32 (IntKind.u32.wrap (IntKind.u8.wrap (BitVec.ofInt 8 ((s.getD 0 0).toNat:Int) &&& BitVec.ofInt 8 127).toNat)))),(24,.v (.slice A s.length c))] hW ag fun bi ax=>?_
 obtain ⟨aP,aQ,ah,aU,ab⟩:=Slots.get ho (i:=1) (by first | omega | (simp only [List.length_append,be_length,List.length_cons,List.length_nil] at *; omega))
 refine qal (qao ax (t:=22) (A:=A) (m:=s.length) (q:=1) (d:=25) kz (e:=5) (size:=1) (bytes:=1) (j:=1) kz ah rfl (by first | omega | (simp only [List.length_append,be_length,List.length_cons,List.length_nil] at *; omega)) fun bj ay=>?_)
 refine qal (qat ay (t:=5) (b:=aP) (o:=aQ + 1 * 1) (d:=26) kz (cs:=[.int .u8 ((s.getD 1 0).toNat:Int)]) (v:=.int .u8 ((s.getD 1 0).toNat:Int)) kz (AtF.move ab hW.step nilM qaF).at_ fun bk az=>?_)
 refine qam [4,5,6,7,8] [] [(0,.v (.slice A s.length c)),(4,.v (.int .u32 (IntKind.u32.wrap (BitVec.ofInt 32 (IntKind.u32.wrap (IntKind.u8.wrap (BitVec.ofInt 8 ((s.getD 0 0).toNat:Int) &&& BitVec.ofInt 8 127).toNat)) ||| BitVec.ofInt 32 (IntKind.u32.wrap ((IntKind.u32.wrap (IntKind.u8.wrap (BitVec.ofInt 8 ((s.getD 1 0).toNat:Int) &&& BitVec.ofInt 8 127).toNat)) * 128))).toNat)))] hW az fun bn aA=>?_
 refine qag (qab ?_)
 refine wp_seq ?_
 refine qae [0,1,2,3,4] kz ?_
 refine qam [0] [1,2,3,4] [(0,.v (.slice A s.length c)),(4,.v (.int .u32 (IntKind.u32.wrap (BitVec.ofInt 32 (IntKind.u32.wrap (IntKind.u8.wrap (BitVec.ofInt 8 ((s.getD 0 0).toNat:Int) &&& BitVec.ofInt 8 127).toNat)) ||| BitVec.ofInt 32 (IntKind.u32.wrap ((IntKind.u32.wrap (IntKind.u8.wrap (BitVec.ofInt 8 ((s.getD 1 0).toNat:Int) &&& BitVec.ofInt 8 127).toNat)) * 128))).toNat))),(31,.v (.slice A s.length c))] hW aA fun bo aB=>?_
 refine qal (qao aB (t:=22) (A:=A) (m:=s.length) (q:=1) (d:=32) kz (e:=5) (size:=1) (bytes:=1) (j:=1) kz ah rfl (by first | omega | (simp only [List.length_append,be_length,List.length_cons,List.length_nil] at *; omega)) fun bp aC=>?_)
 refine qal (qat aC (t:=5) (b:=aP) (o:=aQ + 1 * 1) (d:=33) kz (cs:=[.int .u8 ((s.getD 1 0).toNat:Int)]) (v:=.int .u8 ((s.getD 1 0).toNat:Int)) kz (AtF.move ab hW.step nilM qaF).at_ fun bq aD=>?_)
 refine qam [3,4] [] [(0,.v (.slice A s.length c)),(4,.v (.int .u32 (IntKind.u32.wrap (BitVec.ofInt 32 (IntKind.u32.wrap (IntKind.u8.wrap (BitVec.ofInt 8 ((s.getD 0 0).toNat:Int) &&& BitVec.ofInt 8 127).toNat)) ||| BitVec.ofInt 32 (IntKind.u32.wrap ((IntKind.u32.wrap (IntKind.u8.wrap (BitVec.ofInt 8 ((s.getD 1 0).toNat:Int) &&& BitVec.ofInt 8 127).toNat)) * 128))).toNat))),(35,.v (.bool ((IntKind.u8.wrap (BitVec.ofInt 8 ((s.getD 1 0).toNat:Int) &&& BitVec.ofInt 8 128).toNat) == 0)))] hW aD fun bt ai=>?_
 refine qag (qab ?_)
 refine qan ai (b:=(IntKind.u8.wrap (BitVec.ofInt 8 ((s.getD 1 0).toNat:Int) &&& BitVec.ofInt 8 128).toNat) == 0) kz ((qbn _ (qa9 s 1)).trans (decide_eq_false (by have:=h1; unfold oc at this; omega))) ?_
 refine qau [(0,.v (.slice A s.length c)),(4,.v (.int .u32 (IntKind.u32.wrap (BitVec.ofInt 32 (IntKind.u32.wrap (IntKind.u8.wrap (BitVec.ofInt 8 ((s.getD 0 0).toNat:Int) &&& BitVec.ofInt 8 127).toNat)) ||| BitVec.ofInt 32 (IntKind.u32.wrap ((IntKind.u32.wrap (IntKind.u8.wrap (BitVec.ofInt 8 ((s.getD 1 0).toNat:Int) &&& BitVec.ofInt 8 127).toNat)) * 128))).toNat))),(39,.v (.bool (decide (((s.length:Nat):Int) < 3))))] hW ai fun bu aj=>?_
 refine qan aj (b:=decide (((s.length:Nat):Int) < 3)) kz (decide_eq_false (by omega)) ?_
 refine wp_skip ?_
 refine qab ?_
 refine qae [0,1,2,3,4,5,6,7,8] kz ?_
 refine qam [0,1] [2,3,4,5,6,7,8] [(0,.v (.slice A s.length c)),(40,.v (.int .u32 (IntKind.u32.wrap (BitVec.ofInt 32 (IntKind.u32.wrap (IntKind.u8.wrap (BitVec.ofInt 8 ((s.getD 0 0).toNat:Int) &&& BitVec.ofInt 8 127).toNat)) ||| BitVec.ofInt 32 (IntKind.u32.wrap ((IntKind.u32.wrap (IntKind.u8.wrap (BitVec.ofInt 8 ((s.getD 1 0).toNat:Int) &&& BitVec.ofInt 8 127).toNat)) * 128))).toNat))),(41,.v (.slice A s.length c))] hW aj fun bw aE=>?_
 obtain ⟨aR,aS,ak,aV,ac⟩:=Slots.get ho (i:=2) (by first | omega | (simp only [List.length_append,be_length,List.length_cons,List.length_nil] at *; omega))
 refine qal (qao aE (t:=22) (A:=A) (m:=s.length) (q:=2) (d:=42) kz (e:=5) (size:=1) (bytes:=1) (j:=2) kz ak rfl (by first | omega | (simp only [List.length_append,be_length,List.length_cons,List.length_nil] at *; omega)) fun bx aF=>?_)
 refine qal (qat aF (t:=5) (b:=aR) (o:=aS + 2 * 1) (d:=43) kz (cs:=[.int .u8 ((s.getD 2 0).toNat:Int)]) (v:=.int .u8 ((s.getD 2 0).toNat:Int)) kz (AtF.move ac hW.step nilM qaF).at_ fun bz aG=>?_)
 refine qam [4,5,6,7,8] [] [(0,.v (.slice A s.length c)),(4,.v (.int .u32 (IntKind.u32.wrap (BitVec.ofInt 32 (IntKind.u32.wrap (BitVec.ofInt 32 (IntKind.u32.wrap (IntKind.u8.wrap (BitVec.ofInt 8 ((s.getD 0 0).toNat:Int) &&& BitVec.ofInt 8 127).toNat)) ||| BitVec.ofInt 32 (IntKind.u32.wrap ((IntKind.u32.wrap (IntKind.u8.wrap (BitVec.ofInt 8 ((s.getD 1 0).toNat:Int) &&& BitVec.ofInt 8 127).toNat)) * 128))).toNat) ||| BitVec.ofInt 32 (IntKind.u32.wrap ((IntKind.u32.wrap (IntKind.u8.wrap (BitVec.ofInt 8 ((s.getD 2 0).toNat:Int) &&& BitVec.ofInt 8 127).toNat)) * 16384))).toNat)))] hW aG fun bA aH=>?_
 refine qag (qab ?_)
 refine wp_seq ?_
 refine qae [0,1,2,3,4] kz ?_
 refine qam [0] [1,2,3,4] [(0,.v (.slice A s.length c)),(4,.v (.int .u32 (IntKind.u32.wrap (BitVec.ofInt 32 (IntKind.u32.wrap (BitVec.ofInt 32 (IntKind.u32.wrap (IntKind.u8.wrap (BitVec.ofInt 8 ((s.getD 0 0).toNat:Int) &&& BitVec.ofInt 8 127).toNat)) ||| BitVec.ofInt 32 (IntKind.u32.wrap ((IntKind.u32.wrap (IntKind.u8.wrap (BitVec.ofInt 8 ((s.getD 1 0).toNat:Int) &&& BitVec.ofInt 8 127).toNat)) * 128))).toNat) ||| BitVec.ofInt 32 (IntKind.u32.wrap ((IntKind.u32.wrap (IntKind.u8.wrap (BitVec.ofInt 8 ((s.getD 2 0).toNat:Int) &&& BitVec.ofInt 8 127).toNat)) * 16384))).toNat))),(48,.v (.slice A s.length c))] hW aH fun bB aI=>?_
 refine qal (qao aI (t:=22) (A:=A) (m:=s.length) (q:=2) (d:=49) kz (e:=5) (size:=1) (bytes:=1) (j:=2) kz ak rfl (by first | omega | (simp only [List.length_append,be_length,List.length_cons,List.length_nil] at *; omega)) fun bC aJ=>?_)
 refine qal (qat aJ (t:=5) (b:=aR) (o:=aS + 2 * 1) (d:=50) kz (cs:=[.int .u8 ((s.getD 2 0).toNat:Int)]) (v:=.int .u8 ((s.getD 2 0).toNat:Int)) kz (AtF.move ac hW.step nilM qaF).at_ fun bD aK=>?_)
 refine qam [3,4] [] [(0,.v (.slice A s.length c)),(4,.v (.int .u32 (IntKind.u32.wrap (BitVec.ofInt 32 (IntKind.u32.wrap (BitVec.ofInt 32 (IntKind.u32.wrap (IntKind.u8.wrap (BitVec.ofInt 8 ((s.getD 0 0).toNat:Int) &&& BitVec.ofInt 8 127).toNat)) ||| BitVec.ofInt 32 (IntKind.u32.wrap ((IntKind.u32.wrap (IntKind.u8.wrap (BitVec.ofInt 8 ((s.getD 1 0).toNat:Int) &&& BitVec.ofInt 8 127).toNat)) * 128))).toNat) ||| BitVec.ofInt 32 (IntKind.u32.wrap ((IntKind.u32.wrap (IntKind.u8.wrap (BitVec.ofInt 8 ((s.getD 2 0).toNat:Int) &&& BitVec.ofInt 8 127).toNat)) * 16384))).toNat))),(52,.v (.bool ((IntKind.u8.wrap (BitVec.ofInt 8 ((s.getD 2 0).toNat:Int) &&& BitVec.ofInt 8 128).toNat) == 0)))] hW aK fun bE al=>?_
 refine qag (qab ?_)
 refine qaV al (b:=(IntKind.u8.wrap (BitVec.ofInt 8 ((s.getD 2 0).toNat:Int) &&& BitVec.ofInt 8 128).toNat) == 0) kz ((qbn _ (qa9 s 2)).trans (decide_eq_true (by have:=h2; unfold oc at this; omega))) ?_
 refine qau [(2,.v (.int .u32 (IntKind.u32.wrap (BitVec.ofInt 32 (IntKind.u32.wrap (BitVec.ofInt 32 (IntKind.u32.wrap (IntKind.u8.wrap (BitVec.ofInt 8 ((s.getD 0 0).toNat:Int) &&& BitVec.ofInt 8 127).toNat)) ||| BitVec.ofInt 32 (IntKind.u32.wrap ((IntKind.u32.wrap (IntKind.u8.wrap (BitVec.ofInt 8 ((s.getD 1 0).toNat:Int) &&& BitVec.ofInt 8 127).toNat)) * 128))).toNat) ||| BitVec.ofInt 32 (IntKind.u32.wrap ((IntKind.u32.wrap (IntKind.u8.wrap (BitVec.ofInt 8 ((s.getD 2 0).toNat:Int) &&& BitVec.ofInt 8 127).toNat)) * 16384))).toNat))),(3,.v (.int .i64 3))] hW al fun bF aL=>?_
 refine wp_ret ?_
 refine qa2 ?_
 refine qcs ?_
 refine qaZ aL hW.cells (v:=.tuple #[.int .u32 (IntKind.u32.wrap (BitVec.ofInt 32 (IntKind.u32.wrap (BitVec.ofInt 32 (IntKind.u32.wrap (IntKind.u8.wrap (BitVec.ofInt 8 ((s.getD 0 0).toNat:Int) &&& BitVec.ofInt 8 127).toNat)) ||| BitVec.ofInt 32 (IntKind.u32.wrap ((IntKind.u32.wrap (IntKind.u8.wrap (BitVec.ofInt 8 ((s.getD 1 0).toNat:Int) &&& BitVec.ofInt 8 127).toNat)) * 128))).toNat) ||| BitVec.ofInt 32 (IntKind.u32.wrap ((IntKind.u32.wrap (IntKind.u8.wrap (BitVec.ofInt 8 ((s.getD 2 0).toNat:Int) &&& BitVec.ofInt 8 127).toNat)) * 16384))).toNat),.int .i64 3]) kz ?_
 have e_:=uv_3 (oc s 0) (oc s 1) (oc s 2) (qa9 s 0) (qa9 s 1) (qa9 s 2)
 refine ⟨congrArg (fun z_:Int=>Ending.returned (.tuple #[.int .u32 z_,.int .i64 3])) (Eq.trans e_ ?_),hW.step⟩
 omega
theorem rUv4 {A:Option Addr} {c:Nat} (s:Bs) {w:World} {F:Nat → Nat → Prop} (ho:Octs w F A c s) (hl:4 ≤ s.length) (d0 d1 d2 d3:Nat) (h0:oc s 0 = d0 + 128) (h1:oc s 1 = d1 + 128) (h2:oc s 2 = d2 + 128) (h3:oc s 3 = d3) (g0:d0 < 128) (g1:d1 < 128) (g2:d2 < 128) (g3:d3 < 128) :
  Calls Tryd.prog 118 #[.slice A s.length c] w (qcb w (.tuple #[.int .u32 ((d0 + d1 * 128 + d2 * 16384 + d3 * 2097152:Nat):Int),.int .i64 4])):=by
 refine enter (n:=87) Tryd.func118 rfl Tryd.ntmps118 kz fun a hE=>?_
 have hW:=WOk.start w Nil
 refine qau [(0,.v (.slice A s.length c))] hW hE fun a1 hE2=>?_
 refine wp_scope_straight ?_
 refine qau [(0,.v (.slice A s.length c))] hW hE2 fun a3 hE4=>?_
 refine qau [(0,.v (.slice A s.length c))] hW hE4 fun a5 hE6=>?_
 refine wp_seq ?_
 refine qau [(0,.v (.slice A s.length c)),(8,.v (.bool (decide (((s.length:Nat):Int) < 1))))] hW hE6 fun a7 hE8=>?_
 refine qan hE8 (b:=decide (((s.length:Nat):Int) < 1)) kz (decide_eq_false (by omega)) ?_
 refine wp_skip ?_
 refine qab ?_
 refine qae [0,1,2,3,4,5] kz ?_
 refine qam [0] [1,2,3,4,5] [(0,.v (.slice A s.length c)),(9,.v (.slice A s.length c))] hW hE8 fun a9 av=>?_
 obtain ⟨aY,aZ,af,bk,aa⟩:=Slots.get ho (i:=0) (by first | omega | (simp only [List.length_append,be_length,List.length_cons,List.length_nil] at *; omega))
 refine qal (qao av (t:=22) (A:=A) (m:=s.length) (q:=0) (d:=10) kz (e:=5) (size:=1) (bytes:=1) (j:=0) kz af rfl (by first | omega | (simp only [List.length_append,be_length,List.length_cons,List.length_nil] at *; omega)) fun bq aw=>?_)
 refine qal (qat aw (t:=5) (b:=aY) (o:=aZ + 0 * 1) (d:=11) kz (cs:=[.int .u8 ((s.getD 0 0).toNat:Int)]) (v:=.int .u8 ((s.getD 0 0).toNat:Int)) kz (AtF.move aa hW.step nilM qaF).at_ fun bt ax=>?_)
 refine qam [3,4,5] [] [(0,.v (.slice A s.length c)),(4,.v (.int .u32 (IntKind.u32.wrap (IntKind.u8.wrap (BitVec.ofInt 8 ((s.getD 0 0).toNat:Int) &&& BitVec.ofInt 8 127).toNat))))] hW ax fun bu ay=>?_
 refine qag (qab ?_)
 refine wp_seq ?_
 refine qae [0,1,2,3,4] kz ?_
 refine qam [0] [1,2,3,4] [(0,.v (.slice A s.length c)),(4,.v (.int .u32 (IntKind.u32.wrap (IntKind.u8.wrap (BitVec.ofInt 8 ((s.getD 0 0).toNat:Int) &&& BitVec.ofInt 8 127).toNat)))),(14,.v (.slice A s.length c))] hW ay fun bw az=>?_
 refine qal (qao az (t:=22) (A:=A) (m:=s.length) (q:=0) (d:=15) kz (e:=5) (size:=1) (bytes:=1) (j:=0) kz af rfl (by first | omega | (simp only [List.length_append,be_length,List.length_cons,List.length_nil] at *; omega)) fun bx aA=>?_)
 refine qal (qat aA (t:=5) (b:=aY) (o:=aZ + 0 * 1) (d:=16) kz (cs:=[.int .u8 ((s.getD 0 0).toNat:Int)]) (v:=.int .u8 ((s.getD 0 0).toNat:Int)) kz (AtF.move aa hW.step nilM qaF).at_ fun bz aB=>?_)
 refine qam [3,4] [] [(0,.v (.slice A s.length c)),(4,.v (.int .u32 (IntKind.u32.wrap (IntKind.u8.wrap (BitVec.ofInt 8 ((s.getD 0 0).toNat:Int) &&& BitVec.ofInt 8 127).toNat)))),(18,.v (.bool ((IntKind.u8.wrap (BitVec.ofInt 8 ((s.getD 0 0).toNat:Int) &&& BitVec.ofInt 8 128).toNat) == 0)))] hW aB fun bA ag=>?_
 refine qag (qab ?_)
 refine qan ag (b:=(IntKind.u8.wrap (BitVec.ofInt 8 ((s.getD 0 0).toNat:Int) &&& BitVec.ofInt 8 128).toNat) == 0) kz ((qbn _ (qa9 s 0)).trans (decide_eq_false (by have:=h0; unfold oc at this; omega))) ?_
 refine qau [(0,.v (.slice A s.length c)),(4,.v (.int .u32 (IntKind.u32.wrap (IntKind.u8.wrap (BitVec.ofInt 8 ((s.getD 0 0).toNat:Int) &&& BitVec.ofInt 8 127).toNat)))),(22,.v (.bool (decide (((s.length:Nat):Int) < 2))))] hW ag fun bB ah=>?_
 refine qan ah (b:=decide (((s.length:Nat):Int) < 2)) kz (decide_eq_false (by omega)) ?_
 refine wp_skip ?_
 refine qab ?_
 refine qae [0,1,2,3,4,5,6,7,8] kz ?_
 refine qam [0,1] [2,3,4,5,6,7,8] [(0,.v (.slice A s.length c)),(23,.v (.int .u32 (IntKind.u32.wrap (IntKind.u8.wrap (BitVec.ofInt 8 ((s.getD 0 0).toNat:Int) &&& BitVec.ofInt 8 127).toNat)))),(24,.v (.slice A s.length c))] hW ah fun bC aC=>?_
 obtain ⟨ba,bf,ai,bn,ab⟩:=Slots.get ho (i:=1) (by first | omega | (simp only [List.length_append,be_length,List.length_cons,List.length_nil] at *; omega))
 refine qal (qao aC (t:=22) (A:=A) (m:=s.length) (q:=1) (d:=25) kz (e:=5) (size:=1) (bytes:=1) (j:=1) kz ai rfl (by first | omega | (simp only [List.length_append,be_length,List.length_cons,List.length_nil] at *; omega)) fun bD aD=>?_)
 refine qal (qat aD (t:=5) (b:=ba) (o:=bf + 1 * 1) (d:=26) kz (cs:=[.int .u8 ((s.getD 1 0).toNat:Int)]) (v:=.int .u8 ((s.getD 1 0).toNat:Int)) kz (AtF.move ab hW.step nilM qaF).at_ fun bE aE=>?_)
 refine qam [4,5,6,7,8] [] [(0,.v (.slice A s.length c)),(4,.v (.int .u32 (IntKind.u32.wrap (BitVec.ofInt 32 (IntKind.u32.wrap (IntKind.u8.wrap (BitVec.ofInt 8 ((s.getD 0 0).toNat:Int) &&& BitVec.ofInt 8 127).toNat)) ||| BitVec.ofInt 32 (IntKind.u32.wrap ((IntKind.u32.wrap (IntKind.u8.wrap (BitVec.ofInt 8 ((s.getD 1 0).toNat:Int) &&& BitVec.ofInt 8 127).toNat)) * 128))).toNat)))] hW aE fun bF aF=>?_
 refine qag (qab ?_)
 refine wp_seq ?_
 refine qae [0,1,2,3,4] kz ?_
 refine qam [0] [1,2,3,4] [(0,.v (.slice A s.length c)),(4,.v (.int .u32 (IntKind.u32.wrap (BitVec.ofInt 32 (IntKind.u32.wrap (IntKind.u8.wrap (BitVec.ofInt 8 ((s.getD 0 0).toNat:Int) &&& BitVec.ofInt 8 127).toNat)) ||| BitVec.ofInt 32 (IntKind.u32.wrap ((IntKind.u32.wrap (IntKind.u8.wrap (BitVec.ofInt 8 ((s.getD 1 0).toNat:Int) &&& BitVec.ofInt 8 127).toNat)) * 128))).toNat))),(31,.v (.slice A s.length c))] hW aF fun bG aG=>?_
 refine qal (qao aG (t:=22) (A:=A) (m:=s.length) (q:=1) (d:=32) kz (e:=5) (size:=1) (bytes:=1) (j:=1) kz ai rfl (by first | omega | (simp only [List.length_append,be_length,List.length_cons,List.length_nil] at *; omega)) fun bH aH=>?_)
 refine qal (qat aH (t:=5) (b:=ba) (o:=bf + 1 * 1) (d:=33) kz (cs:=[.int .u8 ((s.getD 1 0).toNat:Int)]) (v:=.int .u8 ((s.getD 1 0).toNat:Int)) kz (AtF.move ab hW.step nilM qaF).at_ fun bI aI=>?_)
 refine qam [3,4] [] [(0,.v (.slice A s.length c)),(4,.v (.int .u32 (IntKind.u32.wrap (BitVec.ofInt 32 (IntKind.u32.wrap (IntKind.u8.wrap (BitVec.ofInt 8 ((s.getD 0 0).toNat:Int) &&& BitVec.ofInt 8 127).toNat)) ||| BitVec.ofInt 32 (IntKind.u32.wrap ((IntKind.u32.wrap (IntKind.u8.wrap (BitVec.ofInt 8 ((s.getD 1 0).toNat:Int) &&& BitVec.ofInt 8 127).toNat)) * 128))).toNat))),(35,.v (.bool ((IntKind.u8.wrap (BitVec.ofInt 8 ((s.getD 1 0).toNat:Int) &&& BitVec.ofInt 8 128).toNat) == 0)))] hW aI fun bJ aj=>?_
 refine qag (qab ?_)
 refine qan aj (b:=(IntKind.u8.wrap (BitVec.ofInt 8 ((s.getD 1 0).toNat:Int) &&& BitVec.ofInt 8 128).toNat) == 0) kz ((qbn _ (qa9 s 1)).trans (decide_eq_false (by have:=h1; unfold oc at this; omega))) ?_
 refine qau [(0,.v (.slice A s.length c)),(4,.v (.int .u32 (IntKind.u32.wrap (BitVec.ofInt 32 (IntKind.u32.wrap (IntKind.u8.wrap (BitVec.ofInt 8 ((s.getD 0 0).toNat:Int) &&& BitVec.ofInt 8 127).toNat)) ||| BitVec.ofInt 32 (IntKind.u32.wrap ((IntKind.u32.wrap (IntKind.u8.wrap (BitVec.ofInt 8 ((s.getD 1 0).toNat:Int) &&& BitVec.ofInt 8 127).toNat)) * 128))).toNat))),(39,.v (.bool (decide (((s.length:Nat):Int) < 3))))] hW aj fun bK ak=>?_
 refine qan ak (b:=decide (((s.length:Nat):Int) < 3)) kz (decide_eq_false (by omega)) ?_
 refine wp_skip ?_
 refine qab ?_
 refine qae [0,1,2,3,4,5,6,7,8] kz ?_
 refine qam [0,1] [2,3,4,5,6,7,8] [(0,.v (.slice A s.length c)),(40,.v (.int .u32 (IntKind.u32.wrap (BitVec.ofInt 32 (IntKind.u32.wrap (IntKind.u8.wrap (BitVec.ofInt 8 ((s.getD 0 0).toNat:Int) &&& BitVec.ofInt 8 127).toNat)) ||| BitVec.ofInt 32 (IntKind.u32.wrap ((IntKind.u32.wrap (IntKind.u8.wrap (BitVec.ofInt 8 ((s.getD 1 0).toNat:Int) &&& BitVec.ofInt 8 127).toNat)) * 128))).toNat))),(41,.v (.slice A s.length c))] hW ak fun bL aJ=>?_
 obtain ⟨bg,bh,al,bo,ac⟩:=Slots.get ho (i:=2) (by first | omega | (simp only [List.length_append,be_length,List.length_cons,List.length_nil] at *; omega))
 refine qal (qao aJ (t:=22) (A:=A) (m:=s.length) (q:=2) (d:=42) kz (e:=5) (size:=1) (bytes:=1) (j:=2) kz al rfl (by first | omega | (simp only [List.length_append,be_length,List.length_cons,List.length_nil] at *; omega)) fun bM aK=>?_)
 refine qal (qat aK (t:=5) (b:=bg) (o:=bh + 2 * 1) (d:=43) kz (cs:=[.int .u8 ((s.getD 2 0).toNat:Int)]) (v:=.int .u8 ((s.getD 2 0).toNat:Int)) kz (AtF.move ac hW.step nilM qaF).at_ fun bN aL=>?_)
 refine qam [4,5,6,7,8] [] [(0,.v (.slice A s.length c)),(4,.v (.int .u32 (IntKind.u32.wrap (BitVec.ofInt 32 (IntKind.u32.wrap (BitVec.ofInt 32 (IntKind.u32.wrap (IntKind.u8.wrap (BitVec.ofInt 8 ((s.getD 0 0).toNat:Int) &&& BitVec.ofInt 8 127).toNat)) ||| BitVec.ofInt 32 (IntKind.u32.wrap ((IntKind.u32.wrap (IntKind.u8.wrap (BitVec.ofInt 8 ((s.getD 1 0).toNat:Int) &&& BitVec.ofInt 8 127).toNat)) * 128))).toNat) ||| BitVec.ofInt 32 (IntKind.u32.wrap ((IntKind.u32.wrap (IntKind.u8.wrap (BitVec.ofInt 8 ((s.getD 2 0).toNat:Int) &&& BitVec.ofInt 8 127).toNat)) * 16384))).toNat)))] hW aL fun bO aM=>?_
 refine qag (qab ?_)
 refine wp_seq ?_
 refine qae [0,1,2,3,4] kz ?_
 refine qam [0] [1,2,3,4] [(0,.v (.slice A s.length c)),(4,.v (.int .u32 (IntKind.u32.wrap (BitVec.ofInt 32 (IntKind.u32.wrap (BitVec.ofInt 32 (IntKind.u32.wrap (IntKind.u8.wrap (BitVec.ofInt 8 ((s.getD 0 0).toNat:Int) &&& BitVec.ofInt 8 127).toNat)) ||| BitVec.ofInt 32 (IntKind.u32.wrap ((IntKind.u32.wrap (IntKind.u8.wrap (BitVec.ofInt 8 ((s.getD 1 0).toNat:Int) &&& BitVec.ofInt 8 127).toNat)) * 128))).toNat) ||| BitVec.ofInt 32 (IntKind.u32.wrap ((IntKind.u32.wrap (IntKind.u8.wrap (BitVec.ofInt 8 ((s.getD 2 0).toNat:Int) &&& BitVec.ofInt 8 127).toNat)) * 16384))).toNat))),(48,.v (.slice A s.length c))] hW aM fun bP aO=>?_
 refine qal (qao aO (t:=22) (A:=A) (m:=s.length) (q:=2) (d:=49) kz (e:=5) (size:=1) (bytes:=1) (j:=2) kz al rfl (by first | omega | (simp only [List.length_append,be_length,List.length_cons,List.length_nil] at *; omega)) fun bQ aP=>?_)
 refine qal (qat aP (t:=5) (b:=bg) (o:=bh + 2 * 1) (d:=50) kz (cs:=[.int .u8 ((s.getD 2 0).toNat:Int)]) (v:=.int .u8 ((s.getD 2 0).toNat:Int)) kz (AtF.move ac hW.step nilM qaF).at_ fun bR aQ=>?_)
 refine qam [3,4] [] [(0,.v (.slice A s.length c)),(4,.v (.int .u32 (IntKind.u32.wrap (BitVec.ofInt 32 (IntKind.u32.wrap (BitVec.ofInt 32 (IntKind.u32.wrap (IntKind.u8.wrap (BitVec.ofInt 8 ((s.getD 0 0).toNat:Int) &&& BitVec.ofInt 8 127).toNat)) ||| BitVec.ofInt 32 (IntKind.u32.wrap ((IntKind.u32.wrap (IntKind.u8.wrap (BitVec.ofInt 8 ((s.getD 1 0).toNat:Int) &&& BitVec.ofInt 8 127).toNat)) * 128))).toNat) ||| BitVec.ofInt 32 (IntKind.u32.wrap ((IntKind.u32.wrap (IntKind.u8.wrap (BitVec.ofInt 8 ((s.getD 2 0).toNat:Int) &&& BitVec.ofInt 8 127).toNat)) * 16384))).toNat))),(52,.v (.bool ((IntKind.u8.wrap (BitVec.ofInt 8 ((s.getD 2 0).toNat:Int) &&& BitVec.ofInt 8 128).toNat) == 0)))] hW aQ fun bS am=>?_
 refine qag (qab ?_)
 refine qan am (b:=(IntKind.u8.wrap (BitVec.ofInt 8 ((s.getD 2 0).toNat:Int) &&& BitVec.ofInt 8 128).toNat) == 0) kz ((qbn _ (qa9 s 2)).trans (decide_eq_false (by have:=h2; unfold oc at this; omega))) ?_
 refine qau [(0,.v (.slice A s.length c)),(4,.v (.int .u32 (IntKind.u32.wrap (BitVec.ofInt 32 (IntKind.u32.wrap (BitVec.ofInt 32 (IntKind.u32.wrap (IntKind.u8.wrap (BitVec.ofInt 8 ((s.getD 0 0).toNat:Int) &&& BitVec.ofInt 8 127).toNat)) ||| BitVec.ofInt 32 (IntKind.u32.wrap ((IntKind.u32.wrap (IntKind.u8.wrap (BitVec.ofInt 8 ((s.getD 1 0).toNat:Int) &&& BitVec.ofInt 8 127).toNat)) * 128))).toNat) ||| BitVec.ofInt 32 (IntKind.u32.wrap ((IntKind.u32.wrap (IntKind.u8.wrap (BitVec.ofInt 8 ((s.getD 2 0).toNat:Int) &&& BitVec.ofInt 8 127).toNat)) * 16384))).toNat))),(56,.v (.bool (decide (((s.length:Nat):Int) < 4))))] hW am fun bT ao=>?_
 refine qan ao (b:=decide (((s.length:Nat):Int) < 4)) kz (decide_eq_false (by omega)) ?_
 refine wp_skip ?_
 refine qab ?_
 refine qae [0,1,2,3,4,5,6,7,8] kz ?_
 refine qam [0,1] [2,3,4,5,6,7,8] [(0,.v (.slice A s.length c)),(57,.v (.int .u32 (IntKind.u32.wrap (BitVec.ofInt 32 (IntKind.u32.wrap (BitVec.ofInt 32 (IntKind.u32.wrap (IntKind.u8.wrap (BitVec.ofInt 8 ((s.getD 0 0).toNat:Int) &&& BitVec.ofInt 8 127).toNat)) ||| BitVec.ofInt 32 (IntKind.u32.wrap ((IntKind.u32.wrap (IntKind.u8.wrap (BitVec.ofInt 8 ((s.getD 1 0).toNat:Int) &&& BitVec.ofInt 8 127).toNat)) * 128))).toNat) ||| BitVec.ofInt 32 (IntKind.u32.wrap ((IntKind.u32.wrap (IntKind.u8.wrap (BitVec.ofInt 8 ((s.getD 2 0).toNat:Int) &&& BitVec.ofInt 8 127).toNat)) * 16384))).toNat))),(58,.v (.slice A s.length c))] hW ao fun bU aR=>?_
 obtain ⟨bi,bj,ap,bp,ae⟩:=Slots.get ho (i:=3) (by first | omega | (simp only [List.length_append,be_length,List.length_cons,List.length_nil] at *; omega))
 refine qal (qao aR (t:=22) (A:=A) (m:=s.length) (q:=3) (d:=59) kz (e:=5) (size:=1) (bytes:=1) (j:=3) kz ap rfl (by first | omega | (simp only [List.length_append,be_length,List.length_cons,List.length_nil] at *; omega)) fun bV aS=>?_)
 refine qal (qat aS (t:=5) (b:=bi) (o:=bj + 3 * 1) (d:=60) kz (cs:=[.int .u8 ((s.getD 3 0).toNat:Int)]) (v:=.int .u8 ((s.getD 3 0).toNat:Int)) kz (AtF.move ae hW.step nilM qaF).at_ fun bW aT=>?_)
 refine qam [4,5,6,7,8] [] [(0,.v (.slice A s.length c)),(4,.v (.int .u32 (IntKind.u32.wrap (BitVec.ofInt 32 (IntKind.u32.wrap (BitVec.ofInt 32 (IntKind.u32.wrap (BitVec.ofInt 32 (IntKind.u32.wrap (IntKind.u8.wrap (BitVec.ofInt 8 ((s.getD 0 0).toNat:Int) &&& BitVec.ofInt 8 127).toNat)) ||| BitVec.ofInt 32 (IntKind.u32.wrap ((IntKind.u32.wrap (IntKind.u8.wrap (BitVec.ofInt 8 ((s.getD 1 0).toNat:Int) &&& BitVec.ofInt 8 127).toNat)) * 128))).toNat) ||| BitVec.ofInt 32 (IntKind.u32.wrap ((IntKind.u32.wrap (IntKind.u8.wrap (BitVec.ofInt 8 ((s.getD 2 0).toNat:Int) &&& BitVec.ofInt 8 127).toNat)) * 16384))).toNat) ||| BitVec.ofInt 32 (IntKind.u32.wrap ((IntKind.u32.wrap (IntKind.u8.wrap (BitVec.ofInt 8 ((s.getD 3 0).toNat:Int) &&& BitVec.ofInt 8 127).toNat)) * 2097152))).toNat)))] hW aT fun bX aU=>?_
 refine qag (qab ?_)
 refine wp_seq ?_
 refine qae [0,1,2,3,4] kz ?_
 refine qam [0] [1,2,3,4] [(0,.v (.slice A s.length c)),(4,.v (.int .u32 (IntKind.u32.wrap (BitVec.ofInt 32 (IntKind.u32.wrap (BitVec.ofInt 32 (IntKind.u32.wrap (BitVec.ofInt 32 (IntKind.u32.wrap (IntKind.u8.wrap (BitVec.ofInt 8 ((s.getD 0 0).toNat:Int) &&& BitVec.ofInt 8 127).toNat)) ||| BitVec.ofInt 32 (IntKind.u32.wrap ((IntKind.u32.wrap (IntKind.u8.wrap (BitVec.ofInt 8 ((s.getD 1 0).toNat:Int) &&& BitVec.ofInt 8 127).toNat)) * 128))).toNat) ||| BitVec.ofInt 32 (IntKind.u32.wrap ((IntKind.u32.wrap (IntKind.u8.wrap (BitVec.ofInt 8 ((s.getD 2 0).toNat:Int) &&& BitVec.ofInt 8 127).toNat)) * 16384))).toNat) ||| BitVec.ofInt 32 (IntKind.u32.wrap ((IntKind.u32.wrap (IntKind.u8.wrap (BitVec.ofInt 8 ((s.getD 3 0).toNat:Int) &&& BitVec.ofInt 8 127).toNat)) * 2097152))).toNat))),(65,.v (.slice A s.length c))] hW aU fun bY aV=>?_
 refine qal (qao aV (t:=22) (A:=A) (m:=s.length) (q:=3) (d:=66) kz (e:=5) (size:=1) (bytes:=1) (j:=3) kz ap rfl (by first | omega | (simp only [List.length_append,be_length,List.length_cons,List.length_nil] at *; omega)) fun bZ aW=>?_)
 refine qal (qat aW (t:=5) (b:=bi) (o:=bj + 3 * 1) (d:=67) kz (cs:=[.int .u8 ((s.getD 3 0).toNat:Int)]) (v:=.int .u8 ((s.getD 3 0).toNat:Int)) kz (AtF.move ae hW.step nilM qaF).at_ fun b8 aX=>?_)
 refine qam [3,4] [] [(0,.v (.slice A s.length c)),(4,.v (.int .u32 (IntKind.u32.wrap (BitVec.ofInt 32 (IntKind.u32.wrap (BitVec.ofInt 32 (IntKind.u32.wrap (BitVec.ofInt 32 (IntKind.u32.wrap (IntKind.u8.wrap (BitVec.ofInt 8 ((s.getD 0 0).toNat:Int) &&& BitVec.ofInt 8 127).toNat)) ||| BitVec.ofInt 32 (IntKind.u32.wrap ((IntKind.u32.wrap (IntKind.u8.wrap (BitVec.ofInt 8 ((s.getD 1 0).toNat:Int) &&& BitVec.ofInt 8 127).toNat)) * 128))).toNat) ||| BitVec.ofInt 32 (IntKind.u32.wrap ((IntKind.u32.wrap (IntKind.u8.wrap (BitVec.ofInt 8 ((s.getD 2 0).toNat:Int) &&& BitVec.ofInt 8 127).toNat)) * 16384))).toNat) ||| BitVec.ofInt 32 (IntKind.u32.wrap ((IntKind.u32.wrap (IntKind.u8.wrap (BitVec.ofInt 8 ((s.getD 3 0).toNat:Int) &&& BitVec.ofInt 8 127).toNat)) * 2097152))).toNat))),(69,.v (.bool ((IntKind.u8.wrap (BitVec.ofInt 8 ((s.getD 3 0).toNat:Int) &&& BitVec.ofInt 8 128).toNat) == 0)))] hW aX fun cd ar=>?_
 refine qag (qab ?_)
 refine qaV ar (b:=(IntKind.u8.wrap (BitVec.ofInt 8 ((s.getD 3 0).toNat:Int) &&& BitVec.ofInt 8 128).toNat) == 0) kz ((qbn _ (qa9 s 3)).trans (decide_eq_true (by have:=h3; unfold oc at this; omega))) ?_
 refine qau [(2,.v (.int .u32 (IntKind.u32.wrap (BitVec.ofInt 32 (IntKind.u32.wrap (BitVec.ofInt 32 (IntKind.u32.wrap (BitVec.ofInt 32 (IntKind.u32.wrap (IntKind.u8.wrap (BitVec.ofInt 8 ((s.getD 0 0).toNat:Int) &&& BitVec.ofInt 8 127).toNat)) ||| BitVec.ofInt 32 (IntKind.u32.wrap ((IntKind.u32.wrap (IntKind.u8.wrap (BitVec.ofInt 8 ((s.getD 1 0).toNat:Int) &&& BitVec.ofInt 8 127).toNat)) * 128))).toNat) ||| BitVec.ofInt 32 (IntKind.u32.wrap ((IntKind.u32.wrap (IntKind.u8.wrap (BitVec.ofInt 8 ((s.getD 2 0).toNat:Int) &&& BitVec.ofInt 8 127).toNat)) * 16384))).toNat) ||| BitVec.ofInt 32 (IntKind.u32.wrap ((IntKind.u32.wrap (IntKind.u8.wrap (BitVec.ofInt 8 ((s.getD 3 0).toNat:Int) &&& BitVec.ofInt 8 127).toNat)) * 2097152))).toNat))),(3,.v (.int .i64 4))] hW ar fun ce au=>?_
 refine wp_ret ?_
 refine qa2 ?_
 refine qcs ?_
 refine qaZ au hW.cells (v:=.tuple #[.int .u32 (IntKind.u32.wrap (BitVec.ofInt 32 (IntKind.u32.wrap (BitVec.ofInt 32 (IntKind.u32.wrap (BitVec.ofInt 32 (IntKind.u32.wrap (IntKind.u8.wrap (BitVec.ofInt 8 ((s.getD 0 0).toNat:Int) &&& BitVec.ofInt 8 127).toNat)) ||| BitVec.ofInt 32 (IntKind.u32.wrap ((IntKind.u32.wrap (IntKind.u8.wrap (BitVec.ofInt 8 ((s.getD 1 0).toNat:Int) &&& BitVec.ofInt 8 127).toNat)) * 128))).toNat) ||| BitVec.ofInt 32 (IntKind.u32.wrap ((IntKind.u32.wrap (IntKind.u8.wrap (BitVec.ofInt 8 ((s.getD 2 0).toNat:Int) &&& BitVec.ofInt 8 127).toNat)) * 16384))).toNat) ||| BitVec.ofInt 32 (IntKind.u32.wrap ((IntKind.u32.wrap (IntKind.u8.wrap (BitVec.ofInt 8 ((s.getD 3 0).toNat:Int) &&& BitVec.ofInt 8 127).toNat)) * 2097152))).toNat),.int .i64 4]) kz ?_
 have e_:=uv_4 (oc s 0) (oc s 1) (oc s 2) (oc s 3) (qa9 s 0) (qa9 s 1) (qa9 s 2) (qa9 s 3)
 refine ⟨congrArg (fun z_:Int=>Ending.returned (.tuple #[.int .u32 z_,.int .i64 4])) (Eq.trans e_ ?_),hW.step⟩
 omega
theorem rUv5 {A:Option Addr} {c:Nat} (s:Bs) {w:World} {F:Nat → Nat → Prop} (ho:Octs w F A c s) (hl:5 ≤ s.length) (d0 d1 d2 d3 d4:Nat) (h0:oc s 0 = d0 + 128) (h1:oc s 1 = d1 + 128) (h2:oc s 2 = d2 + 128) (h3:oc s 3 = d3 + 128) (h4:oc s 4 = d4) (g0:d0 < 128) (g1:d1 < 128) (g2:d2 < 128) (g3:d3 < 128) (g4:d4 < 16) :
  Calls Tryd.prog 118 #[.slice A s.length c] w (qcb w (.tuple #[.int .u32 ((d0 + d1 * 128 + d2 * 16384 + d3 * 2097152 + d4 * 268435456:Nat):Int),.int .i64 5])):=by
 refine enter (n:=87) Tryd.func118 rfl Tryd.ntmps118 kz fun a hE=>?_
 have hW:=WOk.start w Nil
 refine qau [(0,.v (.slice A s.length c))] hW hE fun a1 hE2=>?_
 refine wp_scope_straight ?_
 refine qau [(0,.v (.slice A s.length c))] hW hE2 fun a3 hE4=>?_
 refine qau [(0,.v (.slice A s.length c))] hW hE4 fun a5 hE6=>?_
 refine wp_seq ?_
 refine qau [(0,.v (.slice A s.length c)),(8,.v (.bool (decide (((s.length:Nat):Int) < 1))))] hW hE6 fun a7 hE8=>?_
 refine qan hE8 (b:=decide (((s.length:Nat):Int) < 1)) kz (decide_eq_false (by omega)) ?_
 refine wp_skip ?_
 refine qab ?_
 refine qae [0,1,2,3,4,5] kz ?_
 refine qam [0] [1,2,3,4,5] [(0,.v (.slice A s.length c)),(9,.v (.slice A s.length c))] hW hE8 fun a9 aI=>?_
 obtain ⟨bt,bu,aj,bE,ab⟩:=Slots.get ho (i:=0) (by first | omega | (simp only [List.length_append,be_length,List.length_cons,List.length_nil] at *; omega))
 refine qal (qao aI (t:=22) (A:=A) (m:=s.length) (q:=0) (d:=10) kz (e:=5) (size:=1) (bytes:=1) (j:=0) kz aj rfl (by first | omega | (simp only [List.length_append,be_length,List.length_cons,List.length_nil] at *; omega)) fun bR aJ=>?_)
 refine qal (qat aJ (t:=5) (b:=bt) (o:=bu + 0 * 1) (d:=11) kz (cs:=[.int .u8 ((s.getD 0 0).toNat:Int)]) (v:=.int .u8 ((s.getD 0 0).toNat:Int)) kz (AtF.move ab hW.step nilM qaF).at_ fun bS aK=>?_)
 refine qam [3,4,5] [] [(0,.v (.slice A s.length c)),(4,.v (.int .u32 (IntKind.u32.wrap (IntKind.u8.wrap (BitVec.ofInt 8 ((s.getD 0 0).toNat:Int) &&& BitVec.ofInt 8 127).toNat))))] hW aK fun bT aL=>?_
 refine qag (qab ?_)
 refine wp_seq ?_
 refine qae [0,1,2,3,4] kz ?_
 refine qam [0] [1,2,3,4] [(0,.v (.slice A s.length c)),(4,.v (.int .u32 (IntKind.u32.wrap (IntKind.u8.wrap (BitVec.ofInt 8 ((s.getD 0 0).toNat:Int) &&& BitVec.ofInt 8 127).toNat)))),(14,.v (.slice A s.length c))] hW aL fun bU aM=>?_
 refine qal (qao aM (t:=22) (A:=A) (m:=s.length) (q:=0) (d:=15) kz (e:=5) (size:=1) (bytes:=1) (j:=0) kz aj rfl (by first | omega | (simp only [List.length_append,be_length,List.length_cons,List.length_nil] at *; omega)) fun bV aO=>?_)
 refine qal (qat aO (t:=5) (b:=bt) (o:=bu + 0 * 1) (d:=16) kz (cs:=[.int .u8 ((s.getD 0 0).toNat:Int)]) (v:=.int .u8 ((s.getD 0 0).toNat:Int)) kz (AtF.move ab hW.step nilM qaF).at_ fun bW aP=>?_)
 refine qam [3,4] [] [(0,.v (.slice A s.length c)),(4,.v (.int .u32 (IntKind.u32.wrap (IntKind.u8.wrap (BitVec.ofInt 8 ((s.getD 0 0).toNat:Int) &&& BitVec.ofInt 8 127).toNat)))),(18,.v (.bool ((IntKind.u8.wrap (BitVec.ofInt 8 ((s.getD 0 0).toNat:Int) &&& BitVec.ofInt 8 128).toNat) == 0)))] hW aP fun bX ak=>?_
 refine qag (qab ?_)
 refine qan ak (b:=(IntKind.u8.wrap (BitVec.ofInt 8 ((s.getD 0 0).toNat:Int) &&& BitVec.ofInt 8 128).toNat) == 0) kz ((qbn _ (qa9 s 0)).trans (decide_eq_false (by have:=h0; unfold oc at this; omega))) ?_
 refine qau [(0,.v (.slice A s.length c)),(4,.v (.int .u32 (IntKind.u32.wrap (IntKind.u8.wrap (BitVec.ofInt 8 ((s.getD 0 0).toNat:Int) &&& BitVec.ofInt 8 127).toNat)))),(22,.v (.bool (decide (((s.length:Nat):Int) < 2))))] hW ak fun bY al=>?_
 refine qan al (b:=decide (((s.length:Nat):Int) < 2)) kz (decide_eq_false (by omega)) ?_
 refine wp_skip ?_
 refine qab ?_
 refine qae [0,1,2,3,4,5,6,7,8] kz ?_
 refine qam [0,1] [2,3,4,5,6,7,8] [(0,.v (.slice A s.length c)),(23,.v (.int .u32 (IntKind.u32.wrap (IntKind.u8.wrap (BitVec.ofInt 8 ((s.getD 0 0).toNat:Int) &&& BitVec.ofInt 8 127).toNat)))),(24,.v (.slice A s.length c))] hW al fun bZ aQ=>?_
 obtain ⟨bw,bx,am,bF,ac⟩:=Slots.get ho (i:=1) (by first | omega | (simp only [List.length_append,be_length,List.length_cons,List.length_nil] at *; omega))
 refine qal (qao aQ (t:=22) (A:=A) (m:=s.length) (q:=1) (d:=25) kz (e:=5) (size:=1) (bytes:=1) (j:=1) kz am rfl (by first | omega | (simp only [List.length_append,be_length,List.length_cons,List.length_nil] at *; omega)) fun b8 aR=>?_)
 refine qal (qat aR (t:=5) (b:=bw) (o:=bx + 1 * 1) (d:=26) kz (cs:=[.int .u8 ((s.getD 1 0).toNat:Int)]) (v:=.int .u8 ((s.getD 1 0).toNat:Int)) kz (AtF.move ac hW.step nilM qaF).at_ fun cd aS=>?_)
 refine qam [4,5,6,7,8] [] [(0,.v (.slice A s.length c)),(4,.v (.int .u32 (IntKind.u32.wrap (BitVec.ofInt 32 (IntKind.u32.wrap (IntKind.u8.wrap (BitVec.ofInt 8 ((s.getD 0 0).toNat:Int) &&& BitVec.ofInt 8 127).toNat)) ||| BitVec.ofInt 32 (IntKind.u32.wrap ((IntKind.u32.wrap (IntKind.u8.wrap (BitVec.ofInt 8 ((s.getD 1 0).toNat:Int) &&& BitVec.ofInt 8 127).toNat)) * 128))).toNat)))] hW aS fun ce aT=>?_
 refine qag (qab ?_)
 refine wp_seq ?_
 refine qae [0,1,2,3,4] kz ?_
 refine qam [0] [1,2,3,4] [(0,.v (.slice A s.length c)),(4,.v (.int .u32 (IntKind.u32.wrap (BitVec.ofInt 32 (IntKind.u32.wrap (IntKind.u8.wrap (BitVec.ofInt 8 ((s.getD 0 0).toNat:Int) &&& BitVec.ofInt 8 127).toNat)) ||| BitVec.ofInt 32 (IntKind.u32.wrap ((IntKind.u32.wrap (IntKind.u8.wrap (BitVec.ofInt 8 ((s.getD 1 0).toNat:Int) &&& BitVec.ofInt 8 127).toNat)) * 128))).toNat))),(31,.v (.slice A s.length c))] hW aT fun cg aU=>?_
 refine qal (qao aU (t:=22) (A:=A) (m:=s.length) (q:=1) (d:=32) kz (e:=5) (size:=1) (bytes:=1) (j:=1) kz am rfl (by first | omega | (simp only [List.length_append,be_length,List.length_cons,List.length_nil] at *; omega)) fun cm aV=>?_)
 refine qal (qat aV (t:=5) (b:=bw) (o:=bx + 1 * 1) (d:=33) kz (cs:=[.int .u8 ((s.getD 1 0).toNat:Int)]) (v:=.int .u8 ((s.getD 1 0).toNat:Int)) kz (AtF.move ac hW.step nilM qaF).at_ fun cq aW=>?_)
 refine qam [3,4] [] [(0,.v (.slice A s.length c)),(4,.v (.int .u32 (IntKind.u32.wrap (BitVec.ofInt 32 (IntKind.u32.wrap (IntKind.u8.wrap (BitVec.ofInt 8 ((s.getD 0 0).toNat:Int) &&& BitVec.ofInt 8 127).toNat)) ||| BitVec.ofInt 32 (IntKind.u32.wrap ((IntKind.u32.wrap (IntKind.u8.wrap (BitVec.ofInt 8 ((s.getD 1 0).toNat:Int) &&& BitVec.ofInt 8 127).toNat)) * 128))).toNat))),(35,.v (.bool ((IntKind.u8.wrap (BitVec.ofInt 8 ((s.getD 1 0).toNat:Int) &&& BitVec.ofInt 8 128).toNat) == 0)))] hW aW fun cr ao=>?_
 refine qag (qab ?_)
 refine qan ao (b:=(IntKind.u8.wrap (BitVec.ofInt 8 ((s.getD 1 0).toNat:Int) &&& BitVec.ofInt 8 128).toNat) == 0) kz ((qbn _ (qa9 s 1)).trans (decide_eq_false (by have:=h1; unfold oc at this; omega))) ?_
 refine qau [(0,.v (.slice A s.length c)),(4,.v (.int .u32 (IntKind.u32.wrap (BitVec.ofInt 32 (IntKind.u32.wrap (IntKind.u8.wrap (BitVec.ofInt 8 ((s.getD 0 0).toNat:Int) &&& BitVec.ofInt 8 127).toNat)) ||| BitVec.ofInt 32 (IntKind.u32.wrap ((IntKind.u32.wrap (IntKind.u8.wrap (BitVec.ofInt 8 ((s.getD 1 0).toNat:Int) &&& BitVec.ofInt 8 127).toNat)) * 128))).toNat))),(39,.v (.bool (decide (((s.length:Nat):Int) < 3))))] hW ao fun cu ap=>?_
 refine qan ap (b:=decide (((s.length:Nat):Int) < 3)) kz (decide_eq_false (by omega)) ?_
 refine wp_skip ?_
 refine qab ?_
 refine qae [0,1,2,3,4,5,6,7,8] kz ?_
 refine qam [0,1] [2,3,4,5,6,7,8] [(0,.v (.slice A s.length c)),(40,.v (.int .u32 (IntKind.u32.wrap (BitVec.ofInt 32 (IntKind.u32.wrap (IntKind.u8.wrap (BitVec.ofInt 8 ((s.getD 0 0).toNat:Int) &&& BitVec.ofInt 8 127).toNat)) ||| BitVec.ofInt 32 (IntKind.u32.wrap ((IntKind.u32.wrap (IntKind.u8.wrap (BitVec.ofInt 8 ((s.getD 1 0).toNat:Int) &&& BitVec.ofInt 8 127).toNat)) * 128))).toNat))),(41,.v (.slice A s.length c))] hW ap fun cw aX=>?_
 obtain ⟨bz,bA,ar,bG,ae⟩:=Slots.get ho (i:=2) (by first | omega | (simp only [List.length_append,be_length,List.length_cons,List.length_nil] at *; omega))
 refine qal (qao aX (t:=22) (A:=A) (m:=s.length) (q:=2) (d:=42) kz (e:=5) (size:=1) (bytes:=1) (j:=2) kz ar rfl (by first | omega | (simp only [List.length_append,be_length,List.length_cons,List.length_nil] at *; omega)) fun cz aY=>?_)
 refine qal (qat aY (t:=5) (b:=bz) (o:=bA + 2 * 1) (d:=43) kz (cs:=[.int .u8 ((s.getD 2 0).toNat:Int)]) (v:=.int .u8 ((s.getD 2 0).toNat:Int)) kz (AtF.move ae hW.step nilM qaF).at_ fun cA aZ=>?_)
 refine qam [4,5,6,7,8] [] [(0,.v (.slice A s.length c)),(4,.v (.int .u32 (IntKind.u32.wrap (BitVec.ofInt 32 (IntKind.u32.wrap (BitVec.ofInt 32 (IntKind.u32.wrap (IntKind.u8.wrap (BitVec.ofInt 8 ((s.getD 0 0).toNat:Int) &&& BitVec.ofInt 8 127).toNat)) ||| BitVec.ofInt 32 (IntKind.u32.wrap ((IntKind.u32.wrap (IntKind.u8.wrap (BitVec.ofInt 8 ((s.getD 1 0).toNat:Int) &&& BitVec.ofInt 8 127).toNat)) * 128))).toNat) ||| BitVec.ofInt 32 (IntKind.u32.wrap ((IntKind.u32.wrap (IntKind.u8.wrap (BitVec.ofInt 8 ((s.getD 2 0).toNat:Int) &&& BitVec.ofInt 8 127).toNat)) * 16384))).toNat)))] hW aZ fun cB ba=>?_
 refine qag (qab ?_)
 refine wp_seq ?_
 refine qae [0,1,2,3,4] kz ?_
 refine qam [0] [1,2,3,4] [(0,.v (.slice A s.length c)),(4,.v (.int .u32 (IntKind.u32.wrap (BitVec.ofInt 32 (IntKind.u32.wrap (BitVec.ofInt 32 (IntKind.u32.wrap (IntKind.u8.wrap (BitVec.ofInt 8 ((s.getD 0 0).toNat:Int) &&& BitVec.ofInt 8 127).toNat)) ||| BitVec.ofInt 32 (IntKind.u32.wrap ((IntKind.u32.wrap (IntKind.u8.wrap (BitVec.ofInt 8 ((s.getD 1 0).toNat:Int) &&& BitVec.ofInt 8 127).toNat)) * 128))).toNat) ||| BitVec.ofInt 32 (IntKind.u32.wrap ((IntKind.u32.wrap (IntKind.u8.wrap (BitVec.ofInt 8 ((s.getD 2 0).toNat:Int) &&& BitVec.ofInt 8 127).toNat)) * 16384))).toNat))),(48,.v (.slice A s.length c))] hW ba fun cC bf=>?_
 refine qal (qao bf (t:=22) (A:=A) (m:=s.length) (q:=2) (d:=49) kz (e:=5) (size:=1) (bytes:=1) (j:=2) kz ar rfl (by first | omega | (simp only [List.length_append,be_length,List.length_cons,List.length_nil] at *; omega)) fun cD bg=>?_)
 refine qal (qat bg (t:=5) (b:=bz) (o:=bA + 2 * 1) (d:=50) kz (cs:=[.int .u8 ((s.getD 2 0).toNat:Int)]) (v:=.int .u8 ((s.getD 2 0).toNat:Int)) kz (AtF.move ae hW.step nilM qaF).at_ fun cE bh=>?_)
 refine qam [3,4] [] [(0,.v (.slice A s.length c)),(4,.v (.int .u32 (IntKind.u32.wrap (BitVec.ofInt 32 (IntKind.u32.wrap (BitVec.ofInt 32 (IntKind.u32.wrap (IntKind.u8.wrap (BitVec.ofInt 8 ((s.getD 0 0).toNat:Int) &&& BitVec.ofInt 8 127).toNat)) ||| BitVec.ofInt 32 (IntKind.u32.wrap ((IntKind.u32.wrap (IntKind.u8.wrap (BitVec.ofInt 8 ((s.getD 1 0).toNat:Int) &&& BitVec.ofInt 8 127).toNat)) * 128))).toNat) ||| BitVec.ofInt 32 (IntKind.u32.wrap ((IntKind.u32.wrap (IntKind.u8.wrap (BitVec.ofInt 8 ((s.getD 2 0).toNat:Int) &&& BitVec.ofInt 8 127).toNat)) * 16384))).toNat))),(52,.v (.bool ((IntKind.u8.wrap (BitVec.ofInt 8 ((s.getD 2 0).toNat:Int) &&& BitVec.ofInt 8 128).toNat) == 0)))] hW bh fun cG au=>?_
 refine qag (qab ?_)
 refine qan au (b:=(IntKind.u8.wrap (BitVec.ofInt 8 ((s.getD 2 0).toNat:Int) &&& BitVec.ofInt 8 128).toNat) == 0) kz ((qbn _ (qa9 s 2)).trans (decide_eq_false (by have:=h2; unfold oc at this; omega))) ?_
 refine qau [(0,.v (.slice A s.length c)),(4,.v (.int .u32 (IntKind.u32.wrap (BitVec.ofInt 32 (IntKind.u32.wrap (BitVec.ofInt 32 (IntKind.u32.wrap (IntKind.u8.wrap (BitVec.ofInt 8 ((s.getD 0 0).toNat:Int) &&& BitVec.ofInt 8 127).toNat)) ||| BitVec.ofInt 32 (IntKind.u32.wrap ((IntKind.u32.wrap (IntKind.u8.wrap (BitVec.ofInt 8 ((s.getD 1 0).toNat:Int) &&& BitVec.ofInt 8 127).toNat)) * 128))).toNat) ||| BitVec.ofInt 32 (IntKind.u32.wrap ((IntKind.u32.wrap (IntKind.u8.wrap (BitVec.ofInt 8 ((s.getD 2 0).toNat:Int) &&& BitVec.ofInt 8 127).toNat)) * 16384))).toNat))),(56,.v (.bool (decide (((s.length:Nat):Int) < 4))))] hW au fun cH av=>?_
 refine qan av (b:=decide (((s.length:Nat):Int) < 4)) kz (decide_eq_false (by omega)) ?_
 refine wp_skip ?_
 refine qab ?_
 refine qae [0,1,2,3,4,5,6,7,8] kz ?_
 refine qam [0,1] [2,3,4,5,6,7,8] [(0,.v (.slice A s.length c)),(57,.v (.int .u32 (IntKind.u32.wrap (BitVec.ofInt 32 (IntKind.u32.wrap (BitVec.ofInt 32 (IntKind.u32.wrap (IntKind.u8.wrap (BitVec.ofInt 8 ((s.getD 0 0).toNat:Int) &&& BitVec.ofInt 8 127).toNat)) ||| BitVec.ofInt 32 (IntKind.u32.wrap ((IntKind.u32.wrap (IntKind.u8.wrap (BitVec.ofInt 8 ((s.getD 1 0).toNat:Int) &&& BitVec.ofInt 8 127).toNat)) * 128))).toNat) ||| BitVec.ofInt 32 (IntKind.u32.wrap ((IntKind.u32.wrap (IntKind.u8.wrap (BitVec.ofInt 8 ((s.getD 2 0).toNat:Int) &&& BitVec.ofInt 8 127).toNat)) * 16384))).toNat))),(58,.v (.slice A s.length c))] hW av fun cI bi=>?_
 obtain ⟨bB,bC,aw,bH,af⟩:=Slots.get ho (i:=3) (by first | omega | (simp only [List.length_append,be_length,List.length_cons,List.length_nil] at *; omega))
 refine qal (qao bi (t:=22) (A:=A) (m:=s.length) (q:=3) (d:=59) kz (e:=5) (size:=1) (bytes:=1) (j:=3) kz aw rfl (by first | omega | (simp only [List.length_append,be_length,List.length_cons,List.length_nil] at *; omega)) fun cJ bj=>?_)
 refine qal (qat bj (t:=5) (b:=bB) (o:=bC + 3 * 1) (d:=60) kz (cs:=[.int .u8 ((s.getD 3 0).toNat:Int)]) (v:=.int .u8 ((s.getD 3 0).toNat:Int)) kz (AtF.move af hW.step nilM qaF).at_ fun cK bk=>?_)
 refine qam [4,5,6,7,8] [] [(0,.v (.slice A s.length c)),(4,.v (.int .u32 (IntKind.u32.wrap (BitVec.ofInt 32 (IntKind.u32.wrap (BitVec.ofInt 32 (IntKind.u32.wrap (BitVec.ofInt 32 (IntKind.u32.wrap (IntKind.u8.wrap (BitVec.ofInt 8 ((s.getD 0 0).toNat:Int) &&& BitVec.ofInt 8 127).toNat)) ||| BitVec.ofInt 32 (IntKind.u32.wrap ((IntKind.u32.wrap (IntKind.u8.wrap (BitVec.ofInt 8 ((s.getD 1 0).toNat:Int) &&& BitVec.ofInt 8 127).toNat)) * 128))).toNat) ||| BitVec.ofInt 32 (IntKind.u32.wrap ((IntKind.u32.wrap (IntKind.u8.wrap (BitVec.ofInt 8 ((s.getD 2 0).toNat:Int) &&& BitVec.ofInt 8 127).toNat)) * 16384))).toNat) ||| BitVec.ofInt 32 (IntKind.u32.wrap ((IntKind.u32.wrap (IntKind.u8.wrap (BitVec.ofInt 8 ((s.getD 3 0).toNat:Int) &&& BitVec.ofInt 8 127).toNat)) * 2097152))).toNat)))] hW bk fun cL bn=>?_
 refine qag (qab ?_)
 refine wp_seq ?_
 refine qae [0,1,2,3,4] kz ?_
 refine qam [0] [1,2,3,4] [(0,.v (.slice A s.length c)),(4,.v (.int .u32 (IntKind.u32.wrap (BitVec.ofInt 32 (IntKind.u32.wrap (BitVec.ofInt 32 (IntKind.u32.wrap (BitVec.ofInt 32 (IntKind.u32.wrap (IntKind.u8.wrap (BitVec.ofInt 8 ((s.getD 0 0).toNat:Int) &&& BitVec.ofInt 8 127).toNat)) ||| BitVec.ofInt 32 (IntKind.u32.wrap ((IntKind.u32.wrap (IntKind.u8.wrap (BitVec.ofInt 8 ((s.getD 1 0).toNat:Int) &&& BitVec.ofInt 8 127).toNat)) * 128))).toNat) ||| BitVec.ofInt 32 (IntKind.u32.wrap ((IntKind.u32.wrap (IntKind.u8.wrap (BitVec.ofInt 8 ((s.getD 2 0).toNat:Int) &&& BitVec.ofInt 8 127).toNat)) * 16384))).toNat) ||| BitVec.ofInt 32 (IntKind.u32.wrap ((IntKind.u32.wrap (IntKind.u8.wrap (BitVec.ofInt 8 ((s.getD 3 0).toNat:Int) &&& BitVec.ofInt 8 127).toNat)) * 2097152))).toNat))),(65,.v (.slice A s.length c))] hW bn fun cM bo=>?_
 refine qal (qao bo (t:=22) (A:=A) (m:=s.length) (q:=3) (d:=66) kz (e:=5) (size:=1) (bytes:=1) (j:=3) kz aw rfl (by first | omega | (simp only [List.length_append,be_length,List.length_cons,List.length_nil] at *; omega)) fun cN bp=>?_)
 refine qal (qat bp (t:=5) (b:=bB) (o:=bC + 3 * 1) (d:=67) kz (cs:=[.int .u8 ((s.getD 3 0).toNat:Int)]) (v:=.int .u8 ((s.getD 3 0).toNat:Int)) kz (AtF.move af hW.step nilM qaF).at_ fun cO bq=>?_)
 refine qam [3,4] [] [(0,.v (.slice A s.length c)),(4,.v (.int .u32 (IntKind.u32.wrap (BitVec.ofInt 32 (IntKind.u32.wrap (BitVec.ofInt 32 (IntKind.u32.wrap (BitVec.ofInt 32 (IntKind.u32.wrap (IntKind.u8.wrap (BitVec.ofInt 8 ((s.getD 0 0).toNat:Int) &&& BitVec.ofInt 8 127).toNat)) ||| BitVec.ofInt 32 (IntKind.u32.wrap ((IntKind.u32.wrap (IntKind.u8.wrap (BitVec.ofInt 8 ((s.getD 1 0).toNat:Int) &&& BitVec.ofInt 8 127).toNat)) * 128))).toNat) ||| BitVec.ofInt 32 (IntKind.u32.wrap ((IntKind.u32.wrap (IntKind.u8.wrap (BitVec.ofInt 8 ((s.getD 2 0).toNat:Int) &&& BitVec.ofInt 8 127).toNat)) * 16384))).toNat) ||| BitVec.ofInt 32 (IntKind.u32.wrap ((IntKind.u32.wrap (IntKind.u8.wrap (BitVec.ofInt 8 ((s.getD 3 0).toNat:Int) &&& BitVec.ofInt 8 127).toNat)) * 2097152))).toNat))),(69,.v (.bool ((IntKind.u8.wrap (BitVec.ofInt 8 ((s.getD 3 0).toNat:Int) &&& BitVec.ofInt 8 128).toNat) == 0)))] hW bq fun cP ax=>?_
 refine qag (qab ?_)
 refine qan ax (b:=(IntKind.u8.wrap (BitVec.ofInt 8 ((s.getD 3 0).toNat:Int) &&& BitVec.ofInt 8 128).toNat) == 0) kz ((qbn _ (qa9 s 3)).trans (decide_eq_false (by have:=h3; unfold oc at this; omega))) ?_
 refine qau [(0,.v (.slice A s.length c)),(4,.v (.int .u32 (IntKind.u32.wrap (BitVec.ofInt 32 (IntKind.u32.wrap (BitVec.ofInt 32 (IntKind.u32.wrap (BitVec.ofInt 32 (IntKind.u32.wrap (IntKind.u8.wrap (BitVec.ofInt 8 ((s.getD 0 0).toNat:Int) &&& BitVec.ofInt 8 127).toNat)) ||| BitVec.ofInt 32 (IntKind.u32.wrap ((IntKind.u32.wrap (IntKind.u8.wrap (BitVec.ofInt 8 ((s.getD 1 0).toNat:Int) &&& BitVec.ofInt 8 127).toNat)) * 128))).toNat) ||| BitVec.ofInt 32 (IntKind.u32.wrap ((IntKind.u32.wrap (IntKind.u8.wrap (BitVec.ofInt 8 ((s.getD 2 0).toNat:Int) &&& BitVec.ofInt 8 127).toNat)) * 16384))).toNat) ||| BitVec.ofInt 32 (IntKind.u32.wrap ((IntKind.u32.wrap (IntKind.u8.wrap (BitVec.ofInt 8 ((s.getD 3 0).toNat:Int) &&& BitVec.ofInt 8 127).toNat)) * 2097152))).toNat))),(73,.v (.bool (decide (((s.length:Nat):Int) < 5))))] hW ax fun cQ ag=>?_
 refine qan ag (b:=decide (((s.length:Nat):Int) < 5)) kz (decide_eq_false (by omega)) ?_
 refine wp_skip ?_
 refine qab ?_
 refine qae [0,1,2,3,4,5,6,7] kz ?_
 refine qam [0,1] [2,3,4,5,6,7] [(0,.v (.slice A s.length c)),(74,.v (.int .u32 (IntKind.u32.wrap (BitVec.ofInt 32 (IntKind.u32.wrap (BitVec.ofInt 32 (IntKind.u32.wrap (BitVec.ofInt 32 (IntKind.u32.wrap (IntKind.u8.wrap (BitVec.ofInt 8 ((s.getD 0 0).toNat:Int) &&& BitVec.ofInt 8 127).toNat)) ||| BitVec.ofInt 32 (IntKind.u32.wrap ((IntKind.u32.wrap (IntKind.u8.wrap (BitVec.ofInt 8 ((s.getD 1 0).toNat:Int) &&& BitVec.ofInt 8 127).toNat)) * 128))).toNat) ||| BitVec.ofInt 32 (IntKind.u32.wrap ((IntKind.u32.wrap (IntKind.u8.wrap (BitVec.ofInt 8 ((s.getD 2 0).toNat:Int) &&& BitVec.ofInt 8 127).toNat)) * 16384))).toNat) ||| BitVec.ofInt 32 (IntKind.u32.wrap ((IntKind.u32.wrap (IntKind.u8.wrap (BitVec.ofInt 8 ((s.getD 3 0).toNat:Int) &&& BitVec.ofInt 8 127).toNat)) * 2097152))).toNat))),(75,.v (.slice A s.length c))] hW ag fun bI ay=>?_
 obtain ⟨az,aA,ah,bD,aa⟩:=Slots.get ho (i:=4) (by first | omega | (simp only [List.length_append,be_length,List.length_cons,List.length_nil] at *; omega))
 refine qal (qao ay (t:=22) (A:=A) (m:=s.length) (q:=4) (d:=76) kz (e:=5) (size:=1) (bytes:=1) (j:=4) kz ah rfl (by first | omega | (simp only [List.length_append,be_length,List.length_cons,List.length_nil] at *; omega)) fun bJ aB=>?_)
 refine qal (qat aB (t:=5) (b:=az) (o:=aA + 4 * 1) (d:=77) kz (cs:=[.int .u8 ((s.getD 4 0).toNat:Int)]) (v:=.int .u8 ((s.getD 4 0).toNat:Int)) kz (AtF.move aa hW.step nilM qaF).at_ fun bK aC=>?_)
 refine qam [4,5,6,7] [] [(0,.v (.slice A s.length c)),(4,.v (.int .u32 (IntKind.u32.wrap (BitVec.ofInt 32 (IntKind.u32.wrap (BitVec.ofInt 32 (IntKind.u32.wrap (BitVec.ofInt 32 (IntKind.u32.wrap (BitVec.ofInt 32 (IntKind.u32.wrap (IntKind.u8.wrap (BitVec.ofInt 8 ((s.getD 0 0).toNat:Int) &&& BitVec.ofInt 8 127).toNat)) ||| BitVec.ofInt 32 (IntKind.u32.wrap ((IntKind.u32.wrap (IntKind.u8.wrap (BitVec.ofInt 8 ((s.getD 1 0).toNat:Int) &&& BitVec.ofInt 8 127).toNat)) * 128))).toNat) ||| BitVec.ofInt 32 (IntKind.u32.wrap ((IntKind.u32.wrap (IntKind.u8.wrap (BitVec.ofInt 8 ((s.getD 2 0).toNat:Int) &&& BitVec.ofInt 8 127).toNat)) * 16384))).toNat) ||| BitVec.ofInt 32 (IntKind.u32.wrap ((IntKind.u32.wrap (IntKind.u8.wrap (BitVec.ofInt 8 ((s.getD 3 0).toNat:Int) &&& BitVec.ofInt 8 127).toNat)) * 2097152))).toNat) ||| BitVec.ofInt 32 (IntKind.u32.wrap ((IntKind.u32.wrap ((s.getD 4 0).toNat:Int)) * 268435456))).toNat)))] hW aC fun bL aD=>?_
 refine qag (qab ?_)
 refine wp_seq ?_
 refine qae [0,1,2,3] kz ?_
 refine qam [0] [1,2,3] [(4,.v (.int .u32 (IntKind.u32.wrap (BitVec.ofInt 32 (IntKind.u32.wrap (BitVec.ofInt 32 (IntKind.u32.wrap (BitVec.ofInt 32 (IntKind.u32.wrap (BitVec.ofInt 32 (IntKind.u32.wrap (IntKind.u8.wrap (BitVec.ofInt 8 ((s.getD 0 0).toNat:Int) &&& BitVec.ofInt 8 127).toNat)) ||| BitVec.ofInt 32 (IntKind.u32.wrap ((IntKind.u32.wrap (IntKind.u8.wrap (BitVec.ofInt 8 ((s.getD 1 0).toNat:Int) &&& BitVec.ofInt 8 127).toNat)) * 128))).toNat) ||| BitVec.ofInt 32 (IntKind.u32.wrap ((IntKind.u32.wrap (IntKind.u8.wrap (BitVec.ofInt 8 ((s.getD 2 0).toNat:Int) &&& BitVec.ofInt 8 127).toNat)) * 16384))).toNat) ||| BitVec.ofInt 32 (IntKind.u32.wrap ((IntKind.u32.wrap (IntKind.u8.wrap (BitVec.ofInt 8 ((s.getD 3 0).toNat:Int) &&& BitVec.ofInt 8 127).toNat)) * 2097152))).toNat) ||| BitVec.ofInt 32 (IntKind.u32.wrap ((IntKind.u32.wrap ((s.getD 4 0).toNat:Int)) * 268435456))).toNat))),(81,.v (.slice A s.length c))] hW aD fun bM aE=>?_
 refine qal (qao aE (t:=22) (A:=A) (m:=s.length) (q:=4) (d:=82) kz (e:=5) (size:=1) (bytes:=1) (j:=4) kz ah rfl (by first | omega | (simp only [List.length_append,be_length,List.length_cons,List.length_nil] at *; omega)) fun bN aF=>?_)
 refine qal (qat aF (t:=5) (b:=az) (o:=aA + 4 * 1) (d:=83) kz (cs:=[.int .u8 ((s.getD 4 0).toNat:Int)]) (v:=.int .u8 ((s.getD 4 0).toNat:Int)) kz (AtF.move aa hW.step nilM qaF).at_ fun bO aG=>?_)
 refine qam [3] [] [(4,.v (.int .u32 (IntKind.u32.wrap (BitVec.ofInt 32 (IntKind.u32.wrap (BitVec.ofInt 32 (IntKind.u32.wrap (BitVec.ofInt 32 (IntKind.u32.wrap (BitVec.ofInt 32 (IntKind.u32.wrap (IntKind.u8.wrap (BitVec.ofInt 8 ((s.getD 0 0).toNat:Int) &&& BitVec.ofInt 8 127).toNat)) ||| BitVec.ofInt 32 (IntKind.u32.wrap ((IntKind.u32.wrap (IntKind.u8.wrap (BitVec.ofInt 8 ((s.getD 1 0).toNat:Int) &&& BitVec.ofInt 8 127).toNat)) * 128))).toNat) ||| BitVec.ofInt 32 (IntKind.u32.wrap ((IntKind.u32.wrap (IntKind.u8.wrap (BitVec.ofInt 8 ((s.getD 2 0).toNat:Int) &&& BitVec.ofInt 8 127).toNat)) * 16384))).toNat) ||| BitVec.ofInt 32 (IntKind.u32.wrap ((IntKind.u32.wrap (IntKind.u8.wrap (BitVec.ofInt 8 ((s.getD 3 0).toNat:Int) &&& BitVec.ofInt 8 127).toNat)) * 2097152))).toNat) ||| BitVec.ofInt 32 (IntKind.u32.wrap ((IntKind.u32.wrap ((s.getD 4 0).toNat:Int)) * 268435456))).toNat))),(84,.v (.bool (decide (((s.getD 4 0).toNat:Int) ≤ 15))))] hW aG fun bP ai=>?_
 refine qag (qab ?_)
 refine qaV ai (b:=decide (((s.getD 4 0).toNat:Int) ≤ 15)) kz (decide_eq_true (by have:=h4; unfold oc at this; omega)) ?_
 refine qau [(2,.v (.int .u32 (IntKind.u32.wrap (BitVec.ofInt 32 (IntKind.u32.wrap (BitVec.ofInt 32 (IntKind.u32.wrap (BitVec.ofInt 32 (IntKind.u32.wrap (BitVec.ofInt 32 (IntKind.u32.wrap (IntKind.u8.wrap (BitVec.ofInt 8 ((s.getD 0 0).toNat:Int) &&& BitVec.ofInt 8 127).toNat)) ||| BitVec.ofInt 32 (IntKind.u32.wrap ((IntKind.u32.wrap (IntKind.u8.wrap (BitVec.ofInt 8 ((s.getD 1 0).toNat:Int) &&& BitVec.ofInt 8 127).toNat)) * 128))).toNat) ||| BitVec.ofInt 32 (IntKind.u32.wrap ((IntKind.u32.wrap (IntKind.u8.wrap (BitVec.ofInt 8 ((s.getD 2 0).toNat:Int) &&& BitVec.ofInt 8 127).toNat)) * 16384))).toNat) ||| BitVec.ofInt 32 (IntKind.u32.wrap ((IntKind.u32.wrap (IntKind.u8.wrap (BitVec.ofInt 8 ((s.getD 3 0).toNat:Int) &&& BitVec.ofInt 8 127).toNat)) * 2097152))).toNat) ||| BitVec.ofInt 32 (IntKind.u32.wrap ((IntKind.u32.wrap ((s.getD 4 0).toNat:Int)) * 268435456))).toNat))),(3,.v (.int .i64 5))] hW ai fun bQ aH=>?_
 refine wp_ret ?_
 refine qa2 ?_
 refine qcs ?_
 refine qaZ aH hW.cells (v:=.tuple #[.int .u32 (IntKind.u32.wrap (BitVec.ofInt 32 (IntKind.u32.wrap (BitVec.ofInt 32 (IntKind.u32.wrap (BitVec.ofInt 32 (IntKind.u32.wrap (BitVec.ofInt 32 (IntKind.u32.wrap (IntKind.u8.wrap (BitVec.ofInt 8 ((s.getD 0 0).toNat:Int) &&& BitVec.ofInt 8 127).toNat)) ||| BitVec.ofInt 32 (IntKind.u32.wrap ((IntKind.u32.wrap (IntKind.u8.wrap (BitVec.ofInt 8 ((s.getD 1 0).toNat:Int) &&& BitVec.ofInt 8 127).toNat)) * 128))).toNat) ||| BitVec.ofInt 32 (IntKind.u32.wrap ((IntKind.u32.wrap (IntKind.u8.wrap (BitVec.ofInt 8 ((s.getD 2 0).toNat:Int) &&& BitVec.ofInt 8 127).toNat)) * 16384))).toNat) ||| BitVec.ofInt 32 (IntKind.u32.wrap ((IntKind.u32.wrap (IntKind.u8.wrap (BitVec.ofInt 8 ((s.getD 3 0).toNat:Int) &&& BitVec.ofInt 8 127).toNat)) * 2097152))).toNat) ||| BitVec.ofInt 32 (IntKind.u32.wrap ((IntKind.u32.wrap ((s.getD 4 0).toNat:Int)) * 268435456))).toNat),.int .i64 5]) kz ?_
 have e_:=uv_5 (oc s 0) (oc s 1) (oc s 2) (oc s 3) (oc s 4) (qa9 s 0) (qa9 s 1) (qa9 s 2) (qa9 s 3) (by omega)
 refine ⟨congrArg (fun z_:Int=>Ending.returned (.tuple #[.int .u32 z_,.int .i64 5])) (Eq.trans e_ ?_),hW.step⟩
 omega
theorem qfP {br:Nat} {A:Option Addr} {m c:Nat} {w:World} (hst:Str w br [.slice A m c,.bool false]) :
  Calls Tryd.prog 81 #[.pointer (some ⟨br,0,none⟩)] w (fun e w'=>e = .returned .nilIface ∧ w' = w):=by
 refine enter (n:=8) Tryd.func81 rfl Tryd.ntmps81 kz fun a hE=>?_
 have hW:WOk w (RdM br) w [⟨br,0,[.slice A m c,.bool false],true⟩] []:=WOk.startStr hst
 have hE1:=(hE.grow ⟨br,0,[.slice A m c,.bool false],true⟩).recast 0 (.v (.pointer (some ⟨br,0,none⟩))) (.p 0 0) rfl rfl (Nat.le_of_ble_eq_true (n:=1) rfl)
 refine qau [(0,.p 0 0)] hW hE1 fun a1 hE2=>?_
 refine wp_seq ?_
 refine qau [(6,.v (.bool false))] hW hE2 fun a3 hE4=>?_
 refine qan hE4 (b:=false) kz rfl ?_
 refine wp_skip ?_
 refine qab ?_
 refine qau [(2,.v (.nilIface))] hW hE4 fun a5 hE6=>?_
 refine wp_ret ?_
 refine qaZ hE6 hW.cells (v:=.nilIface) kz ?_
 exact ⟨rfl,rfl⟩
theorem qds {P:Program} {c:Code} {Mid:Act → World → Prop} {Q:Exit → Act → World → Prop} {a:Act} {w:World} (h1:c.wp P (Exit.then Mid Q) a w) (h2:∀ a' w',Mid a' w' → Q .normal a' w'):c.wp P Q a w :=
 wp_mono h1 fun e a' w' h=>by
  cases e <;> first | exact h2 a' w' h | exact h
theorem qgs {k:Nat} (h:k < 32768):IntKind.i32.wrap (((k:Nat):Int) + 1) = ((k + 1:Nat):Int):=by rw [i32w]; omega
abbrev Sg:=Bool × Bs
abbrev rdoU (br:Nat) (bd:Bool) (A:Option Addr) (m c:Nat):Ob:=⟨br,0,[.slice A m c,.bool bd],true⟩
theorem qgt {br:Nat} {bd bd':Bool} {A A':Option Addr} {m c m' c':Nat} {tb:Tb} {rs:List Rw} {b o:Nat} (h:Act_ (rdoU br bd A m c :: tb) rs b o):Act_ (rdoU br bd' A' m' c' :: tb) rs b o:=by
 rcases h with ⟨i,ob,hi,h1⟩ | h
 ·cases i with
  | zero =>
   simp only [List.getElem?_cons_zero,Option.some.injEq] at hi
   subst hi
   exact .inl ⟨0,_,rfl,h1⟩
  | succ i=>exact .inl ⟨i + 1,ob,hi,h1⟩
 exact .inr h
theorem qdt {G:Nat → Nat → Prop} {w0 w:World} {br:Nat} {bd bd':Bool} {A A':Option Addr} {m c m' c':Nat} {tb:Tb} {rs:List Rw} {b o:Nat} (h:Imm G w0 w (rdoU br bd A m c :: tb) rs b o):Imm G w0 w (rdoU br bd' A' m' c' :: tb) rs b o :=
 ⟨h.1,h.2.1,fun ha=>h.2.2 (qgt ha)⟩
theorem qcL {n br:Nat} {bd bd':Bool} {A A':Option Addr} {m c m' c':Nat} {tb:Tb} {env:Env} {a:Act} (h:EnvOk n (rdoU br bd A m c :: tb) env a):EnvOk n (rdoU br bd' A' m' c' :: tb) env a:=by
 refine h.table fun i hi=>?_
 cases i with
 | zero=>exact ⟨by simp,rfl,rfl⟩
 | succ i=>exact ⟨by simpa using hi,rfl,rfl⟩
structure RSU (w0:World) (M F:Nat → Nat → Prop) (n br:Nat) (tb:Tb) (env:Env) (P:qcc) (σ:Sg) (a:Act) (w:World):Prop where
 mv:MvF P
 ex:∃ A m c,WOk w0 M w (rdoU br σ.1 A m c :: tb) [] ∧ RdS w (Imm F w0 w (rdoU br false none 0 0 :: tb) []) A m c σ.2
 env_:EnvOk n (rdoU br false none 0 0 :: tb) env a
 fact:P w (Imm F w0 w (rdoU br false none 0 0 :: tb) [])
 lim:σ.2.length ≤ 1000
section
variable {Pr:Program} {ops opsA opsB opsC:Array Oper} {Q:Exit → Act → World → Prop} {w0:World} {M F:Nat → Nat → Prop} {n br:Nat} {tb:Tb} {env:Env} {P:qcc} {σ:Sg} {a:Act} {w:World}
theorem RSU.mk' {A:Option Addr} {m c:Nat} (hW:WOk w0 M w (rdoU br σ.1 A m c :: tb) []) (hr:RdS w (Imm F w0 w (rdoU br σ.1 A m c :: tb) []) A m c σ.2) (hE:EnvOk n (rdoU br σ.1 A m c :: tb) env a) (mv:MvF P) (hP:P w (Imm F w0 w (rdoU br σ.1 A m c :: tb) [])) (lim:σ.2.length ≤ 1000):RSU w0 M F n br tb env P σ a w :=
 ⟨mv,⟨A,m,c,hW,hr.move (Step.refl w Nil) nilM fun b o h _=>qdt h⟩,(qcL hE),mv.mono (fun b o h _=>qdt h) hP,lim⟩
theorem RSU.open_ (h:RSU w0 M F n br tb env P σ a w):∃ A m c,WOk w0 M w (rdoU br σ.1 A m c :: tb) [] ∧ RdS w (Imm F w0 w (rdoU br σ.1 A m c :: tb) []) A m c σ.2 ∧ EnvOk n (rdoU br σ.1 A m c :: tb) env a ∧ P w (Imm F w0 w (rdoU br σ.1 A m c :: tb) []):=by
 obtain ⟨A,m,c,hW,hr⟩:=h.ex
 exact ⟨A,m,c,hW,hr.move (Step.refl w Nil) nilM fun b o h _=>qdt h,(qcL h.env_),h.mv.mono (fun b o h _=>qdt h) h.fact⟩
theorem RSU.cast {σ':Sg} (h:RSU w0 M F n br tb env P σ a w) (e:σ = σ'):RSU w0 M F n br tb env P σ' a w:=e ▸ h
theorem RSU.weak {P':qcc} (h:RSU w0 M F n br tb env P σ a w) (mv:MvF P') (hP:∀ w F,P w F → P' w F):RSU w0 M F n br tb env P' σ a w:=⟨mv,h.ex,h.env_,hP _ _ h.fact,h.lim⟩
theorem RSU.pk {env':Env} (h:RSU w0 M F n br tb env P σ a w) (e:ME.pick env (qbE env') = some env':=by kernel_rfl):RSU w0 M F n br tb env' P σ a w:=⟨h.mv,h.ex,h.env_.pk e,h.fact,h.lim⟩
theorem RSU.envEq {env':Env} (h:RSU w0 M F n br tb env P σ a w) (e:env = env'):RSU w0 M F n br tb env' P σ a w:=e ▸ h
theorem RSU.tbEq {tb':Tb} (h:RSU w0 M F n br tb env P σ a w) (e:tb = tb'):RSU w0 M F n br tb' env P σ a w:=e ▸ h
theorem RSU.recast (h:RSU w0 M F n br tb env P σ a w) (k:Nat) (x y:SV) (hx:lk env k = some x) (hy:y.val (rdoU br false none 0 0 :: tb) = x.val (rdoU br false none 0 0 :: tb)) (ho:y.ok (rdoU br false none 0 0 :: tb)):RSU w0 M F n br tb ((k,y) :: env) P σ a w:=⟨h.mv,h.ex,h.env_.recast k x y hx hy ho,h.fact,h.lim⟩
theorem qcd {L:List Nat} (idxs rest:List Nat) (env':Env) (h:RSU w0 M F n br tb env P σ a w) (k:∀ a',RSU w0 M F n br tb env' P σ a' w → wpOps Pr ops Q rest a' w) (e:∀ bd A m c,qcq Pr ops n (rdoU br bd A m c :: tb) idxs (qbE env') env = some env':=by intro _ _ _ _; kernel_rfl) (hl:L = idxs ++ rest:=by rfl):wpOps Pr ops Q L a w:=by
 obtain ⟨A,m,c,hW,hr,hE,hP⟩:=h.open_
 exact qbm idxs rest (qbE env') hW hE (e _ A m c) hl fun a' hE'=>k a' (RSU.mk' hW hr hE' h.mv hP h.lim)
theorem qbF {id:Nat} (env':Env) (h:RSU w0 M F n br tb env P σ a w) (k:∀ a',RSU w0 M F n br tb env' P σ a' w → Q .normal a' w) (e:∀ bd A m c,qcq Pr ops n (rdoU br bd A m c :: tb) (List.range ops.size) (qbE env') env = some env':=by intro _ _ _ _; kernel_rfl):(Code.region id ops false).wp Pr Q a w :=
 qaC (List.range ops.size) rfl (qcd (List.range ops.size) [] env' h (fun a' h'=>qag (k a' h')) e (List.append_nil _).symm)
theorem qhy {id:Nat} {y:Code} (env':Env) (h:RSU w0 M F n br tb env P σ a w) (k:∀ a',RSU w0 M F n br tb env' P σ a' w → y.wp Pr Q a' w) (e:∀ bd A m c,qcq Pr ops n (rdoU br bd A m c :: tb) (List.range ops.size) (qbE env') env = some env':=by intro _ _ _ _; kernel_rfl):(Code.seq (.region id ops false) y).wp Pr Q a w :=
 wp_seq (qbF env' h (fun a' h'=>qab (k a' h')) e)
def RdPostT (w:World) (br:Nat) (F:Nat → Nat → Prop) (σ':Sg) (Q:Value → World → Prop):Ending → World → Prop:=fun e w' =>
 ∃ v A' n' c',e = .returned v ∧ Str w' br [.slice A' n' c',.bool σ'.1] ∧ RdS w' F A' n' c' σ'.2 ∧ Step w w' (RdM br) ∧ Q v w'
structure RPrimU (Pr:Program) (f:FuncId) {τ:Type} (σ σ':Sg) (val:τ → Value) (fact:τ → qcc):Prop where
 len:σ'.2.length ≤ σ.2.length
 go:∀ {br:Nat} {A:Option Addr} {m c:Nat} {w:World} {F:Nat → Nat → Prop},Str w br [.slice A m c,.bool σ.1] → RdS w F A m c σ.2 → (∀ b o,F b o → ¬ RdM br b o) →
  Calls Pr f #[.pointer (some ⟨br,0,none⟩)] w (RdPostT w br (Fp F w) σ' fun v w'=>∃ x,v = val x ∧ fact x w' (Fp F w))
structure RPrim0U (Pr:Program) (f:FuncId) (σ σ':Sg) (v0:Value):Prop where
 len:σ'.2.length ≤ σ.2.length
 go:∀ {br:Nat} {A:Option Addr} {m c:Nat} {w:World} {F:Nat → Nat → Prop},Str w br [.slice A m c,.bool σ.1] → RdS w F A m c σ.2 → (∀ b o,F b o → ¬ RdM br b o) →
  Calls Pr f #[.pointer (some ⟨br,0,none⟩)] w (RdPostT w br (Fp F w) σ' fun v w'=>v = v0)
theorem RdPostT.fp {w:World} {br:Nat} {F:Nat → Nat → Prop} {σ':Sg} {Q Q':Value → World → Prop} {e:Ending} {w':World} (hq:∀ v w',Q v w' → Q' v w') (h:RdPostT w br F σ' Q e w'):RdPostT w br (Fp F w) σ' Q' e w':=by
 obtain ⟨v,A',n',c',h1,h2,h3,h4,h5⟩:=h
 exact ⟨v,A',n',c',h1,h2,h3.move (Step.refl _ Nil) nilM fun b o g _=>.inl g,h4,hq _ _ h5⟩
theorem RdPostT.q {w:World} {br:Nat} {F:Nat → Nat → Prop} {σ':Sg} {Q Q':Value → World → Prop} {e:Ending} {w':World} (hq:∀ v w',Q v w' → Q' v w') (h:RdPostT w br F σ' Q e w'):RdPostT w br F σ' Q' e w':=by
 obtain ⟨v,A',n',c',h1,h2,h3,h4,h5⟩:=h
 exact ⟨v,A',n',c',h1,h2,h3,h4,hq _ _ h5⟩
theorem qeW {i d:Nat} {f:FuncId} {τ:Type} {σ':Sg} {val:τ → Value} {fact:τ → qcc} {N:Act → World → Prop} (h:RSU w0 M F n br tb env P σ a w) (hc:RPrimU Pr f σ σ' val fact) (hm:∀ x,MvF (fact x))
  (hf:∀ args w,(callFunc f args).run Pr w = .ok (.enter f args) w) (K:∀ x P' a' w',(∀ w F,P' w F → P w F ∧ fact x w F) → RSU w0 M F n br tb ((d,.v (val x)) :: env) P' σ' a' w' → N a' w')
  (he:∀ bd A m c,qdm (rdoU br bd A m c :: tb) env ops n i = some (f,[.pointer (some ⟨br,0,none⟩)],d):=by intro _ _ _ _; kernel_rfl):wpOp Pr ops Q i N a w:=by
 obtain ⟨A,m,c,hW,hr,hE,hP⟩:=h.open_
 refine qaw hE (he _ A m c) hf (hc.go (Str.of hW 0 rfl) hr (qcj 0 rfl)) ?_
 rintro e_ w1 ⟨_,A1,n1,c1,rfl,hs,hr1,hst,x,rfl,hx⟩
 refine ⟨_,rfl,fun a1 hE1=>?_⟩
 obtain ⟨hW2,hF2,hL⟩:=hW.wrote 0 (rdoU br σ'.1 A1 n1 c1 :: tb) rfl hst hs
 exact K x (andF P (fact x)) a1 w1 (fun _ _ g=>g) (RSU.mk' hW2 (hr1.move (Step.refl _ Nil) nilM hL) (qcL hE1) (h.mv.and (hm x)) ⟨h.mv.move hF2.step immM hF2.to' hP,(hm x).mono hL hx⟩ (Nat.le_trans hc.len h.lim))
theorem qfQ {i d:Nat} {f:FuncId} {σ':Sg} {v0:Value} {N:Act → World → Prop} (h:RSU w0 M F n br tb env P σ a w) (hc:RPrim0U Pr f σ σ' v0)
  (hf:∀ args w,(callFunc f args).run Pr w = .ok (.enter f args) w) (K:∀ a' w',RSU w0 M F n br tb ((d,.v v0) :: env) P σ' a' w' → N a' w')
  (he:∀ bd A m c,qdm (rdoU br bd A m c :: tb) env ops n i = some (f,[.pointer (some ⟨br,0,none⟩)],d):=by intro _ _ _ _; kernel_rfl):wpOp Pr ops Q i N a w:=by
 obtain ⟨A,m,c,hW,hr,hE,hP⟩:=h.open_
 refine qaw hE (he _ A m c) hf (hc.go (Str.of hW 0 rfl) hr (qcj 0 rfl)) ?_
 rintro e_ w1 ⟨_,A1,n1,c1,rfl,hs,hr1,hst,rfl⟩
 refine ⟨_,rfl,fun a1 hE1=>?_⟩
 obtain ⟨hW2,hF2,hL⟩:=hW.wrote 0 (rdoU br σ'.1 A1 n1 c1 :: tb) rfl hst hs
 exact K a1 w1 (RSU.mk' hW2 (hr1.move (Step.refl _ Nil) nilM hL) (qcL hE1) h.mv (h.mv.move hF2.step immM hF2.to' hP) (Nat.le_trans hc.len h.lim))
theorem qem {i d:Nat} {f:FuncId} {v0:Value} {N:Act → World → Prop} (h:RSU w0 M F n br tb env P σ a w) (hc:∀ {br:Nat} {A:Option Addr} {m c:Nat} {w:World},Str w br [.slice A m c,.bool σ.1] → Calls Pr f #[.pointer (some ⟨br,0,none⟩)] w (fun e w'=>e = .returned v0 ∧ w' = w))
  (hf:∀ args w,(callFunc f args).run Pr w = .ok (.enter f args) w) (K:∀ a',RSU w0 M F n br tb ((d,.v v0) :: env) P σ a' w → N a' w)
  (he:∀ bd A m c,qdm (rdoU br bd A m c :: tb) env ops n i = some (f,[.pointer (some ⟨br,0,none⟩)],d):=by intro _ _ _ _; kernel_rfl):wpOp Pr ops Q i N a w:=by
 obtain ⟨A,m,c,hW,hr,hE,hP⟩:=h.open_
 refine qaw hE (he _ A m c) hf (hc (Str.of hW 0 rfl)) ?_
 rintro e_ _ ⟨rfl,rfl⟩
 exact ⟨_,rfl,fun a1 hE1=>K a1 (RSU.mk' hW hr hE1 h.mv hP h.lim)⟩
theorem qen {i:Nat} (tb':Tb) (j:Nat) {N:Act → World → Prop} (h:RSU w0 M F n br tb env P σ a w) (K:∀ w',RSU w0 M F n br tb' env P σ a w' → N a w')
  (he:∀ bd A m c,qeO Pr (rdoU br bd A m c :: tb) env ops i = some (j + 1,(obAt tb' j).cells):=by intro _ _ _ _; kernel_rfl) (ht:Tb.put tb j (obAt tb' j).cells = tb':=by rfl):wpOp Pr ops Q i N a w:=by
 obtain ⟨A,m,c,hW,hr,hE,hP⟩:=h.open_
 refine qaq hW hE (he _ A m c) fun w1 hF1 hW1 hE1=>K w1 ?_
 have e:Tb.put (rdoU br σ.1 A m c :: tb) (j + 1) (obAt tb' j).cells = rdoU br σ.1 A m c :: tb':=by
  show rdoU br σ.1 A m c :: Tb.put tb j (obAt tb' j).cells = _
  rw [ht]
 rw [e] at hF1 hW1 hE1
 exact RSU.mk' hW1 (hr.move hF1.step immM hF1.to') hE1 h.mv (h.mv.move hF1.step immM hF1.to' hP) h.lim
theorem qco {id d:Nat} {f:FuncId} {σ':Sg} {v0:Value} (env':Env) (h:RSU w0 M F n br tb env P σ a w) (hc:RPrim0U Pr f σ σ' v0)
  (hf:∀ args w,(callFunc f args).run Pr w = .ok (.enter f args) w) (K:∀ a' w',RSU w0 M F n br tb env' P σ' a' w' → Q .normal a' w')
  (he:∀ bd A m c,qdm (rdoU br bd A m c :: tb) env ops n 0 = some (f,[.pointer (some ⟨br,0,none⟩)],d):=by intro _ _ _ _; kernel_rfl)
  (e:∀ bd A m c,qcq Pr ops n (rdoU br bd A m c :: tb) ((List.range ops.size).drop 1) (qbE env') ((d,.v v0) :: env) = some env':=by intro _ _ _ _; kernel_rfl) (hs:Nat.blt 0 ops.size = true:=by kernel_rfl):(Code.region id ops false).wp Pr Q a w:=by
 refine qaC _ (qfk hs) (qal (qfQ h hc hf (fun a' w' hS=>?_) he))
 exact qcd ((List.range ops.size).drop 1) [] env' hS (fun a2 h2=>qag (K a2 w' h2)) e (List.append_nil _).symm
theorem qgu {idA idB idC d1 d2:Nat} {o:Operand} {b:Bool} {f1 f2:FuncId} {σ':Sg} {v0:Value} (envA env':Env) (h:RSU w0 M F n br tb env P σ a w)
  (hc1:b = true → RPrim0U Pr f1 σ σ' v0) (hf1:∀ args w,(callFunc f1 args).run Pr w = .ok (.enter f1 args) w) (hc2:b = false → RPrim0U Pr f2 σ σ' v0) (hf2:∀ args w,(callFunc f2 args).run Pr w = .ok (.enter f2 args) w)
  (K:∀ a' w',RSU w0 M F n br tb env' P σ' a' w' → Q .normal a' w')
  (eA:∀ bd A m c,qcq Pr opsA n (rdoU br bd A m c :: tb) (List.range opsA.size) (qbE envA) env = some envA:=by intro _ _ _ _; kernel_rfl) (ho:opd envA o = some (.v (.bool b)):=by kernel_rfl)
  (he1:∀ bd A m c,qdm (rdoU br bd A m c :: tb) envA opsB n 0 = some (f1,[.pointer (some ⟨br,0,none⟩)],d1):=by intro _ _ _ _; kernel_rfl) (he2:∀ bd A m c,qdm (rdoU br bd A m c :: tb) envA opsC n 0 = some (f2,[.pointer (some ⟨br,0,none⟩)],d2):=by intro _ _ _ _; kernel_rfl)
  (e1:∀ bd A m c,qcq Pr opsB n (rdoU br bd A m c :: tb) ((List.range opsB.size).drop 1) (qbE env') ((d1,.v v0) :: envA) = some env':=by intro _ _ _ _; kernel_rfl) (e2:∀ bd A m c,qcq Pr opsC n (rdoU br bd A m c :: tb) ((List.range opsC.size).drop 1) (qbE env') ((d2,.v v0) :: envA) = some env':=by intro _ _ _ _; kernel_rfl)
  (hs1:Nat.blt 0 opsB.size = true:=by kernel_rfl) (hs2:Nat.blt 0 opsC.size = true:=by kernel_rfl):(Code.seq (.region idA opsA false) (.cond o (.region idB opsB false) (.region idC opsC false))).wp Pr Q a w :=
 qhy envA h (fun a1 h1=>qbd h1.env_ ho (fun hb=>qco env' h1 (hc1 hb) hf1 K he1 e1 hs1) (fun hb=>qco env' h1 (hc2 hb) hf2 K he2 e2 hs2)) eA
theorem qdh {id:Nat} (tb':Tb) (j:Nat) (env':Env) (h:RSU w0 M F n br tb env P σ a w) (K:∀ a' w',RSU w0 M F n br tb' env' P σ a' w' → Q .normal a' w')
  (he:∀ bd A m c,stoE Pr ops n (rdoU br bd A m c :: tb) env (qbE env') = some (j + 1,(obAt tb' j).cells,env'):=by intro _ _ _ _; kernel_rfl) (ht:Tb.put tb j (obAt tb' j).cells = tb':=by rfl) (hs:Nat.blt 0 ops.size = true:=by kernel_rfl):(Code.region id ops false).wp Pr Q a w:=by
 obtain ⟨A,m,c,hW,hr,hE,hP⟩:=h.open_
 have h1:=he σ.1 A m c
 unfold stoE at h1
 split at h1
 ·rename_i e he'
  split at h1
  ·rename_i i cs e' g1 g2
   simp only [Option.some.injEq,Prod.mk.injEq] at h1
   obtain ⟨rfl,rfl,rfl⟩:=h1
   have hr0:List.range ops.size = List.range (ops.size - 1) ++ [ops.size - 1]:=by
    have:0 < ops.size:=by simpa [Nat.blt_eq] using hs
    rw [← List.range_succ]; congr 1; omega
   refine qaC _ hr0 (qcH hW.cells hE he' fun a1 hE1=>qal (qaq hW hE1 g1 fun w1 hF1 hW1 hE2=>qag (K a1 w1 ?_)))
   have e:Tb.put (rdoU br σ.1 A m c :: tb) (j + 1) (obAt tb' j).cells = rdoU br σ.1 A m c :: tb':=by
    show rdoU br σ.1 A m c :: Tb.put tb j (obAt tb' j).cells = _
    rw [ht]
   rw [e] at hF1 hW1 hE2
   exact RSU.mk' hW1 (hr.move hF1.step immM hF1.to') (hE2.pick g2) h.mv (h.mv.move hF1.step immM hF1.to' hP) h.lim
  cases h1
 cases h1
theorem qeC {A0:Option Addr} {i d j:Nat} {t tn e:TypeId} {size bytes:Nat} {k kn:IntKind} {q:Int} (z:Value) {N:Act → World → Prop} (h:RSU w0 M F n br tb env P σ a w)
  (K:∀ g c a' w',w0.heap.size ≤ g → j ≤ c → RSU w0 M F n br (tb ++ [⟨g,0,qbQ z j,true⟩]) ((d,.v (.slice (some ⟨g,0,none⟩) j c)) :: env) P σ a' w' → N a' w')
  (hq:q = (j:Int)) (hj:0 < j) (hb:j * bytes ≤ 140737488355328)
  (he:∀ bd A m c,appE (rdoU br bd A m c :: tb) env ops n i = some (t,tn,.slice A0 0 0,.int k q,d):=by intro _ _ _ _; kernel_rfl) (ht:qck Pr t = some (e,size,bytes):=by kernel_rfl) (htn:Pr.underlying tn = some (.int kn):=by kernel_rfl) (hz:(Pr.info? e).bind (·.zero) = some z:=by kernel_rfl):wpOp Pr ops Q i N a w:=by
 obtain ⟨A,m,c,hW,hr,hE,hP⟩:=h.open_
 refine qel hW hE (he _ A m c) ht htn hz hq hj hb fun g c1 a1 w1 hg hg0 hF1 hW1 hE1=>?_
 have hP1:=h.mv.move hF1.step immM hF1.to' hP
 have hr1:=hr.move hF1.step immM hF1.to'
 have hcap:j ≤ c1:=by
  obtain ⟨A',c',hv,_,_,h4⟩:=qdq (hW1.own 0 _ rfl)
  simp only [Rw.v,Value.slice.injEq,true_and] at hv
  rw [hv.2]; exact h4
 obtain ⟨hW2,hF2⟩:=hW1.layRowM (k:=0) rfl rfl hg0 [] (rdoU br σ.1 A m c :: (tb ++ [⟨g,0,qbQ z j,true⟩])) rfl rfl
 exact K g c1 a1 w1 hg0 hcap (RSU.mk' hW2 (hr1.move hF2.step immM hF2.to') (hE1.grow ⟨g,0,qbQ z j,true⟩) h.mv (h.mv.move hF2.step immM hF2.to' hP1) h.lim)
theorem qfl {i d n':Nat} {f:FuncId} {fn:Func} {c:Code} {vs:List Value} {N:Act → World → Prop} (h:RSU w0 M F n br tb env P σ a w) (hf:∀ args w,(callFunc f args).run Pr w = .ok (.enter f args) w) (hfn:Pr.funcs[f]? = some fn) (hb:fn.body = some c) (hn:fn.ntmps = n')
  (K:∀ a2,RSU w0 M F n' br tb (qdd 0 vs) P σ a2 w → c.wp Pr (bodyPost Pr fn (fun e w'=>∃ v,e = .returned v ∧ ∀ a',EnvOk n (rdoU br false none 0 0 :: tb) ((d,.v v) :: env) a' → N a' w')) a2 w)
  (he:∀ bd A m c,qdm (rdoU br bd A m c :: tb) env ops n i = some (f,vs,d):=by intro _ _ _ _; kernel_rfl) (hl:Nat.ble vs.length n' = true:=by kernel_rfl):wpOp Pr ops Q i N a w:=by
 obtain ⟨A,m,c,hW,hr,hE,hP⟩:=h.open_
 exact qaQ h.env_ (he _ none 0 0) hf hfn hb hn hl fun a2 hE2=>K a2 (RSU.mk' hW hr (qcL hE2) h.mv hP h.lim)
theorem qgv {n' d:Nat} {fn:Func} {tb0:Tb} {env0:Env} {v:Value} {N:Act → World → Prop} (h:RSU w0 M F n' br tb env P σ a w) (K:∀ a',RSU w0 M F n br tb ((d,.v v) :: env0) P σ a' w → N a' w) (hp:Pl (rdoU br false none 0 0 :: tb0) (rdoU br false none 0 0 :: tb))
  (hr:∀ bd A m c,resE Pr (rdoU br bd A m c :: tb) env fn.results = some v:=by intro _ _ _ _; kernel_rfl):bodyPost Pr fn (fun e w'=>∃ v,e = .returned v ∧ ∀ a',EnvOk n (rdoU br false none 0 0 :: tb0) ((d,.v v) :: env0) a' → N a' w') .ret a w:=by
 obtain ⟨A,m,c,hW,hrd,hE,hP⟩:=h.open_
 exact qaZ hE hW.cells (hr _ A m c) ⟨v,rfl,fun a' hE'=>K a' (RSU.mk' hW hrd (qcL (hE'.places hp)) h.mv hP h.lim)⟩
theorem qfR {n' d:Nat} {fn:Func} {tb0:Tb} {env0:Env} {v:Value} {N:Act → World → Prop} (h:RSU w0 M F n' br tb env P σ a w) (K:∀ a',RSU w0 M F n br tb ((d,.v v) :: env0) P σ a' w → N a' w) (hp:Pl (rdoU br false none 0 0 :: tb0) (rdoU br false none 0 0 :: tb))
  (hr:∀ bd A m c,resE Pr (rdoU br bd A m c :: tb) env fn.results = some v:=by intro _ _ _ _; kernel_rfl):bodyPost Pr fn (fun e w'=>∃ v,e = .returned v ∧ ∀ a',EnvOk n (rdoU br false none 0 0 :: tb0) ((d,.v v) :: env0) a' → N a' w') .normal a w :=
 qgv h K hp hr
end
def qc7 (g size:Nat) (cl:DV → List Value) (ok:World → (Nat → Nat → Prop) → DV → Prop) (rel:Nat → DV → Prop) (k:Nat):qcc:=fun w F=>∃ ds:Nat → DV,∀ i,i < k → (cl (ds i)).length = size ∧ AtF w F g (0 + i * size) (cl (ds i)) ∧ ok w F (ds i) ∧ rel i (ds i)
theorem MvF.doneU {g size:Nat} {cl:DV → List Value} {ok:World → (Nat → Nat → Prop) → DV → Prop} {rel:Nat → DV → Prop} {k:Nat} (mv:qez ok):MvF (qc7 g size cl ok rel k):=⟨fun hs hM hF h=>by
 obtain ⟨ds,h⟩:=h
 refine ⟨ds,fun i hi=>?_⟩
 obtain ⟨h1,h2,h3,h4⟩:=h i hi
 exact ⟨h1,h2.move hs hM hF,mv _ hs hM hF h3,h4⟩⟩
abbrev qbg (g size:Nat) (z:Value) (l k:Nat):Ob:=⟨g,k * size,qbQ z (l - k),true⟩
def qgw (size:Nat) (cl:DV → List Value) (ok:World → (Nat → Nat → Prop) → DV → Prop) (rel:Nat → DV → Prop) (A:Option Addr) (c N:Nat) (f:Nat → DV):qcc:=fun w F=>Slots w F size A c N (fun i=>cl (f i)) ∧ (∀ i,i < N → ok w F (f i)) ∧ ∀ i,i < N → rel i (f i)
theorem MvF.lstU {size:Nat} {cl:DV → List Value} {ok:World → (Nat → Nat → Prop) → DV → Prop} {rel:Nat → DV → Prop} {A:Option Addr} {c N:Nat} {f:Nat → DV} (mv:qez ok):MvF (qgw size cl ok rel A c N f):=⟨fun hs hM hF h =>
 ⟨h.1.move hs hM hF,fun i hi=>mv _ hs hM hF (h.2.1 i hi),h.2.2⟩⟩
section
variable {Pr:Program} {ops:Array Oper} {Q:Exit → Act → World → Prop} {w0:World} {M F:Nat → Nat → Prop} {n br:Nat} {tb:Tb} {env:Env} {P:qcc} {σ:Sg} {a:Act} {w:World}
 {g size:Nat} {cl:DV → List Value} {ok:World → (Nat → Nat → Prop) → DV → Prop} {rel:Nat → DV → Prop} {N:Nat} {z:Value}
theorem RSU.pull {ι:Type} {Qf:ι → qcc} (h:RSU w0 M F n br tb env (andF P (fun w F=>∃ x,Qf x w F)) σ a w) (mP:MvF P) (mv:∀ x,MvF (Qf x)):∃ x,RSU w0 M F n br tb env (andF P (Qf x)) σ a w:=by
 obtain ⟨h1,x,hx⟩:=h.fact
 exact ⟨x,mP.and (mv x),h.ex,h.env_,⟨h1,hx⟩,h.lim⟩
theorem RSU.drop {b o:Nat} {cs:List Value} (h:RSU w0 M F n br (tb ++ [⟨b,o,cs,true⟩]) env P σ a w) (hb:w0.heap.size ≤ b) (hl:qde (tb.length + 1) env = true):RSU w0 M F n br tb env (andF P (atF b o cs)) σ a w:=by
 obtain ⟨A,m,c,hW,hr,hE,hP⟩:=h.open_
 have hW':WOk w0 M w ((rdoU br σ.1 A m c :: tb) ++ [⟨b,o,cs,true⟩]) []:=hW
 have h1:=hW'.cutTb (tb.length + 1)
 have hF:=Fr.cutTb w ((rdoU br σ.1 A m c :: tb) ++ [⟨b,o,cs,true⟩]) [] (tb.length + 1)
 have e:((rdoU br σ.1 A m c :: tb) ++ [(⟨b,o,cs,true⟩:Ob)]).take (tb.length + 1) = rdoU br σ.1 A m c :: tb:=by
  show List.take ((rdoU br σ.1 A m c :: tb).length) _ = _
  exact List.take_left
 have hE1:=hE.cutTb (tb.length + 1) hl
 have e2:(rdoU br σ.1 A m c :: (tb ++ [(⟨b,o,cs,true⟩:Ob)])).take (tb.length + 1) = rdoU br σ.1 A m c :: tb:=e
 rw [e] at h1 hF
 rw [e2] at hE1
 exact RSU.mk' h1 (hr.move hF.step immM hF.to') hE1 (h.mv.and (MvF.at_ _ _ _)) ⟨h.mv.move hF.step immM hF.to' hP,hW'.atLast hb⟩ h.lim
theorem RSU.next {l k:Nat} (h:RSU w0 M F n br (tb ++ [qbg g size z l k]) env P σ a w) (hk:k < l) (hz:z.cells.size = size) (hl:qde (tb.length + 1) env = true):RSU w0 M F n br (tb ++ [qbg g size z l (k + 1),⟨g,k * size,z.cells.toList,true⟩]) env P σ a w:=by
 obtain ⟨A,m,c,hW,hr,hE,hP⟩:=h.open_
 have e:qbQ z (l - k) = z.cells.toList ++ qbQ z (l - (k + 1)):=by rw [show l - k = (l - (k + 1)) + 1 by omega,qeA]
 have hW':WOk w0 M w ((rdoU br σ.1 A m c :: tb) ++ [⟨g,k * size,z.cells.toList ++ qbQ z (l - (k + 1)),true⟩]) []:=by rw [← e]; exact hW
 obtain ⟨h1,hF⟩:=hW'.splitL (o2:=(k + 1) * size) (by rw [Array.length_toList,hz,Nat.add_mul,Nat.one_mul])
 rw [← e] at hF
 have hE1:=hE.cutTb (tb.length + 1) hl
 have e2:(rdoU br σ.1 A m c :: (tb ++ [qbg g size z l k])).take (tb.length + 1) = rdoU br σ.1 A m c :: tb:=by
  show List.take ((rdoU br σ.1 A m c :: tb).length) ((rdoU br σ.1 A m c :: tb) ++ _) = _
  exact List.take_left
 rw [e2] at hE1
 have hE2:=(hE1.grow (qbg g size z l (k + 1))).grow ⟨g,k * size,z.cells.toList,true⟩
 have e3:((rdoU br σ.1 A m c :: tb) ++ [qbg g size z l (k + 1)]) ++ [(⟨g,k * size,z.cells.toList,true⟩:Ob)] = rdoU br σ.1 A m c :: (tb ++ [qbg g size z l (k + 1),⟨g,k * size,z.cells.toList,true⟩]):=by simp
 rw [e3] at hE2
 exact RSU.mk' h1 (hr.move hF.step immM hF.to') hE2 h.mv (h.mv.move hF.step immM hF.to' hP) h.lim
theorem RSU.thing {k:Nat} {D:DV} {X:qcc} (h:RSU w0 M F n br (tb ++ [qbg g size z N (k + 1),⟨g,k * size,cl D,true⟩]) env X σ a w) (hg:w0.heap.size ≤ g) (mv:qez ok) (mP:MvF P) (hcl:(cl D).length = size)
  (hx:∀ w F,X w F → P w F ∧ qc7 g size cl ok rel k w F ∧ ok w F D ∧ rel k D) (hl:qde (tb.length + 2) env = true):RSU w0 M F n br (tb ++ [qbg g size z N (k + 1)]) env (andF P (qc7 g size cl ok rel (k + 1))) σ a w:=by
 have h':RSU w0 M F n br ((tb ++ [qbg g size z N (k + 1)]) ++ [⟨g,k * size,cl D,true⟩]) env X σ a w:=by
  rw [List.append_assoc]; exact h
 refine (h'.drop hg (by simpa using hl)).weak (mP.and (MvF.doneU mv)) fun w F hf=>?_
 obtain ⟨hf,hat⟩:=hf
 obtain ⟨h1,⟨ds,h2⟩,h3,h4⟩:=hx w F hf
 refine ⟨h1,fun i=>if i = k then D else ds i,fun i hi=>?_⟩
 by_cases hik:i = k
 ·subst hik
  simp only [if_true]
  exact ⟨hcl,by rw [Nat.zero_add]; exact hat,h3,h4⟩
 simp only [if_neg hik]
 exact h2 i (by omega)
theorem RSU.listEnd {c:Nat} (h:RSU w0 M F n br (tb ++ [qbg g size z N N]) env (andF P (qc7 g size cl ok rel N)) σ a w) (hg:w0.heap.size ≤ g) (mv:qez ok) (mP:MvF P) (hc:N ≤ c) (hsm:N ≤ 1099511627776) (h0:0 < N)
  (hl:qde (tb.length + 1) env = true):∃ f:Nat → DV,RSU w0 M F n br tb env (andF P (qgw size cl ok rel (some ⟨g,0,none⟩) c N f)) σ a w:=by
 have mE:MvF (fun w F=>∃ f:Nat → DV,qgw size cl ok rel (some ⟨g,0,none⟩) c N f w F):=⟨fun hs hM hF hx=>by
  obtain ⟨f,hx⟩:=hx
  exact ⟨f,(MvF.lstU mv).move hs hM hF hx⟩⟩
 refine RSU.pull (Qf:=fun f=>qgw size cl ok rel (some ⟨g,0,none⟩) c N f) ((h.drop hg hl).weak (mP.and mE) fun w F hf=>?_) mP fun f=>MvF.lstU mv
 obtain ⟨⟨h1,ds,h2⟩,_⟩:=hf
 refine ⟨h1,ds,⟨hc,hsm,fun h=>by (cases h),fun ad hA _=>?_⟩,fun i hi=>(h2 i hi).2.2.1,fun i hi=>(h2 i hi).2.2.2⟩
 obtain rfl:=Option.some.inj hA
 exact ⟨g,0,rfl,fun i hi=>⟨(h2 i hi).1,(h2 i hi).2.1⟩⟩
theorem qgx {c:Code} (S:Nat → Sg) (envk:Nat → Env) (h:RSU w0 M F n br (tb ++ [⟨g,0,qbQ z N,true⟩]) (envk 0) P (S 0) a w) (mv:qez ok)
  (body:∀ k a w,k < N → RSU w0 M F n br (tb ++ [qbg g size z N k]) (envk k) (andF P (qc7 g size cl ok rel k)) (S k) a w →
   c.wp Pr (Exit.then (fun a' w'=>RSU w0 M F n br (tb ++ [qbg g size z N (k + 1)]) (envk (k + 1)) (andF P (qc7 g size cl ok rel (k + 1))) (S (k + 1)) a' w') Q) a w)
  (fin:∀ a w,RSU w0 M F n br (tb ++ [qbg g size z N N]) (envk N) (andF P (qc7 g size cl ok rel N)) (S N) a w → c.wp Pr (Exit.then (fun _ _=>False) Q) a w):(Code.loop c).wp Pr Q a w:=by
 refine wp_loop_ghost (fun q a_ w_=>∃ k,q = N - k ∧ k ≤ N ∧ RSU w0 M F n br (tb ++ [qbg g size z N k]) (envk k) (andF P (qc7 g size cl ok rel k)) (S k) a_ w_) N
  ⟨0,by omega,Nat.zero_le _,?_⟩ ?_
 ·have e:qbg g size z N 0 = ⟨g,0,qbQ z N,true⟩:=by simp only [qbg,Nat.zero_mul,Nat.sub_zero]
  rw [e]
  exact h.weak (h.mv.and (MvF.doneU mv)) fun w F hP=>⟨hP,fun _=>dv0,fun i hi=>absurd hi (Nat.not_lt_zero i)⟩
 rintro q aq wq ⟨k,rfl,hk,hS⟩
 rcases Nat.lt_or_ge k N with hlt | hge
 ·refine wp_mono (body k aq wq hlt hS) fun e a' w' hq=>?_
  cases e <;> first | exact hq | exact ⟨N - (k + 1),by omega,k + 1,rfl,hlt,hq⟩
 obtain rfl:k = N:=by omega
 refine wp_mono (fin aq wq hS) fun e a' w' hq=>?_
 cases e <;> first | exact hq | exact hq.elim
end
section
variable {Pr:Program} {ops:Array Oper} {Q:Exit → Act → World → Prop} {w0:World} {M F:Nat → Nat → Prop} {n br:Nat} {tb:Tb} {env:Env} {P:qcc} {σ:Sg} {a:Act} {w:World}
theorem qgy {id d:Nat} {t e:TypeId} {size bytes m cp:Nat} {A0:Option Addr} (env1 env':Env) (i:Nat) (h:RSU w0 M F n br tb env P σ a w) (K:∀ a',RSU w0 M F n br tb env' P σ a' w → Q .normal a' w)
  (hr:List.range ops.size = List.range i ++ (i :: (List.range ops.size).drop (i + 1)):=by kernel_rfl) (e1:∀ bd A m c,qcq Pr ops n (rdoU br bd A m c :: tb) (List.range i) (qbE env1) env = some env1:=by intro _ _ _ _; kernel_rfl)
  (hc:∀ bd A m_ c,cutE (rdoU br bd A m_ c :: tb) env1 ops n i = some (t,.slice A0 m cp,none,some 0,d):=by intro _ _ _ _; kernel_rfl) (ht:qck Pr t = some (e,size,bytes):=by kernel_rfl)
  (e2:∀ bd A m_ c,qcq Pr ops n (rdoU br bd A m_ c :: tb) ((List.range ops.size).drop (i + 1)) (qbE env') ((d,.v (.slice A0 0 cp)) :: env1) = some env':=by intro _ _ _ _; kernel_rfl):(Code.region id ops false).wp Pr Q a w:=by
 refine qaC _ hr (qcd (List.range i) _ env1 h (fun a1 h1=>?_) e1 rfl)
 obtain ⟨A,m1,c,hW,hrd,hE,hP⟩:=h1.open_
 refine qal (qev hE (hc _ A m1 c) ht (j:=0) rfl (Nat.zero_le _) fun a2 hE2=>?_)
 exact qcd _ [] env' (RSU.mk' hW hrd hE2 h1.mv hP h1.lim) (fun a3 h3=>qag (K a3 h3)) e2 (List.append_nil _).symm
theorem qhz {id d:Nat} {f:FuncId} {v0:Value} (env':Env) (h:RSU w0 M F n br tb env P σ a w) (hc:RPrim0U Pr f σ σ v0)
  (hf:∀ args w,(callFunc f args).run Pr w = .ok (.enter f args) w) (K:∀ a' w',RSU w0 M F n br tb env' P σ a' w' → Q .normal a' w')
  (he:∀ bd A m c,qdm (rdoU br bd A m c :: tb) env ops n 0 = some (f,[.pointer (some ⟨br,0,none⟩)],d):=by intro _ _ _ _; kernel_rfl)
  (e:∀ bd A m c,qcq Pr ops n (rdoU br bd A m c :: tb) ((List.range ops.size).drop 1) (qbE env') ((d,.v v0) :: env) = some env':=by intro _ _ _ _; kernel_rfl) (hs:Nat.blt 0 ops.size = true:=by kernel_rfl):(Code.region id ops false).wp Pr Q a w :=
 qco env' h hc hf K he e hs
theorem qfS {i d k l g size bytes:Nat} {t e:TypeId} {z:Value} {N:Act → World → Prop} (h:RSU w0 M F n br (tb ++ [qbg g size z l k]) env P σ a w) (hk:k < l) (hz:z.cells.size = size) (hl:qde (tb.length + 1) env = true)
  (K:∀ a',RSU w0 M F n br (tb ++ [qbg g size z l (k + 1),⟨g,k * size,z.cells.toList,true⟩]) ((d,.p (tb.length + 2) 0) :: env) P σ a' w → N a' w)
  (he:∀ bd A m c,idxE (rdoU br bd A m c :: (tb ++ [qbg g size z l k])) env ops n i = some (t,some ⟨g,0,none⟩,l,((k:Nat):Int),d):=by intro _ _ _ _; kernel_rfl) (ht:qck Pr t = some (e,size,bytes):=by kernel_rfl):wpOp Pr ops Q i N a w:=by
 obtain ⟨A,m,c,hW,hr,hE,hP⟩:=h.open_
 refine qao hE (he _ A m c) ht rfl rfl hk fun a1 hE1=>K a1 ?_
 have h1:RSU w0 M F n br (tb ++ [qbg g size z l k]) ((d,.v (.pointer (some ⟨g,0 + k * size,none⟩))) :: env) P σ a1 w:=RSU.mk' hW hr hE1 h.mv hP h.lim
 have h2:=h1.next hk hz (by simpa only [qde] using hl)
 have h3:=h2.recast d (.v (.pointer (some ⟨g,0 + k * size,none⟩))) (.p (tb.length + 2) 0) (by simp [lk]) ?_ (by show tb.length + 2 < _; simp)
 ·refine ⟨h3.mv,h3.ex,?_,h3.fact,h3.lim⟩
  refine ⟨h3.env_.defers,h3.env_.size,fun q x hx=>h3.env_.at_ q x ?_⟩
  simp only [lk] at hx ⊢
  split at hx
  ·exact hx
  exact hx
 have:obAt (rdoU br false none 0 0 :: (tb ++ [qbg g size z l (k + 1),⟨g,k * size,z.cells.toList,true⟩])) (tb.length + 2) = ⟨g,k * size,z.cells.toList,true⟩:=by
  simp only [obAt,List.getD_eq_getElem?_getD]
  rw [show tb.length + 2 = (tb.length + 1) + 1 from rfl,List.getElem?_cons_succ,List.getElem?_append_right (by omega)]
  simp
 simp only [SV.val,this]
 simp
theorem qgz {id d k l g size bytes:Nat} {t e:TypeId} {z:Value} (env1 env':Env) (i:Nat) (h:RSU w0 M F n br (tb ++ [qbg g size z l k]) env P σ a w) (hk:k < l) (hz:z.cells.size = size) (hl:qde (tb.length + 1) env1 = true)
  (K:∀ a',RSU w0 M F n br (tb ++ [qbg g size z l (k + 1),⟨g,k * size,z.cells.toList,true⟩]) env' P σ a' w → Q .normal a' w)
  (hr:List.range ops.size = List.range i ++ (i :: (List.range ops.size).drop (i + 1)):=by kernel_rfl) (e1:∀ bd A m c,qcq Pr ops n (rdoU br bd A m c :: (tb ++ [qbg g size z l k])) (List.range i) (qbE env1) env = some env1:=by intro _ _ _ _; kernel_rfl)
  (he:∀ bd A m c,idxE (rdoU br bd A m c :: (tb ++ [qbg g size z l k])) env1 ops n i = some (t,some ⟨g,0,none⟩,l,((k:Nat):Int),d):=by intro _ _ _ _; kernel_rfl) (ht:qck Pr t = some (e,size,bytes):=by kernel_rfl)
  (e2:∀ bd A m c,qcq Pr ops n (rdoU br bd A m c :: (tb ++ [qbg g size z l (k + 1),⟨g,k * size,z.cells.toList,true⟩])) ((List.range ops.size).drop (i + 1)) (qbE env') ((d,.p (tb.length + 2) 0) :: env1) = some env':=by intro _ _ _ _; kernel_rfl):(Code.region id ops false).wp Pr Q a w:=by
 refine qaC _ hr (qcd (List.range i) _ env1 h (fun a1 h1=>qal (qfS h1 hk hz hl (fun a2 h2=>?_) he ht)) e1 rfl)
 exact qcd _ [] env' h2 (fun a3 h3=>qag (K a3 h3)) e2 (List.append_nil _).symm
end
theorem RdS.dropT {w:World} {F:Nat → Nat → Prop} {A:Option Addr} {n c j:Nat} {s:Bs} (h:RdS w F A n c s) (hj:j ≤ s.length):RdS w F (cutA A c j) (n - j) (c - j) (s.drop j) :=
 ⟨by rw [h.len,List.length_drop],h.oct.drop hj⟩
theorem RdS.nil_ (w:World) (F:Nat → Nat → Prop):RdS w F none 0 0 []:=⟨rfl,Octs.nil _ _⟩
theorem qc8 {l:Nat} {J:Act → World → Prop} {Q:Exit → Act → World → Prop} {a:Act} {w:World} (h:Q .ret a w):Exit.jump l J Q .ret a w:=h
def badS:Sg:=(true,[])
def aN (k:Nat) (σ:Sg):Sg:=if σ.2.length < k then badS else (σ.1,σ.2.drop k)
def uI8 (σ:Sg):Int:=if σ.2.length < 1 then 0 else IntKind.i8.wrap ((σ.2.getD 0 0).toNat:Int)
def uI16 (σ:Sg):Int:=if σ.2.length < 2 then 0 else IntKind.i16.wrap (be16 σ.2)
def uI32 (σ:Sg):Int:=if σ.2.length < 4 then 0 else IntKind.i32.wrap (be32 σ.2)
def uvG (s:Bs):Nat × Int :=
 if s.length < 1 then (0,0) else if oc s 0 < 128 then (oc s 0,1) else
 if s.length < 2 then (0,0) else if oc s 1 < 128 then (oc s 0 - 128 + oc s 1 * 128,2) else
 if s.length < 3 then (0,0) else if oc s 2 < 128 then (oc s 0 - 128 + (oc s 1 - 128) * 128 + oc s 2 * 16384,3) else
 if s.length < 4 then (0,0) else if oc s 3 < 128 then (oc s 0 - 128 + (oc s 1 - 128) * 128 + (oc s 2 - 128) * 16384 + oc s 3 * 2097152,4) else
 if s.length < 5 then (0,0) else if oc s 4 < 16 then (oc s 0 - 128 + (oc s 1 - 128) * 128 + (oc s 2 - 128) * 16384 + (oc s 3 - 128) * 2097152 + oc s 4 * 268435456,5) else (0,-5)
theorem qea (s:Bs):(uvG s).2 ≤ (s.length:Int) ∧ (uvG s).1 < 4294967296:=by
 have h0:=qa9 s 0
 have h1:=qa9 s 1
 have h2:=qa9 s 2
 have h3:=qa9 s 3
 unfold uvG
 repeat' split
 all_goals (refine ⟨?_,?_⟩ <;> dsimp only <;> omega)
def uUv (σ:Sg):Nat:=if (uvG σ.2).2 ≤ 0 then 0 else (uvG σ.2).1
def aUv (σ:Sg):Sg:=if (uvG σ.2).2 ≤ 0 then badS else (σ.1,σ.2.drop (uvG σ.2).2.toNat)
def uSp (l:Int) (σ:Sg):Bs:=if (σ.2.length:Int) < l ∨ l < 0 then [] else σ.2.take l.toNat
def aSp (l:Int) (σ:Sg):Sg:=if (σ.2.length:Int) < l ∨ l < 0 then badS else (σ.1,σ.2.drop l.toNat)
def uStr (σ:Sg):Bs:=uSp (uI16 σ) (aN 2 σ)
def aStr (σ:Sg):Sg:=aSp (uI16 σ) (aN 2 σ)
def qeD (σ:Sg):Bs:=uSp ((uUv σ:Int) - 1) (aUv σ)
def qeE (σ:Sg):Sg:=aSp ((uUv σ:Int) - 1) (aUv σ)
def uAL (σ:Sg):Int:=if ((aN 4 σ).2.length:Int) < uI32 σ then 0 else uI32 σ
def aAL (σ:Sg):Sg:=if ((aN 4 σ).2.length:Int) < uI32 σ then badS else aN 4 σ
def cAL (σ:Sg):Int:=IntKind.i32.wrap (IntKind.i32.wrap (uUv σ:Int) - 1)
def uCAL (σ:Sg):Int:=if ((aUv σ).2.length:Int) < cAL σ then 0 else cAL σ
def aCAL (σ:Sg):Sg:=if ((aUv σ).2.length:Int) < cAL σ then badS else aUv σ
def tag1 (u:List (Int × Bs)) (σ:Sg):List (Int × Bs):=setT u (uUv σ:Int) (uSp (uUv (aUv σ):Int) (aUv (aUv σ)))
def aTag (σ:Sg):Sg:=aSp (uUv (aUv σ):Int) (aUv (aUv σ))
def qdM:Nat → List (Int × Bs) → Sg → List (Int × Bs) × Sg
 | 0,u,σ=>(u,σ)
 | n + 1,u,σ=>qdM n (tag1 u σ) (aTag σ)
def qdi (σ:Sg):List (Int × Bs):=(qdM (uUv σ) [] (aUv σ)).1
def qeF (σ:Sg):Sg:=(qdM (uUv σ) [] (aUv σ)).2
def uTxt (f:Bool) (σ:Sg):Bs:=if f = true then qeD σ else uStr σ
def aTxt (f:Bool) (σ:Sg):Sg:=if f = true then qeE σ else aStr σ
def uLen (f:Bool) (σ:Sg):Int:=if f = true then uCAL σ else uAL σ
def aLen (f:Bool) (σ:Sg):Sg:=if f = true then aCAL σ else aAL σ
def itS (f:Sg → Sg):Nat → Sg → Sg
 | 0,σ=>σ
 | n + 1,σ=>f (itS f n σ)
structure Mn (f:Sg → Sg):Prop where
 len:∀ σ,(f σ).2.length ≤ σ.2.length
 bad:∀ σ,σ.1 = true → (f σ).1 = true
theorem Mn.id_:Mn (fun σ=>σ):=⟨fun _=>Nat.le_refl _,fun _ h=>h⟩
theorem Mn.comp {f g:Sg → Sg} (h:Mn f) (h':Mn g):Mn (fun σ=>g (f σ)):=⟨fun σ=>Nat.le_trans (h'.len _) (h.len σ),fun σ hb=>h'.bad _ (h.bad σ hb)⟩
theorem Mn.ite {f g:Sg → Sg} {p:Sg → Prop} [∀ σ,Decidable (p σ)] (h:Mn f) (h':Mn g):Mn (fun σ=>if p σ then f σ else g σ):=⟨fun σ=>by
 split
 ·exact h.len σ
 ·exact h'.len σ,fun σ hb=>by
 split
 ·exact h.bad σ hb
 exact h'.bad σ hb⟩
theorem Mn.badS_:Mn (fun _=>badS):=⟨fun _=>Nat.zero_le _,fun _ _=>rfl⟩
theorem Mn.drop_ (k:Sg → Nat):Mn (fun σ=>(σ.1,σ.2.drop (k σ))):=⟨fun σ=>by dsimp only; rw [List.length_drop]; omega,fun _ h=>h⟩
theorem mn_N (k:Nat):Mn (aN k):=Mn.ite (p:=fun σ=>σ.2.length < k) Mn.badS_ (Mn.drop_ fun _=>k)
theorem mn_Uv:Mn aUv:=Mn.ite (p:=fun σ=>(uvG σ.2).2 ≤ 0) Mn.badS_ (Mn.drop_ fun σ=>(uvG σ.2).2.toNat)
theorem qeG (l:Int):Mn (aSp l):=Mn.ite (p:=fun σ=>(σ.2.length:Int) < l ∨ l < 0) Mn.badS_ (Mn.drop_ fun _=>l.toNat)
theorem mn_Str:Mn aStr:=⟨fun σ=>Nat.le_trans ((qeG _).len _) ((mn_N 2).len σ),fun σ h=>(qeG _).bad _ ((mn_N 2).bad σ h)⟩
theorem mn_CStr:Mn qeE:=⟨fun σ=>Nat.le_trans ((qeG _).len _) (mn_Uv.len σ),fun σ h=>(qeG _).bad _ (mn_Uv.bad σ h)⟩
theorem mn_AL:Mn aAL:=Mn.ite (p:=fun σ=>((aN 4 σ).2.length:Int) < uI32 σ) Mn.badS_ (mn_N 4)
theorem mn_CAL:Mn aCAL:=Mn.ite (p:=fun σ=>((aUv σ).2.length:Int) < cAL σ) Mn.badS_ mn_Uv
theorem mn_Tag:Mn aTag:=⟨fun σ=>Nat.le_trans ((qeG _).len _) (Nat.le_trans (mn_Uv.len _) (mn_Uv.len σ)),fun σ h=>(qeG _).bad _ (mn_Uv.bad _ (mn_Uv.bad σ h))⟩
theorem qdu:∀ n u,Mn (fun σ=>(qdM n u σ).2)
 | 0,_=>Mn.id_
 | n + 1,u=>⟨fun σ=>Nat.le_trans ((qdu n _).len _) (mn_Tag.len σ),fun σ h=>(qdu n _).bad _ (mn_Tag.bad σ h)⟩
theorem mn_Tags:Mn qeF:=⟨fun σ=>Nat.le_trans ((qdu _ _).len _) (mn_Uv.len σ),fun σ h=>(qdu _ _).bad _ (mn_Uv.bad σ h)⟩
theorem qhA (f:Bool):Mn (aTxt f):=Mn.ite (p:=fun _=>f = true) mn_CStr mn_Str
theorem qhB {f:Sg → Sg} (h:Mn f):∀ n,Mn (itS f n)
 | 0=>Mn.id_
 | n + 1=>(qhB h n).comp h
theorem qeH (l:Int) (σ:Sg):(uSp l σ).length ≤ σ.2.length:=by
 unfold uSp
 split
 ·exact Nat.zero_le _
 rw [List.length_take]; omega
theorem qgA (f:Bool) (σ:Sg):(uTxt f σ).length ≤ σ.2.length:=by
 unfold uTxt qeD uStr
 split
 ·exact Nat.le_trans (qeH _ _) (mn_Uv.len σ)
 exact Nat.le_trans (qeH _ _) ((mn_N 2).len σ)
theorem qhj (f:Bool) (σ:Sg):uLen f σ ≤ (σ.2.length:Int):=by
 have h1:=(mn_N 4).len σ
 have h2:=mn_Uv.len σ
 unfold uLen uCAL uAL
 repeat' split
 all_goals omega
theorem qgB (bd:Bool) (s:Bs) (hl:1 ≤ s.length) {br:Nat} {A:Option Addr} {m c:Nat} {w:World} {F:Nat → Nat → Prop} (hst:Str w br [.slice A m c,.bool bd]) (hr:RdS w F A m c s) (hFd:∀ b o,F b o → ¬ RdM br b o) :
  Calls Tryd.prog 90 #[.pointer (some ⟨br,0,none⟩)] w (RdPostT w br F (bd,s.drop 1) fun v w'=>v = .int .i8 (IntKind.i8.wrap ((s.getD 0 0).toNat:Int))):=by
 obtain ⟨hm,ho⟩:=hr
 subst hm
 have hle:=ho.le
 have hsm:=ho.small
 refine enter (n:=32) Tryd.func90 rfl Tryd.ntmps90 kz fun a hE=>?_
 have hW:WOk w (RdM br) w [⟨br,0,[.slice A s.length c,.bool bd],true⟩] []:=WOk.startStr hst
 have hE1:=(hE.grow ⟨br,0,[.slice A s.length c,.bool bd],true⟩).recast 0 (.v (.pointer (some ⟨br,0,none⟩))) (.p 0 0) rfl rfl (Nat.le_of_ble_eq_true (n:=1) rfl)
 refine qau [(0,.p 0 0)] hW hE1 fun a1 hE2=>?_
 refine wp_seq ?_
 refine qau [(0,.p 0 0),(9,.v (.bool (decide (((s.length:Nat):Int) < 1))))] hW hE2 fun a3 hE4=>?_
 refine qan hE4 (b:=decide (((s.length:Nat):Int) < 1)) kz (decide_eq_false (by omega)) ?_
 refine wp_skip ?_
 refine qab ?_
 refine qae [0,1,2,3,4,5,6] kz ?_
 refine qam [0,1,2,3] [4,5,6] [(0,.p 0 0),(19,.v (.slice A s.length c))] hW hE4 fun a5 hE6=>?_
 obtain ⟨b7,o8,hA9,hl10,hat11⟩:=Slots.get ho (i:=0) (by omega)
 refine qal (qao hE6 (t:=22) (A:=A) (m:=s.length) (q:=0) (d:=20) kz (e:=5) (size:=1) (bytes:=1) (j:=0) kz hA9 rfl (by omega) fun a12 hE13=>?_)
 refine qal (qat hE13 (t:=5) (b:=b7) (o:=o8 + 0 * 1) (d:=21) kz (cs:=[.int .u8 ((s.getD 0 0).toNat:Int)]) (v:=.int .u8 ((s.getD 0 0).toNat:Int)) kz (AtF.move hat11 hW.step (fun b_ o_ h_ _=>hFd b_ o_ h_) qaF).at_ fun a14 hE15=>?_)
 refine qam [6] [] [(0,.p 0 0),(3,.v (.int .u8 ((s.getD 0 0).toNat:Int)))] hW hE15 fun a16 hE17=>?_
 refine qag (qab ?_)
 refine qae [0,1,2,3,4,5,6,7,8] kz ?_
 refine qam [0,1,2,3,4] [5,6,7,8] [(3,.v (.int .u8 ((s.getD 0 0).toNat:Int))),(22,.p 0 0),(26,.v (.slice A s.length c))] hW hE17 fun a18 hE19=>?_
 refine qal (qci hE19 (t:=22) (A:=A) (m:=s.length) (cp:=c) (q:=1) (d:=27) (j:=1) kz (e:=5) (bytes:=1) kz (rfl) (by omega) fun a20 hE21=>?_)
 refine qam [6,7] [8] [(3,.v (.int .u8 ((s.getD 0 0).toNat:Int))),(27,.v (.slice (cutA A c 1) (s.length - 1) (c - 1))),(29,.p 0 0)] hW hE21 fun a22 hE23=>?_
 refine qal (qaq hW hE23 (oi:=0) (cs:=[.slice (cutA A c 1) (s.length - 1) (c - 1),.bool bd]) kz fun w24 hF25 hW26 hE27=>?_)
 refine qag (qab ?_)
 refine qau [(2,.v (.int .i8 (IntKind.i8.wrap ((s.getD 0 0).toNat:Int))))] hW26 hE27 fun a28 hE29=>?_
 refine wp_ret ?_
 refine qaZ hE29 hW26.cells (v:=.int .i8 (IntKind.i8.wrap ((s.getD 0 0).toNat:Int))) kz ?_
 exact ⟨_,_,_,_,rfl,Str.of hW26 0 rfl,RdS.dropT (j:=1) ⟨rfl,ho.move hW26.step (fun b_ o_ h_ _=>hFd b_ o_ h_) qaF⟩ (by omega),hW26.step,rfl⟩
theorem qgC (bd:Bool) (s:Bs) (hl:s.length < 1) {br:Nat} {A:Option Addr} {m c:Nat} {w:World} {F:Nat → Nat → Prop} (hst:Str w br [.slice A m c,.bool bd]) (hr:RdS w F A m c s) (hFd:∀ b o,F b o → ¬ RdM br b o) :
  Calls Tryd.prog 90 #[.pointer (some ⟨br,0,none⟩)] w (RdPostT w br F (true,[]) fun v w'=>v = .int .i8 0):=by
 obtain ⟨hm,ho⟩:=hr
 subst hm
 have hle:=ho.le
 have hsm:=ho.small
 refine enter (n:=32) Tryd.func90 rfl Tryd.ntmps90 kz fun a hE=>?_
 have hW:WOk w (RdM br) w [⟨br,0,[.slice A s.length c,.bool bd],true⟩] []:=WOk.startStr hst
 have hE1:=(hE.grow ⟨br,0,[.slice A s.length c,.bool bd],true⟩).recast 0 (.v (.pointer (some ⟨br,0,none⟩))) (.p 0 0) rfl rfl (Nat.le_of_ble_eq_true (n:=1) rfl)
 refine qau [(0,.p 0 0)] hW hE1 fun a1 hE2=>?_
 refine wp_seq ?_
 refine qau [(0,.p 0 0),(9,.v (.bool (decide (((s.length:Nat):Int) < 1))))] hW hE2 fun a3 hE4=>?_
 refine qaV hE4 (b:=decide (((s.length:Nat):Int) < 1)) kz (decide_eq_true (by omega)) ?_
 refine qae [0,1,2,3] kz ?_
 refine qam [0,1,2] [3] [(0,.p 0 0),(12,.p 0 1)] hW hE4 fun a5 hE6=>?_
 refine qal (qaq hW hE6 (oi:=0) (cs:=[.slice A s.length c,.bool true]) kz fun w7 hF8 hW9 hE10=>?_)
 refine qag (qab ?_)
 refine qae [0,1,2,3] kz ?_
 refine qam [0,1,2] [3] [(15,.p 0 0)] hW9 hE10 fun a11 hE12=>?_
 refine qal (qaq hW9 hE12 (oi:=0) (cs:=[.slice none 0 0,.bool true]) kz fun w13 hF14 hW15 hE16=>?_)
 refine qag (qab ?_)
 refine qau [(2,.v (.int .i8 0))] hW15 hE16 fun a17 hE18=>?_
 refine wp_ret ?_
 refine qa2 ?_
 refine qaZ hE18 hW15.cells (v:=.int .i8 0) kz ?_
 exact ⟨_,_,_,_,rfl,Str.of hW15 0 rfl,RdS.nil_ _ _,hW15.step,rfl⟩
theorem qfT (bd:Bool) (s:Bs) (hl:2 ≤ s.length) {br:Nat} {A:Option Addr} {m c:Nat} {w:World} {F:Nat → Nat → Prop} (hst:Str w br [.slice A m c,.bool bd]) (hr:RdS w F A m c s) (hFd:∀ b o,F b o → ¬ RdM br b o) :
  Calls Tryd.prog 77 #[.pointer (some ⟨br,0,none⟩)] w (RdPostT w br F (bd,s.drop 2) fun v w'=>v = .int .i16 (IntKind.i16.wrap (be16 s))):=by
 obtain ⟨hm,ho⟩:=hr
 subst hm
 have hle:=ho.le
 have hsm:=ho.small
 refine enter (n:=32) Tryd.func77 rfl Tryd.ntmps77 kz fun a hE=>?_
 have hW:WOk w (RdM br) w [⟨br,0,[.slice A s.length c,.bool bd],true⟩] []:=WOk.startStr hst
 have hE1:=(hE.grow ⟨br,0,[.slice A s.length c,.bool bd],true⟩).recast 0 (.v (.pointer (some ⟨br,0,none⟩))) (.p 0 0) rfl rfl (Nat.le_of_ble_eq_true (n:=1) rfl)
 refine qau [(0,.p 0 0)] hW hE1 fun a1 hE2=>?_
 refine wp_seq ?_
 refine qau [(0,.p 0 0),(9,.v (.bool (decide (((s.length:Nat):Int) < 2))))] hW hE2 fun a3 hE4=>?_
 refine qan hE4 (b:=decide (((s.length:Nat):Int) < 2)) kz (decide_eq_false (by omega)) ?_
 refine wp_skip ?_
 refine qab ?_
 refine qa8 7 kz hW fun w5 hF6 hW7 hT8=>?_
 refine qaP [1,2,3,4] [(0,.p 0 0),(20,.v (.slice A s.length c))] 4 (qac qah) (fun _ h=>h.cells) hT8 hE4 fun a9 hE10=>?_
 refine qa4 hE10 (i:=0) (t:=139) (b:=0) (o:=0) (d:=16) kz (cs:=[]) (v:=.agg #[]) kz (fun w' h'=>(fun j_ v_ h_=>by simp at h_)) kz kz (qac qah) hT8 fun a11 hE12=>?_
 refine qaE (i:=5) kz (qaw hE12 (f:=104) (vs:=[.agg #[],.slice A s.length c]) (d:=21) kz Tryd.call104 (qhL _ (ho.move hW7.step (fun b_ o_ h_ _=>hFd b_ o_ h_) (hW7.immM hFd)) (by omega)) ?_)
 rintro e_ w14 ⟨rfl,hs13⟩
 refine ⟨_,rfl,fun a15 hE16=>?_⟩
 have hW17:=hW7.next_nil hs13
 have hF18:=hW7.frN hs13
 have hT19:=TT.ofW hF18 hW17
 refine ⟨fun _=>hT19,?_⟩
 refine qaP [6] [(0,.p 0 0),(22,.v (.int .i16 (IntKind.i16.wrap (be16 s))))] 1 (qac qah) (fun _ h=>h.cells) hT19 hE16 fun a20 hE21=>?_
 refine qaE (i:=7) kz (qcr [0,3] hW17.cells hE21 (env':=[(0,.p 0 0),(3,.v (.int .i16 (IntKind.i16.wrap (be16 s))))]) kz fun a22 hE23=>?_)
 refine ⟨fun h=>absurd rfl h,?_⟩
 refine qaW kz ?_ _
 refine qab ?_
 refine qae [0,1,2,3,4,5,6,7,8] kz ?_
 refine qam [0,1,2,3,4] [5,6,7,8] [(3,.v (.int .i16 (IntKind.i16.wrap (be16 s)))),(23,.p 0 0),(27,.v (.slice A s.length c))] hW17 hE23 fun a24 hE25=>?_
 refine qal (qci hE25 (t:=22) (A:=A) (m:=s.length) (cp:=c) (q:=2) (d:=28) (j:=2) kz (e:=5) (bytes:=1) kz (rfl) (by omega) fun a26 hE27=>?_)
 refine qam [6,7] [8] [(3,.v (.int .i16 (IntKind.i16.wrap (be16 s)))),(28,.v (.slice (cutA A c 2) (s.length - 2) (c - 2))),(30,.p 0 0)] hW17 hE27 fun a28 hE29=>?_
 refine qal (qaq hW17 hE29 (oi:=0) (cs:=[.slice (cutA A c 2) (s.length - 2) (c - 2),.bool bd]) kz fun w30 hF31 hW32 hE33=>?_)
 refine qag (qab ?_)
 refine qau [(2,.v (.int .i16 (IntKind.i16.wrap (be16 s))))] hW32 hE33 fun a34 hE35=>?_
 refine wp_ret ?_
 refine qaZ hE35 hW32.cells (v:=.int .i16 (IntKind.i16.wrap (be16 s))) kz ?_
 exact ⟨_,_,_,_,rfl,Str.of hW32 0 rfl,RdS.dropT (j:=2) ⟨rfl,ho.move hW32.step (fun b_ o_ h_ _=>hFd b_ o_ h_) qaF⟩ (by omega),hW32.step,rfl⟩
theorem qfU (bd:Bool) (s:Bs) (hl:s.length < 2) {br:Nat} {A:Option Addr} {m c:Nat} {w:World} {F:Nat → Nat → Prop} (hst:Str w br [.slice A m c,.bool bd]) (hr:RdS w F A m c s) (hFd:∀ b o,F b o → ¬ RdM br b o) :
  Calls Tryd.prog 77 #[.pointer (some ⟨br,0,none⟩)] w (RdPostT w br F (true,[]) fun v w'=>v = .int .i16 0):=by
 obtain ⟨hm,ho⟩:=hr
 subst hm
 have hle:=ho.le
 have hsm:=ho.small
 refine enter (n:=32) Tryd.func77 rfl Tryd.ntmps77 kz fun a hE=>?_
 have hW:WOk w (RdM br) w [⟨br,0,[.slice A s.length c,.bool bd],true⟩] []:=WOk.startStr hst
 have hE1:=(hE.grow ⟨br,0,[.slice A s.length c,.bool bd],true⟩).recast 0 (.v (.pointer (some ⟨br,0,none⟩))) (.p 0 0) rfl rfl (Nat.le_of_ble_eq_true (n:=1) rfl)
 refine qau [(0,.p 0 0)] hW hE1 fun a1 hE2=>?_
 refine wp_seq ?_
 refine qau [(0,.p 0 0),(9,.v (.bool (decide (((s.length:Nat):Int) < 2))))] hW hE2 fun a3 hE4=>?_
 refine qaV hE4 (b:=decide (((s.length:Nat):Int) < 2)) kz (decide_eq_true (by omega)) ?_
 refine qae [0,1,2,3] kz ?_
 refine qam [0,1,2] [3] [(0,.p 0 0),(12,.p 0 1)] hW hE4 fun a5 hE6=>?_
 refine qal (qaq hW hE6 (oi:=0) (cs:=[.slice A s.length c,.bool true]) kz fun w7 hF8 hW9 hE10=>?_)
 refine qag (qab ?_)
 refine qae [0,1,2,3] kz ?_
 refine qam [0,1,2] [3] [(15,.p 0 0)] hW9 hE10 fun a11 hE12=>?_
 refine qal (qaq hW9 hE12 (oi:=0) (cs:=[.slice none 0 0,.bool true]) kz fun w13 hF14 hW15 hE16=>?_)
 refine qag (qab ?_)
 refine qau [(2,.v (.int .i16 0))] hW15 hE16 fun a17 hE18=>?_
 refine wp_ret ?_
 refine qa2 ?_
 refine qaZ hE18 hW15.cells (v:=.int .i16 0) kz ?_
 exact ⟨_,_,_,_,rfl,Str.of hW15 0 rfl,RdS.nil_ _ _,hW15.step,rfl⟩
theorem qfV (bd:Bool) (s:Bs) (hl:4 ≤ s.length) {br:Nat} {A:Option Addr} {m c:Nat} {w:World} {F:Nat → Nat → Prop} (hst:Str w br [.slice A m c,.bool bd]) (hr:RdS w F A m c s) (hFd:∀ b o,F b o → ¬ RdM br b o) :
  Calls Tryd.prog 80 #[.pointer (some ⟨br,0,none⟩)] w (RdPostT w br F (bd,s.drop 4) fun v w'=>v = .int .i32 (IntKind.i32.wrap (be32 s))):=by
 obtain ⟨hm,ho⟩:=hr
 subst hm
 have hle:=ho.le
 have hsm:=ho.small
 refine enter (n:=32) Tryd.func80 rfl Tryd.ntmps80 kz fun a hE=>?_
 have hW:WOk w (RdM br) w [⟨br,0,[.slice A s.length c,.bool bd],true⟩] []:=WOk.startStr hst
 have hE1:=(hE.grow ⟨br,0,[.slice A s.length c,.bool bd],true⟩).recast 0 (.v (.pointer (some ⟨br,0,none⟩))) (.p 0 0) rfl rfl (Nat.le_of_ble_eq_true (n:=1) rfl)
 refine qau [(0,.p 0 0)] hW hE1 fun a1 hE2=>?_
 refine wp_seq ?_
 refine qau [(0,.p 0 0),(9,.v (.bool (decide (((s.length:Nat):Int) < 4))))] hW hE2 fun a3 hE4=>?_
 refine qan hE4 (b:=decide (((s.length:Nat):Int) < 4)) kz (decide_eq_false (by omega)) ?_
 refine wp_skip ?_
 refine qab ?_
 refine qa8 7 kz hW fun w5 hF6 hW7 hT8=>?_
 refine qaP [1,2,3,4] [(0,.p 0 0),(20,.v (.slice A s.length c))] 4 (qac qah) (fun _ h=>h.cells) hT8 hE4 fun a9 hE10=>?_
 refine qa4 hE10 (i:=0) (t:=139) (b:=0) (o:=0) (d:=16) kz (cs:=[]) (v:=.agg #[]) kz (fun w' h'=>(fun j_ v_ h_=>by simp at h_)) kz kz (qac qah) hT8 fun a11 hE12=>?_
 refine qaE (i:=5) kz (qaw hE12 (f:=107) (vs:=[.agg #[],.slice A s.length c]) (d:=21) kz Tryd.call107 (qhM _ (ho.move hW7.step (fun b_ o_ h_ _=>hFd b_ o_ h_) (hW7.immM hFd)) (by omega)) ?_)
 rintro e_ w14 ⟨rfl,hs13⟩
 refine ⟨_,rfl,fun a15 hE16=>?_⟩
 have hW17:=hW7.next_nil hs13
 have hF18:=hW7.frN hs13
 have hT19:=TT.ofW hF18 hW17
 refine ⟨fun _=>hT19,?_⟩
 refine qaP [6] [(0,.p 0 0),(22,.v (.int .i32 (IntKind.i32.wrap (be32 s))))] 1 (qac qah) (fun _ h=>h.cells) hT19 hE16 fun a20 hE21=>?_
 refine qaE (i:=7) kz (qcr [0,3] hW17.cells hE21 (env':=[(0,.p 0 0),(3,.v (.int .i32 (IntKind.i32.wrap (be32 s))))]) kz fun a22 hE23=>?_)
 refine ⟨fun h=>absurd rfl h,?_⟩
 refine qaW kz ?_ _
 refine qab ?_
 refine qae [0,1,2,3,4,5,6,7,8] kz ?_
 refine qam [0,1,2,3,4] [5,6,7,8] [(3,.v (.int .i32 (IntKind.i32.wrap (be32 s)))),(23,.p 0 0),(27,.v (.slice A s.length c))] hW17 hE23 fun a24 hE25=>?_
 refine qal (qci hE25 (t:=22) (A:=A) (m:=s.length) (cp:=c) (q:=4) (d:=28) (j:=4) kz (e:=5) (bytes:=1) kz (rfl) (by omega) fun a26 hE27=>?_)
 refine qam [6,7] [8] [(3,.v (.int .i32 (IntKind.i32.wrap (be32 s)))),(28,.v (.slice (cutA A c 4) (s.length - 4) (c - 4))),(30,.p 0 0)] hW17 hE27 fun a28 hE29=>?_
 refine qal (qaq hW17 hE29 (oi:=0) (cs:=[.slice (cutA A c 4) (s.length - 4) (c - 4),.bool bd]) kz fun w30 hF31 hW32 hE33=>?_)
 refine qag (qab ?_)
 refine qau [(2,.v (.int .i32 (IntKind.i32.wrap (be32 s))))] hW32 hE33 fun a34 hE35=>?_
 refine wp_ret ?_
 refine qaZ hE35 hW32.cells (v:=.int .i32 (IntKind.i32.wrap (be32 s))) kz ?_
 exact ⟨_,_,_,_,rfl,Str.of hW32 0 rfl,RdS.dropT (j:=4) ⟨rfl,ho.move hW32.step (fun b_ o_ h_ _=>hFd b_ o_ h_) qaF⟩ (by omega),hW32.step,rfl⟩
theorem qfW (bd:Bool) (s:Bs) (hl:s.length < 4) {br:Nat} {A:Option Addr} {m c:Nat} {w:World} {F:Nat → Nat → Prop} (hst:Str w br [.slice A m c,.bool bd]) (hr:RdS w F A m c s) (hFd:∀ b o,F b o → ¬ RdM br b o) :
  Calls Tryd.prog 80 #[.pointer (some ⟨br,0,none⟩)] w (RdPostT w br F (true,[]) fun v w'=>v = .int .i32 0):=by
 obtain ⟨hm,ho⟩:=hr
 subst hm
 have hle:=ho.le
 have hsm:=ho.small
 refine enter (n:=32) Tryd.func80 rfl Tryd.ntmps80 kz fun a hE=>?_
 have hW:WOk w (RdM br) w [⟨br,0,[.slice A s.length c,.bool bd],true⟩] []:=WOk.startStr hst
 have hE1:=(hE.grow ⟨br,0,[.slice A s.length c,.bool bd],true⟩).recast 0 (.v (.pointer (some ⟨br,0,none⟩))) (.p 0 0) rfl rfl (Nat.le_of_ble_eq_true (n:=1) rfl)
 refine qau [(0,.p 0 0)] hW hE1 fun a1 hE2=>?_
 refine wp_seq ?_
 refine qau [(0,.p 0 0),(9,.v (.bool (decide (((s.length:Nat):Int) < 4))))] hW hE2 fun a3 hE4=>?_
 refine qaV hE4 (b:=decide (((s.length:Nat):Int) < 4)) kz (decide_eq_true (by omega)) ?_
 refine qae [0,1,2,3] kz ?_
 refine qam [0,1,2] [3] [(0,.p 0 0),(12,.p 0 1)] hW hE4 fun a5 hE6=>?_
 refine qal (qaq hW hE6 (oi:=0) (cs:=[.slice A s.length c,.bool true]) kz fun w7 hF8 hW9 hE10=>?_)
 refine qag (qab ?_)
 refine qae [0,1,2,3] kz ?_
 refine qam [0,1,2] [3] [(15,.p 0 0)] hW9 hE10 fun a11 hE12=>?_
 refine qal (qaq hW9 hE12 (oi:=0) (cs:=[.slice none 0 0,.bool true]) kz fun w13 hF14 hW15 hE16=>?_)
 refine qag (qab ?_)
 refine qau [(2,.v (.int .i32 0))] hW15 hE16 fun a17 hE18=>?_
 refine wp_ret ?_
 refine qa2 ?_
 refine qaZ hE18 hW15.cells (v:=.int .i32 0) kz ?_
 exact ⟨_,_,_,_,rfl,Str.of hW15 0 rfl,RdS.nil_ _ _,hW15.step,rfl⟩
theorem qcx (σ:Sg):uUv σ < 4294967296:=by
 unfold uUv
 have:=(qea σ.2).2
 split <;> omega
theorem qeb (σ:Sg):-32768 ≤ uI16 σ ∧ uI16 σ < 32768:=by
 unfold uI16
 split
 ·omega
 simp only [i16w]; omega
theorem qec (σ:Sg):-2147483648 ≤ uI32 σ ∧ uI32 σ < 2147483648:=by
 unfold uI32
 split
 ·omega
 simp only [i32w]; omega
theorem qhN (σ:Sg):RPrim0U Tryd.prog 90 σ (aN 1 σ) (.int .i8 (uI8 σ)):=⟨(mn_N 1).len σ,fun hst hr hF=>by
 unfold aN uI8
 by_cases h:σ.2.length < 1
 ·simp only [if_pos h]
  exact (qgC σ.1 σ.2 h hst hr hF).mono fun e w' hp=>hp.fp fun v w' h=>h
 simp only [if_neg h]
 exact (qgB σ.1 σ.2 (by omega) hst hr hF).mono fun e w' hp=>hp.fp fun v w' h=>h⟩
theorem qfX (σ:Sg):RPrim0U Tryd.prog 77 σ (aN 2 σ) (.int .i16 (uI16 σ)):=⟨(mn_N 2).len σ,fun hst hr hF=>by
 unfold aN uI16
 by_cases h:σ.2.length < 2
 ·simp only [if_pos h]
  exact (qfU σ.1 σ.2 h hst hr hF).mono fun e w' hp=>hp.fp fun v w' h=>h
 simp only [if_neg h]
 exact (qfT σ.1 σ.2 (by omega) hst hr hF).mono fun e w' hp=>hp.fp fun v w' h=>h⟩
theorem qfY (σ:Sg):RPrim0U Tryd.prog 80 σ (aN 4 σ) (.int .i32 (uI32 σ)):=⟨(mn_N 4).len σ,fun hst hr hF=>by
 unfold aN uI32
 by_cases h:σ.2.length < 4
 ·simp only [if_pos h]
  exact (qfW σ.1 σ.2 h hst hr hF).mono fun e w' hp=>hp.fp fun v w' h=>h
 simp only [if_neg h]
 exact (qfV σ.1 σ.2 (by omega) hst hr hF).mono fun e w' hp=>hp.fp fun v w' h=>h⟩
theorem qhO {A:Option Addr} {c:Nat} (s:Bs) {w:World} {F:Nat → Nat → Prop} (ho:Octs w F A c s) (hl:s.length = 0)  :
  Calls Tryd.prog 118 #[.slice A s.length c] w (qcb w (.tuple #[.int .u32 0,.int .i64 (0)])):=by
 refine enter (n:=87) Tryd.func118 rfl Tryd.ntmps118 kz fun a hE=>?_
 have hW:=WOk.start w Nil
 refine qau [(0,.v (.slice A s.length c))] hW hE fun a1 hE2=>?_
 refine wp_scope_jumps 0 (fun a_ w_=>w_ = w ∧ EnvOk 87 [] [(5,.v (.int .i64 0))] a_) (fun _ _=>0) rfl ?_ ?_
 ·
  refine qau [(0,.v (.slice A s.length c))] hW hE2 fun a6 hE7=>?_
  refine qau [(0,.v (.slice A s.length c)),(5,.v (.int .i64 0))] hW hE7 fun a8 hE9=>?_
  refine wp_seq ?_
  refine qau [(0,.v (.slice A s.length c)),(5,.v (.int .i64 0)),(8,.v (.bool (decide (((s.length:Nat):Int) < 1))))] hW hE9 fun a10 hE11=>?_
  refine qaV hE11 (b:=decide (((s.length:Nat):Int) < 1)) kz (decide_eq_true (by omega)) ?_
  refine wp_goto ?_
  exact ⟨rfl,rfl,hE11.pk (env':=[(5,.v (.int .i64 0))])⟩
 rintro a3 _ ⟨rfl,hE5⟩
 refine wp_seq ?_
 refine wp_skip ?_
 refine qab ?_
 refine qau [(2,.v (.int .u32 0)),(3,.v (.int .i64 0))] hW hE5 fun a12 hE13=>?_
 refine wp_ret ?_
 refine qc8 ?_
 refine qaZ hE13 hW.cells (v:=.tuple #[.int .u32 0,.int .i64 0]) kz ?_
 exact ⟨rfl,hW.step⟩
theorem qhP {A:Option Addr} {c:Nat} (s:Bs) {w:World} {F:Nat → Nat → Prop} (ho:Octs w F A c s) (hl:s.length = 1) (g0:128 ≤ oc s 0) :
  Calls Tryd.prog 118 #[.slice A s.length c] w (qcb w (.tuple #[.int .u32 0,.int .i64 (0)])):=by
 refine enter (n:=87) Tryd.func118 rfl Tryd.ntmps118 kz fun a hE=>?_
 have hW:=WOk.start w Nil
 refine qau [(0,.v (.slice A s.length c))] hW hE fun a1 hE2=>?_
 refine wp_scope_jumps 0 (fun a_ w_=>w_ = w ∧ EnvOk 87 [] [(5,.v (.int .i64 0))] a_) (fun _ _=>0) rfl ?_ ?_
 ·
  refine qau [(0,.v (.slice A s.length c))] hW hE2 fun a6 hE7=>?_
  refine qau [(0,.v (.slice A s.length c)),(5,.v (.int .i64 0))] hW hE7 fun a8 hE9=>?_
  refine wp_seq ?_
  refine qau [(0,.v (.slice A s.length c)),(5,.v (.int .i64 0)),(8,.v (.bool (decide (((s.length:Nat):Int) < 1))))] hW hE9 fun a10 hE11=>?_
  refine qan hE11 (b:=decide (((s.length:Nat):Int) < 1)) kz (decide_eq_false (by omega)) ?_
  refine wp_skip ?_
  refine qab ?_
  refine qae [0,1,2,3,4,5] kz ?_
  refine qam [0] [1,2,3,4,5] [(0,.v (.slice A s.length c)),(5,.v (.int .i64 0)),(9,.v (.slice A s.length c))] hW hE11 fun a12 hE13=>?_
  obtain ⟨b14,o15,hA16,hl17,hat18⟩:=Slots.get ho (i:=0) (by omega)
  refine qal (qao hE13 (t:=22) (A:=A) (m:=s.length) (q:=0) (d:=10) kz (e:=5) (size:=1) (bytes:=1) (j:=0) kz hA16 rfl (by omega) fun a19 hE20=>?_)
  refine qal (qat hE20 (t:=5) (b:=b14) (o:=o15 + 0 * 1) (d:=11) kz (cs:=[.int .u8 ((s.getD 0 0).toNat:Int)]) (v:=.int .u8 ((s.getD 0 0).toNat:Int)) kz (AtF.move hat18 hW.step nilM qaF).at_ fun a21 hE22=>?_)
  refine qam [3,4,5] [] [(0,.v (.slice A s.length c)),(4,.v (.int .u32 (IntKind.u32.wrap (IntKind.u8.wrap (BitVec.ofInt 8 ((s.getD 0 0).toNat:Int) &&& BitVec.ofInt 8 127).toNat)))),(5,.v (.int .i64 0))] hW hE22 fun a23 hE24=>?_
  refine qag (qab ?_)
  refine wp_seq ?_
  refine qae [0,1,2,3,4] kz ?_
  refine qam [0] [1,2,3,4] [(0,.v (.slice A s.length c)),(4,.v (.int .u32 (IntKind.u32.wrap (IntKind.u8.wrap (BitVec.ofInt 8 ((s.getD 0 0).toNat:Int) &&& BitVec.ofInt 8 127).toNat)))),(5,.v (.int .i64 0)),(14,.v (.slice A s.length c))] hW hE24 fun a25 hE26=>?_
  refine qal (qao hE26 (t:=22) (A:=A) (m:=s.length) (q:=0) (d:=15) kz (e:=5) (size:=1) (bytes:=1) (j:=0) kz hA16 rfl (by omega) fun a27 hE28=>?_)
  refine qal (qat hE28 (t:=5) (b:=b14) (o:=o15 + 0 * 1) (d:=16) kz (cs:=[.int .u8 ((s.getD 0 0).toNat:Int)]) (v:=.int .u8 ((s.getD 0 0).toNat:Int)) kz (AtF.move hat18 hW.step nilM qaF).at_ fun a29 hE30=>?_)
  refine qam [3,4] [] [(0,.v (.slice A s.length c)),(4,.v (.int .u32 (IntKind.u32.wrap (IntKind.u8.wrap (BitVec.ofInt 8 ((s.getD 0 0).toNat:Int) &&& BitVec.ofInt 8 127).toNat)))),(5,.v (.int .i64 0)),(18,.v (.bool ((IntKind.u8.wrap (BitVec.ofInt 8 ((s.getD 0 0).toNat:Int) &&& BitVec.ofInt 8 128).toNat) == 0)))] hW hE30 fun a31 hE32=>?_
  refine qag (qab ?_)
  refine qan hE32 (b:=(IntKind.u8.wrap (BitVec.ofInt 8 ((s.getD 0 0).toNat:Int) &&& BitVec.ofInt 8 128).toNat) == 0) kz ((qbn _ (qa9 s 0)).trans (decide_eq_false (by have:=g0; unfold oc at this; omega))) ?_
  refine qau [(0,.v (.slice A s.length c)),(4,.v (.int .u32 (IntKind.u32.wrap (IntKind.u8.wrap (BitVec.ofInt 8 ((s.getD 0 0).toNat:Int) &&& BitVec.ofInt 8 127).toNat)))),(5,.v (.int .i64 0)),(22,.v (.bool (decide (((s.length:Nat):Int) < 2))))] hW hE32 fun a33 hE34=>?_
  refine qaV hE34 (b:=decide (((s.length:Nat):Int) < 2)) kz (decide_eq_true (by omega)) ?_
  refine wp_goto ?_
  exact ⟨rfl,rfl,hE34.pk (env':=[(5,.v (.int .i64 0))])⟩
 rintro a3 _ ⟨rfl,hE5⟩
 refine wp_seq ?_
 refine wp_skip ?_
 refine qab ?_
 refine qau [(2,.v (.int .u32 0)),(3,.v (.int .i64 0))] hW hE5 fun a35 hE36=>?_
 refine wp_ret ?_
 refine qc8 ?_
 refine qaZ hE36 hW.cells (v:=.tuple #[.int .u32 0,.int .i64 0]) kz ?_
 exact ⟨rfl,hW.step⟩
theorem qhQ {A:Option Addr} {c:Nat} (s:Bs) {w:World} {F:Nat → Nat → Prop} (ho:Octs w F A c s) (hl:s.length = 2) (g0:128 ≤ oc s 0) (g1:128 ≤ oc s 1) :
  Calls Tryd.prog 118 #[.slice A s.length c] w (qcb w (.tuple #[.int .u32 0,.int .i64 (0)])):=by
 refine enter (n:=87) Tryd.func118 rfl Tryd.ntmps118 kz fun a hE=>?_
 have hW:=WOk.start w Nil
 refine qau [(0,.v (.slice A s.length c))] hW hE fun a1 hE2=>?_
 refine wp_scope_jumps 0 (fun a_ w_=>w_ = w ∧ EnvOk 87 [] [(5,.v (.int .i64 0))] a_) (fun _ _=>0) rfl ?_ ?_
 ·
  refine qau [(0,.v (.slice A s.length c))] hW hE2 fun a6 hE7=>?_
  refine qau [(0,.v (.slice A s.length c)),(5,.v (.int .i64 0))] hW hE7 fun a8 hE9=>?_
  refine wp_seq ?_
  refine qau [(0,.v (.slice A s.length c)),(5,.v (.int .i64 0)),(8,.v (.bool (decide (((s.length:Nat):Int) < 1))))] hW hE9 fun a10 hE11=>?_
  refine qan hE11 (b:=decide (((s.length:Nat):Int) < 1)) kz (decide_eq_false (by omega)) ?_
  refine wp_skip ?_
  refine qab ?_
  refine qae [0,1,2,3,4,5] kz ?_
  refine qam [0] [1,2,3,4,5] [(0,.v (.slice A s.length c)),(5,.v (.int .i64 0)),(9,.v (.slice A s.length c))] hW hE11 fun a12 hE13=>?_
  obtain ⟨b14,o15,hA16,hl17,hat18⟩:=Slots.get ho (i:=0) (by omega)
  refine qal (qao hE13 (t:=22) (A:=A) (m:=s.length) (q:=0) (d:=10) kz (e:=5) (size:=1) (bytes:=1) (j:=0) kz hA16 rfl (by omega) fun a19 hE20=>?_)
  refine qal (qat hE20 (t:=5) (b:=b14) (o:=o15 + 0 * 1) (d:=11) kz (cs:=[.int .u8 ((s.getD 0 0).toNat:Int)]) (v:=.int .u8 ((s.getD 0 0).toNat:Int)) kz (AtF.move hat18 hW.step nilM qaF).at_ fun a21 hE22=>?_)
  refine qam [3,4,5] [] [(0,.v (.slice A s.length c)),(4,.v (.int .u32 (IntKind.u32.wrap (IntKind.u8.wrap (BitVec.ofInt 8 ((s.getD 0 0).toNat:Int) &&& BitVec.ofInt 8 127).toNat)))),(5,.v (.int .i64 0))] hW hE22 fun a23 hE24=>?_
  refine qag (qab ?_)
  refine wp_seq ?_
  refine qae [0,1,2,3,4] kz ?_
  refine qam [0] [1,2,3,4] [(0,.v (.slice A s.length c)),(4,.v (.int .u32 (IntKind.u32.wrap (IntKind.u8.wrap (BitVec.ofInt 8 ((s.getD 0 0).toNat:Int) &&& BitVec.ofInt 8 127).toNat)))),(5,.v (.int .i64 0)),(14,.v (.slice A s.length c))] hW hE24 fun a25 hE26=>?_
  refine qal (qao hE26 (t:=22) (A:=A) (m:=s.length) (q:=0) (d:=15) kz (e:=5) (size:=1) (bytes:=1) (j:=0) kz hA16 rfl (by omega) fun a27 hE28=>?_)
  refine qal (qat hE28 (t:=5) (b:=b14) (o:=o15 + 0 * 1) (d:=16) kz (cs:=[.int .u8 ((s.getD 0 0).toNat:Int)]) (v:=.int .u8 ((s.getD 0 0).toNat:Int)) kz (AtF.move hat18 hW.step nilM qaF).at_ fun a29 hE30=>?_)
  refine qam [3,4] [] [(0,.v (.slice A s.length c)),(4,.v (.int .u32 (IntKind.u32.wrap (IntKind.u8.wrap (BitVec.ofInt 8 ((s.getD 0 0).toNat:Int) &&& BitVec.ofInt 8 127).toNat)))),(5,.v (.int .i64 0)),(18,.v (.bool ((IntKind.u8.wrap (BitVec.ofInt 8 ((s.getD 0 0).toNat:Int) &&& BitVec.ofInt 8 128).toNat) == 0)))] hW hE30 fun a31 hE32=>?_
  refine qag (qab ?_)
  refine qan hE32 (b:=(IntKind.u8.wrap (BitVec.ofInt 8 ((s.getD 0 0).toNat:Int) &&& BitVec.ofInt 8 128).toNat) == 0) kz ((qbn _ (qa9 s 0)).trans (decide_eq_false (by have:=g0; unfold oc at this; omega))) ?_
  refine qau [(0,.v (.slice A s.length c)),(4,.v (.int .u32 (IntKind.u32.wrap (IntKind.u8.wrap (BitVec.ofInt 8 ((s.getD 0 0).toNat:Int) &&& BitVec.ofInt 8 127).toNat)))),(5,.v (.int .i64 0)),(22,.v (.bool (decide (((s.length:Nat):Int) < 2))))] hW hE32 fun a33 hE34=>?_
  refine qan hE34 (b:=decide (((s.length:Nat):Int) < 2)) kz (decide_eq_false (by omega)) ?_
  refine wp_skip ?_
  refine qab ?_
  refine qae [0,1,2,3,4,5,6,7,8] kz ?_
  refine qam [0,1] [2,3,4,5,6,7,8] [(0,.v (.slice A s.length c)),(5,.v (.int .i64 0)),(23,.v (.int .u32 (IntKind.u32.wrap (IntKind.u8.wrap (BitVec.ofInt 8 ((s.getD 0 0).toNat:Int) &&& BitVec.ofInt 8 127).toNat)))),(24,.v (.slice A s.length c))] hW hE34 fun a35 hE36=>?_
  obtain ⟨b37,o38,hA39,hl40,hat41⟩:=Slots.get ho (i:=1) (by omega)
  refine qal (qao hE36 (t:=22) (A:=A) (m:=s.length) (q:=1) (d:=25) kz (e:=5) (size:=1) (bytes:=1) (j:=1) kz hA39 rfl (by omega) fun a42 hE43=>?_)
  refine qal (qat hE43 (t:=5) (b:=b37) (o:=o38 + 1 * 1) (d:=26) kz (cs:=[.int .u8 ((s.getD 1 0).toNat:Int)]) (v:=.int .u8 ((s.getD 1 0).toNat:Int)) kz (AtF.move hat41 hW.step nilM qaF).at_ fun a44 hE45=>?_)
  refine qam [4,5,6,7,8] [] [(0,.v (.slice A s.length c)),(4,.v (.int .u32 (IntKind.u32.wrap (BitVec.ofInt 32 (IntKind.u32.wrap (IntKind.u8.wrap (BitVec.ofInt 8 ((s.getD 0 0).toNat:Int) &&& BitVec.ofInt 8 127).toNat)) ||| BitVec.ofInt 32 (IntKind.u32.wrap ((IntKind.u32.wrap (IntKind.u8.wrap (BitVec.ofInt 8 ((s.getD 1 0).toNat:Int) &&& BitVec.ofInt 8 127).toNat)) * 128))).toNat))),(5,.v (.int .i64 0))] hW hE45 fun a46 hE47=>?_
  refine qag (qab ?_)
  refine wp_seq ?_
  refine qae [0,1,2,3,4] kz ?_
  refine qam [0] [1,2,3,4] [(0,.v (.slice A s.length c)),(4,.v (.int .u32 (IntKind.u32.wrap (BitVec.ofInt 32 (IntKind.u32.wrap (IntKind.u8.wrap (BitVec.ofInt 8 ((s.getD 0 0).toNat:Int) &&& BitVec.ofInt 8 127).toNat)) ||| BitVec.ofInt 32 (IntKind.u32.wrap ((IntKind.u32.wrap (IntKind.u8.wrap (BitVec.ofInt 8 ((s.getD 1 0).toNat:Int) &&& BitVec.ofInt 8 127).toNat)) * 128))).toNat))),(5,.v (.int .i64 0)),(31,.v (.slice A s.length c))] hW hE47 fun a48 hE49=>?_
  refine qal (qao hE49 (t:=22) (A:=A) (m:=s.length) (q:=1) (d:=32) kz (e:=5) (size:=1) (bytes:=1) (j:=1) kz hA39 rfl (by omega) fun a50 hE51=>?_)
  refine qal (qat hE51 (t:=5) (b:=b37) (o:=o38 + 1 * 1) (d:=33) kz (cs:=[.int .u8 ((s.getD 1 0).toNat:Int)]) (v:=.int .u8 ((s.getD 1 0).toNat:Int)) kz (AtF.move hat41 hW.step nilM qaF).at_ fun a52 hE53=>?_)
  refine qam [3,4] [] [(0,.v (.slice A s.length c)),(4,.v (.int .u32 (IntKind.u32.wrap (BitVec.ofInt 32 (IntKind.u32.wrap (IntKind.u8.wrap (BitVec.ofInt 8 ((s.getD 0 0).toNat:Int) &&& BitVec.ofInt 8 127).toNat)) ||| BitVec.ofInt 32 (IntKind.u32.wrap ((IntKind.u32.wrap (IntKind.u8.wrap (BitVec.ofInt 8 ((s.getD 1 0).toNat:Int) &&& BitVec.ofInt 8 127).toNat)) * 128))).toNat))),(5,.v (.int .i64 0)),(35,.v (.bool ((IntKind.u8.wrap (BitVec.ofInt 8 ((s.getD 1 0).toNat:Int) &&& BitVec.ofInt 8 128).toNat) == 0)))] hW hE53 fun a54 hE55=>?_
  refine qag (qab ?_)
  refine qan hE55 (b:=(IntKind.u8.wrap (BitVec.ofInt 8 ((s.getD 1 0).toNat:Int) &&& BitVec.ofInt 8 128).toNat) == 0) kz ((qbn _ (qa9 s 1)).trans (decide_eq_false (by have:=g1; unfold oc at this; omega))) ?_
  refine qau [(0,.v (.slice A s.length c)),(4,.v (.int .u32 (IntKind.u32.wrap (BitVec.ofInt 32 (IntKind.u32.wrap (IntKind.u8.wrap (BitVec.ofInt 8 ((s.getD 0 0).toNat:Int) &&& BitVec.ofInt 8 127).toNat)) ||| BitVec.ofInt 32 (IntKind.u32.wrap ((IntKind.u32.wrap (IntKind.u8.wrap (BitVec.ofInt 8 ((s.getD 1 0).toNat:Int) &&& BitVec.ofInt 8 127).toNat)) * 128))).toNat))),(5,.v (.int .i64 0)),(39,.v (.bool (decide (((s.length:Nat):Int) < 3))))] hW hE55 fun a56 hE57=>?_
  refine qaV hE57 (b:=decide (((s.length:Nat):Int) < 3)) kz (decide_eq_true (by omega)) ?_
  refine wp_goto ?_
  exact ⟨rfl,rfl,hE57.pk (env':=[(5,.v (.int .i64 0))])⟩
 rintro a3 _ ⟨rfl,hE5⟩
 refine wp_seq ?_
 refine wp_skip ?_
 refine qab ?_
 refine qau [(2,.v (.int .u32 0)),(3,.v (.int .i64 0))] hW hE5 fun a58 hE59=>?_
 refine wp_ret ?_
 refine qc8 ?_
 refine qaZ hE59 hW.cells (v:=.tuple #[.int .u32 0,.int .i64 0]) kz ?_
 exact ⟨rfl,hW.step⟩
theorem qhR {A:Option Addr} {c:Nat} (s:Bs) {w:World} {F:Nat → Nat → Prop} (ho:Octs w F A c s) (hl:s.length = 3) (g0:128 ≤ oc s 0) (g1:128 ≤ oc s 1) (g2:128 ≤ oc s 2) :
  Calls Tryd.prog 118 #[.slice A s.length c] w (qcb w (.tuple #[.int .u32 0,.int .i64 (0)])):=by
 refine enter (n:=87) Tryd.func118 rfl Tryd.ntmps118 kz fun a hE=>?_
 have hW:=WOk.start w Nil
 refine qau [(0,.v (.slice A s.length c))] hW hE fun a1 hE2=>?_
 refine wp_scope_jumps 0 (fun a_ w_=>w_ = w ∧ EnvOk 87 [] [(5,.v (.int .i64 0))] a_) (fun _ _=>0) rfl ?_ ?_
 ·
  refine qau [(0,.v (.slice A s.length c))] hW hE2 fun a6 hE7=>?_
  refine qau [(0,.v (.slice A s.length c)),(5,.v (.int .i64 0))] hW hE7 fun a8 hE9=>?_
  refine wp_seq ?_
  refine qau [(0,.v (.slice A s.length c)),(5,.v (.int .i64 0)),(8,.v (.bool (decide (((s.length:Nat):Int) < 1))))] hW hE9 fun a10 hE11=>?_
  refine qan hE11 (b:=decide (((s.length:Nat):Int) < 1)) kz (decide_eq_false (by omega)) ?_
  refine wp_skip ?_
  refine qab ?_
  refine qae [0,1,2,3,4,5] kz ?_
  refine qam [0] [1,2,3,4,5] [(0,.v (.slice A s.length c)),(5,.v (.int .i64 0)),(9,.v (.slice A s.length c))] hW hE11 fun a12 hE13=>?_
  obtain ⟨b14,o15,hA16,hl17,hat18⟩:=Slots.get ho (i:=0) (by omega)
  refine qal (qao hE13 (t:=22) (A:=A) (m:=s.length) (q:=0) (d:=10) kz (e:=5) (size:=1) (bytes:=1) (j:=0) kz hA16 rfl (by omega) fun a19 hE20=>?_)
  refine qal (qat hE20 (t:=5) (b:=b14) (o:=o15 + 0 * 1) (d:=11) kz (cs:=[.int .u8 ((s.getD 0 0).toNat:Int)]) (v:=.int .u8 ((s.getD 0 0).toNat:Int)) kz (AtF.move hat18 hW.step nilM qaF).at_ fun a21 hE22=>?_)
  refine qam [3,4,5] [] [(0,.v (.slice A s.length c)),(4,.v (.int .u32 (IntKind.u32.wrap (IntKind.u8.wrap (BitVec.ofInt 8 ((s.getD 0 0).toNat:Int) &&& BitVec.ofInt 8 127).toNat)))),(5,.v (.int .i64 0))] hW hE22 fun a23 hE24=>?_
  refine qag (qab ?_)
  refine wp_seq ?_
  refine qae [0,1,2,3,4] kz ?_
  refine qam [0] [1,2,3,4] [(0,.v (.slice A s.length c)),(4,.v (.int .u32 (IntKind.u32.wrap (IntKind.u8.wrap (BitVec.ofInt 8 ((s.getD 0 0).toNat:Int) &&& BitVec.ofInt 8 127).toNat)))),(5,.v (.int .i64 0)),(14,.v (.slice A s.length c))] hW hE24 fun a25 hE26=>?_
  refine qal (qao hE26 (t:=22) (A:=A) (m:=s.length) (q:=0) (d:=15) kz (e:=5) (size:=1) (bytes:=1) (j:=0) kz hA16 rfl (by omega) fun a27 hE28=>?_)
  refine qal (qat hE28 (t:=5) (b:=b14) (o:=o15 + 0 * 1) (d:=16) kz (cs:=[.int .u8 ((s.getD 0 0).toNat:Int)]) (v:=.int .u8 ((s.getD 0 0).toNat:Int)) kz (AtF.move hat18 hW.step nilM qaF).at_ fun a29 hE30=>?_)
  refine qam [3,4] [] [(0,.v (.slice A s.length c)),(4,.v (.int .u32 (IntKind.u32.wrap (IntKind.u8.wrap (BitVec.ofInt 8 ((s.getD 0 0).toNat:Int) &&& BitVec.ofInt 8 127).toNat)))),(5,.v (.int .i64 0)),(18,.v (.bool ((IntKind.u8.wrap (BitVec.ofInt 8 ((s.getD 0 0).toNat:Int) &&& BitVec.ofInt 8 128).toNat) == 0)))] hW hE30 fun a31 hE32=>?_
  refine qag (qab ?_)
  refine qan hE32 (b:=(IntKind.u8.wrap (BitVec.ofInt 8 ((s.getD 0 0).toNat:Int) &&& BitVec.ofInt 8 128).toNat) == 0) kz ((qbn _ (qa9 s 0)).trans (decide_eq_false (by have:=g0; unfold oc at this; omega))) ?_
  refine qau [(0,.v (.slice A s.length c)),(4,.v (.int .u32 (IntKind.u32.wrap (IntKind.u8.wrap (BitVec.ofInt 8 ((s.getD 0 0).toNat:Int) &&& BitVec.ofInt 8 127).toNat)))),(5,.v (.int .i64 0)),(22,.v (.bool (decide (((s.length:Nat):Int) < 2))))] hW hE32 fun a33 hE34=>?_
  refine qan hE34 (b:=decide (((s.length:Nat):Int) < 2)) kz (decide_eq_false (by omega)) ?_
  refine wp_skip ?_
  refine qab ?_
  refine qae [0,1,2,3,4,5,6,7,8] kz ?_
  refine qam [0,1] [2,3,4,5,6,7,8] [(0,.v (.slice A s.length c)),(5,.v (.int .i64 0)),(23,.v (.int .u32 (IntKind.u32.wrap (IntKind.u8.wrap (BitVec.ofInt 8 ((s.getD 0 0).toNat:Int) &&& BitVec.ofInt 8 127).toNat)))),(24,.v (.slice A s.length c))] hW hE34 fun a35 hE36=>?_
  obtain ⟨b37,o38,hA39,hl40,hat41⟩:=Slots.get ho (i:=1) (by omega)
  refine qal (qao hE36 (t:=22) (A:=A) (m:=s.length) (q:=1) (d:=25) kz (e:=5) (size:=1) (bytes:=1) (j:=1) kz hA39 rfl (by omega) fun a42 hE43=>?_)
  refine qal (qat hE43 (t:=5) (b:=b37) (o:=o38 + 1 * 1) (d:=26) kz (cs:=[.int .u8 ((s.getD 1 0).toNat:Int)]) (v:=.int .u8 ((s.getD 1 0).toNat:Int)) kz (AtF.move hat41 hW.step nilM qaF).at_ fun a44 hE45=>?_)
  refine qam [4,5,6,7,8] [] [(0,.v (.slice A s.length c)),(4,.v (.int .u32 (IntKind.u32.wrap (BitVec.ofInt 32 (IntKind.u32.wrap (IntKind.u8.wrap (BitVec.ofInt 8 ((s.getD 0 0).toNat:Int) &&& BitVec.ofInt 8 127).toNat)) ||| BitVec.ofInt 32 (IntKind.u32.wrap ((IntKind.u32.wrap (IntKind.u8.wrap (BitVec.ofInt 8 ((s.getD 1 0).toNat:Int) &&& BitVec.ofInt 8 127).toNat)) * 128))).toNat))),(5,.v (.int .i64 0))] hW hE45 fun a46 hE47=>?_
  refine qag (qab ?_)
  refine wp_seq ?_
  refine qae [0,1,2,3,4] kz ?_
  refine qam [0] [1,2,3,4] [(0,.v (.slice A s.length c)),(4,.v (.int .u32 (IntKind.u32.wrap (BitVec.ofInt 32 (IntKind.u32.wrap (IntKind.u8.wrap (BitVec.ofInt 8 ((s.getD 0 0).toNat:Int) &&& BitVec.ofInt 8 127).toNat)) ||| BitVec.ofInt 32 (IntKind.u32.wrap ((IntKind.u32.wrap (IntKind.u8.wrap (BitVec.ofInt 8 ((s.getD 1 0).toNat:Int) &&& BitVec.ofInt 8 127).toNat)) * 128))).toNat))),(5,.v (.int .i64 0)),(31,.v (.slice A s.length c))] hW hE47 fun a48 hE49=>?_
  refine qal (qao hE49 (t:=22) (A:=A) (m:=s.length) (q:=1) (d:=32) kz (e:=5) (size:=1) (bytes:=1) (j:=1) kz hA39 rfl (by omega) fun a50 hE51=>?_)
  refine qal (qat hE51 (t:=5) (b:=b37) (o:=o38 + 1 * 1) (d:=33) kz (cs:=[.int .u8 ((s.getD 1 0).toNat:Int)]) (v:=.int .u8 ((s.getD 1 0).toNat:Int)) kz (AtF.move hat41 hW.step nilM qaF).at_ fun a52 hE53=>?_)
  refine qam [3,4] [] [(0,.v (.slice A s.length c)),(4,.v (.int .u32 (IntKind.u32.wrap (BitVec.ofInt 32 (IntKind.u32.wrap (IntKind.u8.wrap (BitVec.ofInt 8 ((s.getD 0 0).toNat:Int) &&& BitVec.ofInt 8 127).toNat)) ||| BitVec.ofInt 32 (IntKind.u32.wrap ((IntKind.u32.wrap (IntKind.u8.wrap (BitVec.ofInt 8 ((s.getD 1 0).toNat:Int) &&& BitVec.ofInt 8 127).toNat)) * 128))).toNat))),(5,.v (.int .i64 0)),(35,.v (.bool ((IntKind.u8.wrap (BitVec.ofInt 8 ((s.getD 1 0).toNat:Int) &&& BitVec.ofInt 8 128).toNat) == 0)))] hW hE53 fun a54 hE55=>?_
  refine qag (qab ?_)
  refine qan hE55 (b:=(IntKind.u8.wrap (BitVec.ofInt 8 ((s.getD 1 0).toNat:Int) &&& BitVec.ofInt 8 128).toNat) == 0) kz ((qbn _ (qa9 s 1)).trans (decide_eq_false (by have:=g1; unfold oc at this; omega))) ?_
  refine qau [(0,.v (.slice A s.length c)),(4,.v (.int .u32 (IntKind.u32.wrap (BitVec.ofInt 32 (IntKind.u32.wrap (IntKind.u8.wrap (BitVec.ofInt 8 ((s.getD 0 0).toNat:Int) &&& BitVec.ofInt 8 127).toNat)) ||| BitVec.ofInt 32 (IntKind.u32.wrap ((IntKind.u32.wrap (IntKind.u8.wrap (BitVec.ofInt 8 ((s.getD 1 0).toNat:Int) &&& BitVec.ofInt 8 127).toNat)) * 128))).toNat))),(5,.v (.int .i64 0)),(39,.v (.bool (decide (((s.length:Nat):Int) < 3))))] hW hE55 fun a56 hE57=>?_
  refine qan hE57 (b:=decide (((s.length:Nat):Int) < 3)) kz (decide_eq_false (by omega)) ?_
  refine wp_skip ?_
  refine qab ?_
  refine qae [0,1,2,3,4,5,6,7,8] kz ?_
  refine qam [0,1] [2,3,4,5,6,7,8] [(0,.v (.slice A s.length c)),(5,.v (.int .i64 0)),(40,.v (.int .u32 (IntKind.u32.wrap (BitVec.ofInt 32 (IntKind.u32.wrap (IntKind.u8.wrap (BitVec.ofInt 8 ((s.getD 0 0).toNat:Int) &&& BitVec.ofInt 8 127).toNat)) ||| BitVec.ofInt 32 (IntKind.u32.wrap ((IntKind.u32.wrap (IntKind.u8.wrap (BitVec.ofInt 8 ((s.getD 1 0).toNat:Int) &&& BitVec.ofInt 8 127).toNat)) * 128))).toNat))),(41,.v (.slice A s.length c))] hW hE57 fun a58 hE59=>?_
  obtain ⟨b60,o61,hA62,hl63,hat64⟩:=Slots.get ho (i:=2) (by omega)
  refine qal (qao hE59 (t:=22) (A:=A) (m:=s.length) (q:=2) (d:=42) kz (e:=5) (size:=1) (bytes:=1) (j:=2) kz hA62 rfl (by omega) fun a65 hE66=>?_)
  refine qal (qat hE66 (t:=5) (b:=b60) (o:=o61 + 2 * 1) (d:=43) kz (cs:=[.int .u8 ((s.getD 2 0).toNat:Int)]) (v:=.int .u8 ((s.getD 2 0).toNat:Int)) kz (AtF.move hat64 hW.step nilM qaF).at_ fun a67 hE68=>?_)
  refine qam [4,5,6,7,8] [] [(0,.v (.slice A s.length c)),(4,.v (.int .u32 (IntKind.u32.wrap (BitVec.ofInt 32 (IntKind.u32.wrap (BitVec.ofInt 32 (IntKind.u32.wrap (IntKind.u8.wrap (BitVec.ofInt 8 ((s.getD 0 0).toNat:Int) &&& BitVec.ofInt 8 127).toNat)) ||| BitVec.ofInt 32 (IntKind.u32.wrap ((IntKind.u32.wrap (IntKind.u8.wrap (BitVec.ofInt 8 ((s.getD 1 0).toNat:Int) &&& BitVec.ofInt 8 127).toNat)) * 128))).toNat) ||| BitVec.ofInt 32 (IntKind.u32.wrap ((IntKind.u32.wrap (IntKind.u8.wrap (BitVec.ofInt 8 ((s.getD 2 0).toNat:Int) &&& BitVec.ofInt 8 127).toNat)) * 16384))).toNat))),(5,.v (.int .i64 0))] hW hE68 fun a69 hE70=>?_
  refine qag (qab ?_)
  refine wp_seq ?_
  refine qae [0,1,2,3,4] kz ?_
  refine qam [0] [1,2,3,4] [(0,.v (.slice A s.length c)),(4,.v (.int .u32 (IntKind.u32.wrap (BitVec.ofInt 32 (IntKind.u32.wrap (BitVec.ofInt 32 (IntKind.u32.wrap (IntKind.u8.wrap (BitVec.ofInt 8 ((s.getD 0 0).toNat:Int) &&& BitVec.ofInt 8 127).toNat)) ||| BitVec.ofInt 32 (IntKind.u32.wrap ((IntKind.u32.wrap (IntKind.u8.wrap (BitVec.ofInt 8 ((s.getD 1 0).toNat:Int) &&& BitVec.ofInt 8 127).toNat)) * 128))).toNat) ||| BitVec.ofInt 32 (IntKind.u32.wrap ((IntKind.u32.wrap (IntKind.u8.wrap (BitVec.ofInt 8 ((s.getD 2 0).toNat:Int) &&& BitVec.ofInt 8 127).toNat)) * 16384))).toNat))),(5,.v (.int .i64 0)),(48,.v (.slice A s.length c))] hW hE70 fun a71 hE72=>?_
  refine qal (qao hE72 (t:=22) (A:=A) (m:=s.length) (q:=2) (d:=49) kz (e:=5) (size:=1) (bytes:=1) (j:=2) kz hA62 rfl (by omega) fun a73 hE74=>?_)
  refine qal (qat hE74 (t:=5) (b:=b60) (o:=o61 + 2 * 1) (d:=50) kz (cs:=[.int .u8 ((s.getD 2 0).toNat:Int)]) (v:=.int .u8 ((s.getD 2 0).toNat:Int)) kz (AtF.move hat64 hW.step nilM qaF).at_ fun a75 hE76=>?_)
  refine qam [3,4] [] [(0,.v (.slice A s.length c)),(4,.v (.int .u32 (IntKind.u32.wrap (BitVec.ofInt 32 (IntKind.u32.wrap (BitVec.ofInt 32 (IntKind.u32.wrap (IntKind.u8.wrap (BitVec.ofInt 8 ((s.getD 0 0).toNat:Int) &&& BitVec.ofInt 8 127).toNat)) ||| BitVec.ofInt 32 (IntKind.u32.wrap ((IntKind.u32.wrap (IntKind.u8.wrap (BitVec.ofInt 8 ((s.getD 1 0).toNat:Int) &&& BitVec.ofInt 8 127).toNat)) * 128))).toNat) ||| BitVec.ofInt 32 (IntKind.u32.wrap ((IntKind.u32.wrap (IntKind.u8.wrap (BitVec.ofInt 8 ((s.getD 2 0).toNat:Int) &&& BitVec.ofInt 8 127).toNat)) * 16384))).toNat))),(5,.v (.int .i64 0)),(52,.v (.bool ((IntKind.u8.wrap (BitVec.ofInt 8 ((s.getD 2 0).toNat:Int) &&& BitVec.ofInt 8 128).toNat) == 0)))] hW hE76 fun a77 hE78=>?_
  refine qag (qab ?_)
  refine qan hE78 (b:=(IntKind.u8.wrap (BitVec.ofInt 8 ((s.getD 2 0).toNat:Int) &&& BitVec.ofInt 8 128).toNat) == 0) kz ((qbn _ (qa9 s 2)).trans (decide_eq_false (by have:=g2; unfold oc at this; omega))) ?_
  refine qau [(0,.v (.slice A s.length c)),(4,.v (.int .u32 (IntKind.u32.wrap (BitVec.ofInt 32 (IntKind.u32.wrap (BitVec.ofInt 32 (IntKind.u32.wrap (IntKind.u8.wrap (BitVec.ofInt 8 ((s.getD 0 0).toNat:Int) &&& BitVec.ofInt 8 127).toNat)) ||| BitVec.ofInt 32 (IntKind.u32.wrap ((IntKind.u32.wrap (IntKind.u8.wrap (BitVec.ofInt 8 ((s.getD 1 0).toNat:Int) &&& BitVec.ofInt 8 127).toNat)) * 128))).toNat) ||| BitVec.ofInt 32 (IntKind.u32.wrap ((IntKind.u32.wrap (IntKind.u8.wrap (BitVec.ofInt 8 ((s.getD 2 0).toNat:Int) &&& BitVec.ofInt 8 127).toNat)) * 16384))).toNat))),(5,.v (.int .i64 0)),(56,.v (.bool (decide (((s.length:Nat):Int) < 4))))] hW hE78 fun a79 hE80=>?_
  refine qaV hE80 (b:=decide (((s.length:Nat):Int) < 4)) kz (decide_eq_true (by omega)) ?_
  refine wp_goto ?_
  exact ⟨rfl,rfl,hE80.pk (env':=[(5,.v (.int .i64 0))])⟩
 rintro a3 _ ⟨rfl,hE5⟩
 refine wp_seq ?_
 refine wp_skip ?_
 refine qab ?_
 refine qau [(2,.v (.int .u32 0)),(3,.v (.int .i64 0))] hW hE5 fun a81 hE82=>?_
 refine wp_ret ?_
 refine qc8 ?_
 refine qaZ hE82 hW.cells (v:=.tuple #[.int .u32 0,.int .i64 0]) kz ?_
 exact ⟨rfl,hW.step⟩
theorem qhS {A:Option Addr} {c:Nat} (s:Bs) {w:World} {F:Nat → Nat → Prop} (ho:Octs w F A c s) (hl:s.length = 4) (g0:128 ≤ oc s 0) (g1:128 ≤ oc s 1) (g2:128 ≤ oc s 2) (g3:128 ≤ oc s 3) :
  Calls Tryd.prog 118 #[.slice A s.length c] w (qcb w (.tuple #[.int .u32 0,.int .i64 (0)])):=by
 refine enter (n:=87) Tryd.func118 rfl Tryd.ntmps118 kz fun a hE=>?_
 have hW:=WOk.start w Nil
 refine qau [(0,.v (.slice A s.length c))] hW hE fun a1 hE2=>?_
 refine wp_scope_jumps 0 (fun a_ w_=>w_ = w ∧ EnvOk 87 [] [(5,.v (.int .i64 0))] a_) (fun _ _=>0) rfl ?_ ?_
 ·
  refine qau [(0,.v (.slice A s.length c))] hW hE2 fun a6 hE7=>?_
  refine qau [(0,.v (.slice A s.length c)),(5,.v (.int .i64 0))] hW hE7 fun a8 hE9=>?_
  refine wp_seq ?_
  refine qau [(0,.v (.slice A s.length c)),(5,.v (.int .i64 0)),(8,.v (.bool (decide (((s.length:Nat):Int) < 1))))] hW hE9 fun a10 hE11=>?_
  refine qan hE11 (b:=decide (((s.length:Nat):Int) < 1)) kz (decide_eq_false (by omega)) ?_
  refine wp_skip ?_
  refine qab ?_
  refine qae [0,1,2,3,4,5] kz ?_
  refine qam [0] [1,2,3,4,5] [(0,.v (.slice A s.length c)),(5,.v (.int .i64 0)),(9,.v (.slice A s.length c))] hW hE11 fun a12 hE13=>?_
  obtain ⟨b14,o15,hA16,hl17,hat18⟩:=Slots.get ho (i:=0) (by omega)
  refine qal (qao hE13 (t:=22) (A:=A) (m:=s.length) (q:=0) (d:=10) kz (e:=5) (size:=1) (bytes:=1) (j:=0) kz hA16 rfl (by omega) fun a19 hE20=>?_)
  refine qal (qat hE20 (t:=5) (b:=b14) (o:=o15 + 0 * 1) (d:=11) kz (cs:=[.int .u8 ((s.getD 0 0).toNat:Int)]) (v:=.int .u8 ((s.getD 0 0).toNat:Int)) kz (AtF.move hat18 hW.step nilM qaF).at_ fun a21 hE22=>?_)
  refine qam [3,4,5] [] [(0,.v (.slice A s.length c)),(4,.v (.int .u32 (IntKind.u32.wrap (IntKind.u8.wrap (BitVec.ofInt 8 ((s.getD 0 0).toNat:Int) &&& BitVec.ofInt 8 127).toNat)))),(5,.v (.int .i64 0))] hW hE22 fun a23 hE24=>?_
  refine qag (qab ?_)
  refine wp_seq ?_
  refine qae [0,1,2,3,4] kz ?_
  refine qam [0] [1,2,3,4] [(0,.v (.slice A s.length c)),(4,.v (.int .u32 (IntKind.u32.wrap (IntKind.u8.wrap (BitVec.ofInt 8 ((s.getD 0 0).toNat:Int) &&& BitVec.ofInt 8 127).toNat)))),(5,.v (.int .i64 0)),(14,.v (.slice A s.length c))] hW hE24 fun a25 hE26=>?_
  refine qal (qao hE26 (t:=22) (A:=A) (m:=s.length) (q:=0) (d:=15) kz (e:=5) (size:=1) (bytes:=1) (j:=0) kz hA16 rfl (by omega) fun a27 hE28=>?_)
  refine qal (qat hE28 (t:=5) (b:=b14) (o:=o15 + 0 * 1) (d:=16) kz (cs:=[.int .u8 ((s.getD 0 0).toNat:Int)]) (v:=.int .u8 ((s.getD 0 0).toNat:Int)) kz (AtF.move hat18 hW.step nilM qaF).at_ fun a29 hE30=>?_)
  refine qam [3,4] [] [(0,.v (.slice A s.length c)),(4,.v (.int .u32 (IntKind.u32.wrap (IntKind.u8.wrap (BitVec.ofInt 8 ((s.getD 0 0).toNat:Int) &&& BitVec.ofInt 8 127).toNat)))),(5,.v (.int .i64 0)),(18,.v (.bool ((IntKind.u8.wrap (BitVec.ofInt 8 ((s.getD 0 0).toNat:Int) &&& BitVec.ofInt 8 128).toNat) == 0)))] hW hE30 fun a31 hE32=>?_
  refine qag (qab ?_)
  refine qan hE32 (b:=(IntKind.u8.wrap (BitVec.ofInt 8 ((s.getD 0 0).toNat:Int) &&& BitVec.ofInt 8 128).toNat) == 0) kz ((qbn _ (qa9 s 0)).trans (decide_eq_false (by have:=g0; unfold oc at this; omega))) ?_
  refine qau [(0,.v (.slice A s.length c)),(4,.v (.int .u32 (IntKind.u32.wrap (IntKind.u8.wrap (BitVec.ofInt 8 ((s.getD 0 0).toNat:Int) &&& BitVec.ofInt 8 127).toNat)))),(5,.v (.int .i64 0)),(22,.v (.bool (decide (((s.length:Nat):Int) < 2))))] hW hE32 fun a33 hE34=>?_
  refine qan hE34 (b:=decide (((s.length:Nat):Int) < 2)) kz (decide_eq_false (by omega)) ?_
  refine wp_skip ?_
  refine qab ?_
  refine qae [0,1,2,3,4,5,6,7,8] kz ?_
  refine qam [0,1] [2,3,4,5,6,7,8] [(0,.v (.slice A s.length c)),(5,.v (.int .i64 0)),(23,.v (.int .u32 (IntKind.u32.wrap (IntKind.u8.wrap (BitVec.ofInt 8 ((s.getD 0 0).toNat:Int) &&& BitVec.ofInt 8 127).toNat)))),(24,.v (.slice A s.length c))] hW hE34 fun a35 hE36=>?_
  obtain ⟨b37,o38,hA39,hl40,hat41⟩:=Slots.get ho (i:=1) (by omega)
  refine qal (qao hE36 (t:=22) (A:=A) (m:=s.length) (q:=1) (d:=25) kz (e:=5) (size:=1) (bytes:=1) (j:=1) kz hA39 rfl (by omega) fun a42 hE43=>?_)
  refine qal (qat hE43 (t:=5) (b:=b37) (o:=o38 + 1 * 1) (d:=26) kz (cs:=[.int .u8 ((s.getD 1 0).toNat:Int)]) (v:=.int .u8 ((s.getD 1 0).toNat:Int)) kz (AtF.move hat41 hW.step nilM qaF).at_ fun a44 hE45=>?_)
  refine qam [4,5,6,7,8] [] [(0,.v (.slice A s.length c)),(4,.v (.int .u32 (IntKind.u32.wrap (BitVec.ofInt 32 (IntKind.u32.wrap (IntKind.u8.wrap (BitVec.ofInt 8 ((s.getD 0 0).toNat:Int) &&& BitVec.ofInt 8 127).toNat)) ||| BitVec.ofInt 32 (IntKind.u32.wrap ((IntKind.u32.wrap (IntKind.u8.wrap (BitVec.ofInt 8 ((s.getD 1 0).toNat:Int) &&& BitVec.ofInt 8 127).toNat)) * 128))).toNat))),(5,.v (.int .i64 0))] hW hE45 fun a46 hE47=>?_
  refine qag (qab ?_)
  refine wp_seq ?_
  refine qae [0,1,2,3,4] kz ?_
  refine qam [0] [1,2,3,4] [(0,.v (.slice A s.length c)),(4,.v (.int .u32 (IntKind.u32.wrap (BitVec.ofInt 32 (IntKind.u32.wrap (IntKind.u8.wrap (BitVec.ofInt 8 ((s.getD 0 0).toNat:Int) &&& BitVec.ofInt 8 127).toNat)) ||| BitVec.ofInt 32 (IntKind.u32.wrap ((IntKind.u32.wrap (IntKind.u8.wrap (BitVec.ofInt 8 ((s.getD 1 0).toNat:Int) &&& BitVec.ofInt 8 127).toNat)) * 128))).toNat))),(5,.v (.int .i64 0)),(31,.v (.slice A s.length c))] hW hE47 fun a48 hE49=>?_
  refine qal (qao hE49 (t:=22) (A:=A) (m:=s.length) (q:=1) (d:=32) kz (e:=5) (size:=1) (bytes:=1) (j:=1) kz hA39 rfl (by omega) fun a50 hE51=>?_)
  refine qal (qat hE51 (t:=5) (b:=b37) (o:=o38 + 1 * 1) (d:=33) kz (cs:=[.int .u8 ((s.getD 1 0).toNat:Int)]) (v:=.int .u8 ((s.getD 1 0).toNat:Int)) kz (AtF.move hat41 hW.step nilM qaF).at_ fun a52 hE53=>?_)
  refine qam [3,4] [] [(0,.v (.slice A s.length c)),(4,.v (.int .u32 (IntKind.u32.wrap (BitVec.ofInt 32 (IntKind.u32.wrap (IntKind.u8.wrap (BitVec.ofInt 8 ((s.getD 0 0).toNat:Int) &&& BitVec.ofInt 8 127).toNat)) ||| BitVec.ofInt 32 (IntKind.u32.wrap ((IntKind.u32.wrap (IntKind.u8.wrap (BitVec.ofInt 8 ((s.getD 1 0).toNat:Int) &&& BitVec.ofInt 8 127).toNat)) * 128))).toNat))),(5,.v (.int .i64 0)),(35,.v (.bool ((IntKind.u8.wrap (BitVec.ofInt 8 ((s.getD 1 0).toNat:Int) &&& BitVec.ofInt 8 128).toNat) == 0)))] hW hE53 fun a54 hE55=>?_
  refine qag (qab ?_)
  refine qan hE55 (b:=(IntKind.u8.wrap (BitVec.ofInt 8 ((s.getD 1 0).toNat:Int) &&& BitVec.ofInt 8 128).toNat) == 0) kz ((qbn _ (qa9 s 1)).trans (decide_eq_false (by have:=g1; unfold oc at this; omega))) ?_
  refine qau [(0,.v (.slice A s.length c)),(4,.v (.int .u32 (IntKind.u32.wrap (BitVec.ofInt 32 (IntKind.u32.wrap (IntKind.u8.wrap (BitVec.ofInt 8 ((s.getD 0 0).toNat:Int) &&& BitVec.ofInt 8 127).toNat)) ||| BitVec.ofInt 32 (IntKind.u32.wrap ((IntKind.u32.wrap (IntKind.u8.wrap (BitVec.ofInt 8 ((s.getD 1 0).toNat:Int) &&& BitVec.ofInt 8 127).toNat)) * 128))).toNat))),(5,.v (.int .i64 0)),(39,.v (.bool (decide (((s.length:Nat):Int) < 3))))] hW hE55 fun a56 hE57=>?_
  refine qan hE57 (b:=decide (((s.length:Nat):Int) < 3)) kz (decide_eq_false (by omega)) ?_
  refine wp_skip ?_
  refine qab ?_
  refine qae [0,1,2,3,4,5,6,7,8] kz ?_
  refine qam [0,1] [2,3,4,5,6,7,8] [(0,.v (.slice A s.length c)),(5,.v (.int .i64 0)),(40,.v (.int .u32 (IntKind.u32.wrap (BitVec.ofInt 32 (IntKind.u32.wrap (IntKind.u8.wrap (BitVec.ofInt 8 ((s.getD 0 0).toNat:Int) &&& BitVec.ofInt 8 127).toNat)) ||| BitVec.ofInt 32 (IntKind.u32.wrap ((IntKind.u32.wrap (IntKind.u8.wrap (BitVec.ofInt 8 ((s.getD 1 0).toNat:Int) &&& BitVec.ofInt 8 127).toNat)) * 128))).toNat))),(41,.v (.slice A s.length c))] hW hE57 fun a58 hE59=>?_
  obtain ⟨b60,o61,hA62,hl63,hat64⟩:=Slots.get ho (i:=2) (by omega)
  refine qal (qao hE59 (t:=22) (A:=A) (m:=s.length) (q:=2) (d:=42) kz (e:=5) (size:=1) (bytes:=1) (j:=2) kz hA62 rfl (by omega) fun a65 hE66=>?_)
  refine qal (qat hE66 (t:=5) (b:=b60) (o:=o61 + 2 * 1) (d:=43) kz (cs:=[.int .u8 ((s.getD 2 0).toNat:Int)]) (v:=.int .u8 ((s.getD 2 0).toNat:Int)) kz (AtF.move hat64 hW.step nilM qaF).at_ fun a67 hE68=>?_)
  refine qam [4,5,6,7,8] [] [(0,.v (.slice A s.length c)),(4,.v (.int .u32 (IntKind.u32.wrap (BitVec.ofInt 32 (IntKind.u32.wrap (BitVec.ofInt 32 (IntKind.u32.wrap (IntKind.u8.wrap (BitVec.ofInt 8 ((s.getD 0 0).toNat:Int) &&& BitVec.ofInt 8 127).toNat)) ||| BitVec.ofInt 32 (IntKind.u32.wrap ((IntKind.u32.wrap (IntKind.u8.wrap (BitVec.ofInt 8 ((s.getD 1 0).toNat:Int) &&& BitVec.ofInt 8 127).toNat)) * 128))).toNat) ||| BitVec.ofInt 32 (IntKind.u32.wrap ((IntKind.u32.wrap (IntKind.u8.wrap (BitVec.ofInt 8 ((s.getD 2 0).toNat:Int) &&& BitVec.ofInt 8 127).toNat)) * 16384))).toNat))),(5,.v (.int .i64 0))] hW hE68 fun a69 hE70=>?_
  refine qag (qab ?_)
  refine wp_seq ?_
  refine qae [0,1,2,3,4] kz ?_
  refine qam [0] [1,2,3,4] [(0,.v (.slice A s.length c)),(4,.v (.int .u32 (IntKind.u32.wrap (BitVec.ofInt 32 (IntKind.u32.wrap (BitVec.ofInt 32 (IntKind.u32.wrap (IntKind.u8.wrap (BitVec.ofInt 8 ((s.getD 0 0).toNat:Int) &&& BitVec.ofInt 8 127).toNat)) ||| BitVec.ofInt 32 (IntKind.u32.wrap ((IntKind.u32.wrap (IntKind.u8.wrap (BitVec.ofInt 8 ((s.getD 1 0).toNat:Int) &&& BitVec.ofInt 8 127).toNat)) * 128))).toNat) ||| BitVec.ofInt 32 (IntKind.u32.wrap ((IntKind.u32.wrap (IntKind.u8.wrap (BitVec.ofInt 8 ((s.getD 2 0).toNat:Int) &&& BitVec.ofInt 8 127).toNat)) * 16384))).toNat))),(5,.v (.int .i64 0)),(48,.v (.slice A s.length c))] hW hE70 fun a71 hE72=>?_
  refine qal (qao hE72 (t:=22) (A:=A) (m:=s.length) (q:=2) (d:=49) kz (e:=5) (size:=1) (bytes:=1) (j:=2) kz hA62 rfl (by omega) fun a73 hE74=>?_)
  refine qal (qat hE74 (t:=5) (b:=b60) (o:=o61 + 2 * 1) (d:=50) kz (cs:=[.int .u8 ((s.getD 2 0).toNat:Int)]) (v:=.int .u8 ((s.getD 2 0).toNat:Int)) kz (AtF.move hat64 hW.step nilM qaF).at_ fun a75 hE76=>?_)
  refine qam [3,4] [] [(0,.v (.slice A s.length c)),(4,.v (.int .u32 (IntKind.u32.wrap (BitVec.ofInt 32 (IntKind.u32.wrap (BitVec.ofInt 32 (IntKind.u32.wrap (IntKind.u8.wrap (BitVec.ofInt 8 ((s.getD 0 0).toNat:Int) &&& BitVec.ofInt 8 127).toNat)) ||| BitVec.ofInt 32 (IntKind.u32.wrap ((IntKind.u32.wrap (IntKind.u8.wrap (BitVec.ofInt 8 ((s.getD 1 0).toNat:Int) &&& BitVec.ofInt 8 127).toNat)) * 128))).toNat) ||| BitVec.ofInt 32 (IntKind.u32.wrap ((IntKind.u32.wrap (IntKind.u8.wrap (BitVec.ofInt 8 ((s.getD 2 0).toNat:Int) &&& BitVec.ofInt 8 127).toNat)) * 16384))).toNat))),(5,.v (.int .i64 0)),(52,.v (.bool ((IntKind.u8.wrap (BitVec.ofInt 8 ((s.getD 2 0).toNat:Int) &&& BitVec.ofInt 8 128).toNat) == 0)))] hW hE76 fun a77 hE78=>?_
  refine qag (qab ?_)
  refine qan hE78 (b:=(IntKind.u8.wrap (BitVec.ofInt 8 ((s.getD 2 0).toNat:Int) &&& BitVec.ofInt 8 128).toNat) == 0) kz ((qbn _ (qa9 s 2)).trans (decide_eq_false (by have:=g2; unfold oc at this; omega))) ?_
  refine qau [(0,.v (.slice A s.length c)),(4,.v (.int .u32 (IntKind.u32.wrap (BitVec.ofInt 32 (IntKind.u32.wrap (BitVec.ofInt 32 (IntKind.u32.wrap (IntKind.u8.wrap (BitVec.ofInt 8 ((s.getD 0 0).toNat:Int) &&& BitVec.ofInt 8 127).toNat)) ||| BitVec.ofInt 32 (IntKind.u32.wrap ((IntKind.u32.wrap (IntKind.u8.wrap (BitVec.ofInt 8 ((s.getD 1 0).toNat:Int) &&& BitVec.ofInt 8 127).toNat)) * 128))).toNat) ||| BitVec.ofInt 32 (IntKind.u32.wrap ((IntKind.u32.wrap (IntKind.u8.wrap (BitVec.ofInt 8 ((s.getD 2 0).toNat:Int) &&& BitVec.ofInt 8 127).toNat)) * 16384))).toNat))),(5,.v (.int .i64 0)),(56,.v (.bool (decide (((s.length:Nat):Int) < 4))))] hW hE78 fun a79 hE80=>?_
  refine qan hE80 (b:=decide (((s.length:Nat):Int) < 4)) kz (decide_eq_false (by omega)) ?_
  refine wp_skip ?_
  refine qab ?_
  refine qae [0,1,2,3,4,5,6,7,8] kz ?_
  refine qam [0,1] [2,3,4,5,6,7,8] [(0,.v (.slice A s.length c)),(5,.v (.int .i64 0)),(57,.v (.int .u32 (IntKind.u32.wrap (BitVec.ofInt 32 (IntKind.u32.wrap (BitVec.ofInt 32 (IntKind.u32.wrap (IntKind.u8.wrap (BitVec.ofInt 8 ((s.getD 0 0).toNat:Int) &&& BitVec.ofInt 8 127).toNat)) ||| BitVec.ofInt 32 (IntKind.u32.wrap ((IntKind.u32.wrap (IntKind.u8.wrap (BitVec.ofInt 8 ((s.getD 1 0).toNat:Int) &&& BitVec.ofInt 8 127).toNat)) * 128))).toNat) ||| BitVec.ofInt 32 (IntKind.u32.wrap ((IntKind.u32.wrap (IntKind.u8.wrap (BitVec.ofInt 8 ((s.getD 2 0).toNat:Int) &&& BitVec.ofInt 8 127).toNat)) * 16384))).toNat))),(58,.v (.slice A s.length c))] hW hE80 fun a81 hE82=>?_
  obtain ⟨b83,o84,hA85,hl86,hat87⟩:=Slots.get ho (i:=3) (by omega)
  refine qal (qao hE82 (t:=22) (A:=A) (m:=s.length) (q:=3) (d:=59) kz (e:=5) (size:=1) (bytes:=1) (j:=3) kz hA85 rfl (by omega) fun a88 hE89=>?_)
  refine qal (qat hE89 (t:=5) (b:=b83) (o:=o84 + 3 * 1) (d:=60) kz (cs:=[.int .u8 ((s.getD 3 0).toNat:Int)]) (v:=.int .u8 ((s.getD 3 0).toNat:Int)) kz (AtF.move hat87 hW.step nilM qaF).at_ fun a90 hE91=>?_)
  refine qam [4,5,6,7,8] [] [(0,.v (.slice A s.length c)),(4,.v (.int .u32 (IntKind.u32.wrap (BitVec.ofInt 32 (IntKind.u32.wrap (BitVec.ofInt 32 (IntKind.u32.wrap (BitVec.ofInt 32 (IntKind.u32.wrap (IntKind.u8.wrap (BitVec.ofInt 8 ((s.getD 0 0).toNat:Int) &&& BitVec.ofInt 8 127).toNat)) ||| BitVec.ofInt 32 (IntKind.u32.wrap ((IntKind.u32.wrap (IntKind.u8.wrap (BitVec.ofInt 8 ((s.getD 1 0).toNat:Int) &&& BitVec.ofInt 8 127).toNat)) * 128))).toNat) ||| BitVec.ofInt 32 (IntKind.u32.wrap ((IntKind.u32.wrap (IntKind.u8.wrap (BitVec.ofInt 8 ((s.getD 2 0).toNat:Int) &&& BitVec.ofInt 8 127).toNat)) * 16384))).toNat) ||| BitVec.ofInt 32 (IntKind.u32.wrap ((IntKind.u32.wrap (IntKind.u8.wrap (BitVec.ofInt 8 ((s.getD 3 0).toNat:Int) &&& BitVec.ofInt 8 127).toNat)) * 2097152))).toNat))),(5,.v (.int .i64 0))] hW hE91 fun a92 hE93=>?_
  refine qag (qab ?_)
  refine wp_seq ?_
  refine qae [0,1,2,3,4] kz ?_
  refine qam [0] [1,2,3,4] [(0,.v (.slice A s.length c)),(4,.v (.int .u32 (IntKind.u32.wrap (BitVec.ofInt 32 (IntKind.u32.wrap (BitVec.ofInt 32 (IntKind.u32.wrap (BitVec.ofInt 32 (IntKind.u32.wrap (IntKind.u8.wrap (BitVec.ofInt 8 ((s.getD 0 0).toNat:Int) &&& BitVec.ofInt 8 127).toNat)) ||| BitVec.ofInt 32 (IntKind.u32.wrap ((IntKind.u32.wrap (IntKind.u8.wrap (BitVec.ofInt 8 ((s.getD 1 0).toNat:Int) &&& BitVec.ofInt 8 127).toNat)) * 128))).toNat) ||| BitVec.ofInt 32 (IntKind.u32.wrap ((IntKind.u32.wrap (IntKind.u8.wrap (BitVec.ofInt 8 ((s.getD 2 0).toNat:Int) &&& BitVec.ofInt 8 127).toNat)) * 16384))).toNat) ||| BitVec.ofInt 32 (IntKind.u32.wrap ((IntKind.u32.wrap (IntKind.u8.wrap (BitVec.ofInt 8 ((s.getD 3 0).toNat:Int) &&& BitVec.ofInt 8 127).toNat)) * 2097152))).toNat))),(5,.v (.int .i64 0)),(65,.v (.slice A s.length c))] hW hE93 fun a94 hE95=>?_
  refine qal (qao hE95 (t:=22) (A:=A) (m:=s.length) (q:=3) (d:=66) kz (e:=5) (size:=1) (bytes:=1) (j:=3) kz hA85 rfl (by omega) fun a96 hE97=>?_)
  refine qal (qat hE97 (t:=5) (b:=b83) (o:=o84 + 3 * 1) (d:=67) kz (cs:=[.int .u8 ((s.getD 3 0).toNat:Int)]) (v:=.int .u8 ((s.getD 3 0).toNat:Int)) kz (AtF.move hat87 hW.step nilM qaF).at_ fun a98 hE99=>?_)
  refine qam [3,4] [] [(0,.v (.slice A s.length c)),(4,.v (.int .u32 (IntKind.u32.wrap (BitVec.ofInt 32 (IntKind.u32.wrap (BitVec.ofInt 32 (IntKind.u32.wrap (BitVec.ofInt 32 (IntKind.u32.wrap (IntKind.u8.wrap (BitVec.ofInt 8 ((s.getD 0 0).toNat:Int) &&& BitVec.ofInt 8 127).toNat)) ||| BitVec.ofInt 32 (IntKind.u32.wrap ((IntKind.u32.wrap (IntKind.u8.wrap (BitVec.ofInt 8 ((s.getD 1 0).toNat:Int) &&& BitVec.ofInt 8 127).toNat)) * 128))).toNat) ||| BitVec.ofInt 32 (IntKind.u32.wrap ((IntKind.u32.wrap (IntKind.u8.wrap (BitVec.ofInt 8 ((s.getD 2 0).toNat:Int) &&& BitVec.ofInt 8 127).toNat)) * 16384))).toNat) ||| BitVec.ofInt 32 (IntKind.u32.wrap ((IntKind.u32.wrap (IntKind.u8.wrap (BitVec.ofInt 8 ((s.getD 3 0).toNat:Int) &&& BitVec.ofInt 8 127).toNat)) * 2097152))).toNat))),(5,.v (.int .i64 0)),(69,.v (.bool ((IntKind.u8.wrap (BitVec.ofInt 8 ((s.getD 3 0).toNat:Int) &&& BitVec.ofInt 8 128).toNat) == 0)))] hW hE99 fun a100 hE101=>?_
  refine qag (qab ?_)
  refine qan hE101 (b:=(IntKind.u8.wrap (BitVec.ofInt 8 ((s.getD 3 0).toNat:Int) &&& BitVec.ofInt 8 128).toNat) == 0) kz ((qbn _ (qa9 s 3)).trans (decide_eq_false (by have:=g3; unfold oc at this; omega))) ?_
  refine qau [(0,.v (.slice A s.length c)),(4,.v (.int .u32 (IntKind.u32.wrap (BitVec.ofInt 32 (IntKind.u32.wrap (BitVec.ofInt 32 (IntKind.u32.wrap (BitVec.ofInt 32 (IntKind.u32.wrap (IntKind.u8.wrap (BitVec.ofInt 8 ((s.getD 0 0).toNat:Int) &&& BitVec.ofInt 8 127).toNat)) ||| BitVec.ofInt 32 (IntKind.u32.wrap ((IntKind.u32.wrap (IntKind.u8.wrap (BitVec.ofInt 8 ((s.getD 1 0).toNat:Int) &&& BitVec.ofInt 8 127).toNat)) * 128))).toNat) ||| BitVec.ofInt 32 (IntKind.u32.wrap ((IntKind.u32.wrap (IntKind.u8.wrap (BitVec.ofInt 8 ((s.getD 2 0).toNat:Int) &&& BitVec.ofInt 8 127).toNat)) * 16384))).toNat) ||| BitVec.ofInt 32 (IntKind.u32.wrap ((IntKind.u32.wrap (IntKind.u8.wrap (BitVec.ofInt 8 ((s.getD 3 0).toNat:Int) &&& BitVec.ofInt 8 127).toNat)) * 2097152))).toNat))),(5,.v (.int .i64 0)),(73,.v (.bool (decide (((s.length:Nat):Int) < 5))))] hW hE101 fun a102 hE103=>?_
  refine qaV hE103 (b:=decide (((s.length:Nat):Int) < 5)) kz (decide_eq_true (by omega)) ?_
  refine wp_goto ?_
  exact ⟨rfl,rfl,hE103.pk (env':=[(5,.v (.int .i64 0))])⟩
 rintro a3 _ ⟨rfl,hE5⟩
 refine wp_seq ?_
 refine wp_skip ?_
 refine qab ?_
 refine qau [(2,.v (.int .u32 0)),(3,.v (.int .i64 0))] hW hE5 fun a104 hE105=>?_
 refine wp_ret ?_
 refine qc8 ?_
 refine qaZ hE105 hW.cells (v:=.tuple #[.int .u32 0,.int .i64 0]) kz ?_
 exact ⟨rfl,hW.step⟩
theorem qhT {A:Option Addr} {c:Nat} (s:Bs) {w:World} {F:Nat → Nat → Prop} (ho:Octs w F A c s) (hl:5 ≤ s.length) (g0:128 ≤ oc s 0) (g1:128 ≤ oc s 1) (g2:128 ≤ oc s 2) (g3:128 ≤ oc s 3) (g4:16 ≤ oc s 4) :
  Calls Tryd.prog 118 #[.slice A s.length c] w (qcb w (.tuple #[.int .u32 0,.int .i64 (-5)])):=by
 refine enter (n:=87) Tryd.func118 rfl Tryd.ntmps118 kz fun a hE=>?_
 have hW:=WOk.start w Nil
 refine qau [(0,.v (.slice A s.length c))] hW hE fun a1 hE2=>?_
 refine wp_scope_straight ?_
 refine qau [(0,.v (.slice A s.length c))] hW hE2 fun a3 hE4=>?_
 refine qau [(0,.v (.slice A s.length c)),(5,.v (.int .i64 0))] hW hE4 fun a5 hE6=>?_
 refine wp_seq ?_
 refine qau [(0,.v (.slice A s.length c)),(5,.v (.int .i64 0)),(8,.v (.bool (decide (((s.length:Nat):Int) < 1))))] hW hE6 fun a7 hE8=>?_
 refine qan hE8 (b:=decide (((s.length:Nat):Int) < 1)) kz (decide_eq_false (by omega)) ?_
 refine wp_skip ?_
 refine qab ?_
 refine qae [0,1,2,3,4,5] kz ?_
 refine qam [0] [1,2,3,4,5] [(0,.v (.slice A s.length c)),(5,.v (.int .i64 0)),(9,.v (.slice A s.length c))] hW hE8 fun a9 hE10=>?_
 obtain ⟨b11,o12,hA13,hl14,hat15⟩:=Slots.get ho (i:=0) (by omega)
 refine qal (qao hE10 (t:=22) (A:=A) (m:=s.length) (q:=0) (d:=10) kz (e:=5) (size:=1) (bytes:=1) (j:=0) kz hA13 rfl (by omega) fun a16 hE17=>?_)
 refine qal (qat hE17 (t:=5) (b:=b11) (o:=o12 + 0 * 1) (d:=11) kz (cs:=[.int .u8 ((s.getD 0 0).toNat:Int)]) (v:=.int .u8 ((s.getD 0 0).toNat:Int)) kz (AtF.move hat15 hW.step nilM qaF).at_ fun a18 hE19=>?_)
 refine qam [3,4,5] [] [(0,.v (.slice A s.length c)),(4,.v (.int .u32 (IntKind.u32.wrap (IntKind.u8.wrap (BitVec.ofInt 8 ((s.getD 0 0).toNat:Int) &&& BitVec.ofInt 8 127).toNat)))),(5,.v (.int .i64 0))] hW hE19 fun a20 hE21=>?_
 refine qag (qab ?_)
 refine wp_seq ?_
 refine qae [0,1,2,3,4] kz ?_
 refine qam [0] [1,2,3,4] [(0,.v (.slice A s.length c)),(4,.v (.int .u32 (IntKind.u32.wrap (IntKind.u8.wrap (BitVec.ofInt 8 ((s.getD 0 0).toNat:Int) &&& BitVec.ofInt 8 127).toNat)))),(5,.v (.int .i64 0)),(14,.v (.slice A s.length c))] hW hE21 fun a22 hE23=>?_
 refine qal (qao hE23 (t:=22) (A:=A) (m:=s.length) (q:=0) (d:=15) kz (e:=5) (size:=1) (bytes:=1) (j:=0) kz hA13 rfl (by omega) fun a24 hE25=>?_)
 refine qal (qat hE25 (t:=5) (b:=b11) (o:=o12 + 0 * 1) (d:=16) kz (cs:=[.int .u8 ((s.getD 0 0).toNat:Int)]) (v:=.int .u8 ((s.getD 0 0).toNat:Int)) kz (AtF.move hat15 hW.step nilM qaF).at_ fun a26 hE27=>?_)
 refine qam [3,4] [] [(0,.v (.slice A s.length c)),(4,.v (.int .u32 (IntKind.u32.wrap (IntKind.u8.wrap (BitVec.ofInt 8 ((s.getD 0 0).toNat:Int) &&& BitVec.ofInt 8 127).toNat)))),(5,.v (.int .i64 0)),(18,.v (.bool ((IntKind.u8.wrap (BitVec.ofInt 8 ((s.getD 0 0).toNat:Int) &&& BitVec.ofInt 8 128).toNat) == 0)))] hW hE27 fun a28 hE29=>?_
 refine qag (qab ?_)
 refine qan hE29 (b:=(IntKind.u8.wrap (BitVec.ofInt 8 ((s.getD 0 0).toNat:Int) &&& BitVec.ofInt 8 128).toNat) == 0) kz ((qbn _ (qa9 s 0)).trans (decide_eq_false (by have:=g0; unfold oc at this; omega))) ?_
 refine qau [(0,.v (.slice A s.length c)),(4,.v (.int .u32 (IntKind.u32.wrap (IntKind.u8.wrap (BitVec.ofInt 8 ((s.getD 0 0).toNat:Int) &&& BitVec.ofInt 8 127).toNat)))),(5,.v (.int .i64 0)),(22,.v (.bool (decide (((s.length:Nat):Int) < 2))))] hW hE29 fun a30 hE31=>?_
 refine qan hE31 (b:=decide (((s.length:Nat):Int) < 2)) kz (decide_eq_false (by omega)) ?_
 refine wp_skip ?_
 refine qab ?_
 refine qae [0,1,2,3,4,5,6,7,8] kz ?_
 refine qam [0,1] [2,3,4,5,6,7,8] [(0,.v (.slice A s.length c)),(5,.v (.int .i64 0)),(23,.v (.int .u32 (IntKind.u32.wrap (IntKind.u8.wrap (BitVec.ofInt 8 ((s.getD 0 0).toNat:Int) &&& BitVec.ofInt 8 127).toNat)))),(24,.v (.slice A s.length c))] hW hE31 fun a32 hE33=>?_
 obtain ⟨b34,o35,hA36,hl37,hat38⟩:=Slots.get ho (i:=1) (by omega)
 refine qal (qao hE33 (t:=22) (A:=A) (m:=s.length) (q:=1) (d:=25) kz (e:=5) (size:=1) (bytes:=1) (j:=1) kz hA36 rfl (by omega) fun a39 hE40=>?_)
 refine qal (qat hE40 (t:=5) (b:=b34) (o:=o35 + 1 * 1) (d:=26) kz (cs:=[.int .u8 ((s.getD 1 0).toNat:Int)]) (v:=.int .u8 ((s.getD 1 0).toNat:Int)) kz (AtF.move hat38 hW.step nilM qaF).at_ fun a41 hE42=>?_)
 refine qam [4,5,6,7,8] [] [(0,.v (.slice A s.length c)),(4,.v (.int .u32 (IntKind.u32.wrap (BitVec.ofInt 32 (IntKind.u32.wrap (IntKind.u8.wrap (BitVec.ofInt 8 ((s.getD 0 0).toNat:Int) &&& BitVec.ofInt 8 127).toNat)) ||| BitVec.ofInt 32 (IntKind.u32.wrap ((IntKind.u32.wrap (IntKind.u8.wrap (BitVec.ofInt 8 ((s.getD 1 0).toNat:Int) &&& BitVec.ofInt 8 127).toNat)) * 128))).toNat))),(5,.v (.int .i64 0))] hW hE42 fun a43 hE44=>?_
 refine qag (qab ?_)
 refine wp_seq ?_
 refine qae [0,1,2,3,4] kz ?_
 refine qam [0] [1,2,3,4] [(0,.v (.slice A s.length c)),(4,.v (.int .u32 (IntKind.u32.wrap (BitVec.ofInt 32 (IntKind.u32.wrap (IntKind.u8.wrap (BitVec.ofInt 8 ((s.getD 0 0).toNat:Int) &&& BitVec.ofInt 8 127).toNat)) ||| BitVec.ofInt 32 (IntKind.u32.wrap ((IntKind.u32.wrap (IntKind.u8.wrap (BitVec.ofInt 8 ((s.getD 1 0).toNat:Int) &&& BitVec.ofInt 8 127).toNat)) * 128))).toNat))),(5,.v (.int .i64 0)),(31,.v (.slice A s.length c))] hW hE44 fun a45 hE46=>?_
 refine qal (qao hE46 (t:=22) (A:=A) (m:=s.length) (q:=1) (d:=32) kz (e:=5) (size:=1) (bytes:=1) (j:=1) kz hA36 rfl (by omega) fun a47 hE48=>?_)
 refine qal (qat hE48 (t:=5) (b:=b34) (o:=o35 + 1 * 1) (d:=33) kz (cs:=[.int .u8 ((s.getD 1 0).toNat:Int)]) (v:=.int .u8 ((s.getD 1 0).toNat:Int)) kz (AtF.move hat38 hW.step nilM qaF).at_ fun a49 hE50=>?_)
 refine qam [3,4] [] [(0,.v (.slice A s.length c)),(4,.v (.int .u32 (IntKind.u32.wrap (BitVec.ofInt 32 (IntKind.u32.wrap (IntKind.u8.wrap (BitVec.ofInt 8 ((s.getD 0 0).toNat:Int) &&& BitVec.ofInt 8 127).toNat)) ||| BitVec.ofInt 32 (IntKind.u32.wrap ((IntKind.u32.wrap (IntKind.u8.wrap (BitVec.ofInt 8 ((s.getD 1 0).toNat:Int) &&& BitVec.ofInt 8 127).toNat)) * 128))).toNat))),(5,.v (.int .i64 0)),(35,.v (.bool ((IntKind.u8.wrap (BitVec.ofInt 8 ((s.getD 1 0).toNat:Int) &&& BitVec.ofInt 8 128).toNat) == 0)))] hW hE50 fun a51 hE52=>?_
 refine qag (qab ?_)
 refine qan hE52 (b:=(IntKind.u8.wrap (BitVec.ofInt 8 ((s.getD 1 0).toNat:Int) &&& BitVec.ofInt 8 128).toNat) == 0) kz ((qbn _ (qa9 s 1)).trans (decide_eq_false (by have:=g1; unfold oc at this; omega))) ?_
 refine qau [(0,.v (.slice A s.length c)),(4,.v (.int .u32 (IntKind.u32.wrap (BitVec.ofInt 32 (IntKind.u32.wrap (IntKind.u8.wrap (BitVec.ofInt 8 ((s.getD 0 0).toNat:Int) &&& BitVec.ofInt 8 127).toNat)) ||| BitVec.ofInt 32 (IntKind.u32.wrap ((IntKind.u32.wrap (IntKind.u8.wrap (BitVec.ofInt 8 ((s.getD 1 0).toNat:Int) &&& BitVec.ofInt 8 127).toNat)) * 128))).toNat))),(5,.v (.int .i64 0)),(39,.v (.bool (decide (((s.length:Nat):Int) < 3))))] hW hE52 fun a53 hE54=>?_
 refine qan hE54 (b:=decide (((s.length:Nat):Int) < 3)) kz (decide_eq_false (by omega)) ?_
 refine wp_skip ?_
 refine qab ?_
 refine qae [0,1,2,3,4,5,6,7,8] kz ?_
 refine qam [0,1] [2,3,4,5,6,7,8] [(0,.v (.slice A s.length c)),(5,.v (.int .i64 0)),(40,.v (.int .u32 (IntKind.u32.wrap (BitVec.ofInt 32 (IntKind.u32.wrap (IntKind.u8.wrap (BitVec.ofInt 8 ((s.getD 0 0).toNat:Int) &&& BitVec.ofInt 8 127).toNat)) ||| BitVec.ofInt 32 (IntKind.u32.wrap ((IntKind.u32.wrap (IntKind.u8.wrap (BitVec.ofInt 8 ((s.getD 1 0).toNat:Int) &&& BitVec.ofInt 8 127).toNat)) * 128))).toNat))),(41,.v (.slice A s.length c))] hW hE54 fun a55 hE56=>?_
 obtain ⟨b57,o58,hA59,hl60,hat61⟩:=Slots.get ho (i:=2) (by omega)
 refine qal (qao hE56 (t:=22) (A:=A) (m:=s.length) (q:=2) (d:=42) kz (e:=5) (size:=1) (bytes:=1) (j:=2) kz hA59 rfl (by omega) fun a62 hE63=>?_)
 refine qal (qat hE63 (t:=5) (b:=b57) (o:=o58 + 2 * 1) (d:=43) kz (cs:=[.int .u8 ((s.getD 2 0).toNat:Int)]) (v:=.int .u8 ((s.getD 2 0).toNat:Int)) kz (AtF.move hat61 hW.step nilM qaF).at_ fun a64 hE65=>?_)
 refine qam [4,5,6,7,8] [] [(0,.v (.slice A s.length c)),(4,.v (.int .u32 (IntKind.u32.wrap (BitVec.ofInt 32 (IntKind.u32.wrap (BitVec.ofInt 32 (IntKind.u32.wrap (IntKind.u8.wrap (BitVec.ofInt 8 ((s.getD 0 0).toNat:Int) &&& BitVec.ofInt 8 127).toNat)) ||| BitVec.ofInt 32 (IntKind.u32.wrap ((IntKind.u32.wrap (IntKind.u8.wrap (BitVec.ofInt 8 ((s.getD 1 0).toNat:Int) &&& BitVec.ofInt 8 127).toNat)) * 128))).toNat) ||| BitVec.ofInt 32 (IntKind.u32.wrap ((IntKind.u32.wrap (IntKind.u8.wrap (BitVec.ofInt 8 ((s.getD 2 0).toNat:Int) &&& BitVec.ofInt 8 127).toNat)) * 16384))).toNat))),(5,.v (.int .i64 0))] hW hE65 fun a66 hE67=>?_
 refine qag (qab ?_)
 refine wp_seq ?_
 refine qae [0,1,2,3,4] kz ?_
 refine qam [0] [1,2,3,4] [(0,.v (.slice A s.length c)),(4,.v (.int .u32 (IntKind.u32.wrap (BitVec.ofInt 32 (IntKind.u32.wrap (BitVec.ofInt 32 (IntKind.u32.wrap (IntKind.u8.wrap (BitVec.ofInt 8 ((s.getD 0 0).toNat:Int) &&& BitVec.ofInt 8 127).toNat)) ||| BitVec.ofInt 32 (IntKind.u32.wrap ((IntKind.u32.wrap (IntKind.u8.wrap (BitVec.ofInt 8 ((s.getD 1 0).toNat:Int) &&& BitVec.ofInt 8 127).toNat)) * 128))).toNat) ||| BitVec.ofInt 32 (IntKind.u32.wrap ((IntKind.u32.wrap (IntKind.u8.wrap (BitVec.ofInt 8 ((s.getD 2 0).toNat:Int) &&& BitVec.ofInt 8 127).toNat)) * 16384))).toNat))),(5,.v (.int .i64 0)),(48,.v (.slice A s.length c))] hW hE67 fun a68 hE69=>?_
 refine qal (qao hE69 (t:=22) (A:=A) (m:=s.length) (q:=2) (d:=49) kz (e:=5) (size:=1) (bytes:=1) (j:=2) kz hA59 rfl (by omega) fun a70 hE71=>?_)
 refine qal (qat hE71 (t:=5) (b:=b57) (o:=o58 + 2 * 1) (d:=50) kz (cs:=[.int .u8 ((s.getD 2 0).toNat:Int)]) (v:=.int .u8 ((s.getD 2 0).toNat:Int)) kz (AtF.move hat61 hW.step nilM qaF).at_ fun a72 hE73=>?_)
 refine qam [3,4] [] [(0,.v (.slice A s.length c)),(4,.v (.int .u32 (IntKind.u32.wrap (BitVec.ofInt 32 (IntKind.u32.wrap (BitVec.ofInt 32 (IntKind.u32.wrap (IntKind.u8.wrap (BitVec.ofInt 8 ((s.getD 0 0).toNat:Int) &&& BitVec.ofInt 8 127).toNat)) ||| BitVec.ofInt 32 (IntKind.u32.wrap ((IntKind.u32.wrap (IntKind.u8.wrap (BitVec.ofInt 8 ((s.getD 1 0).toNat:Int) &&& BitVec.ofInt 8 127).toNat)) * 128))).toNat) ||| BitVec.ofInt 32 (IntKind.u32.wrap ((IntKind.u32.wrap (IntKind.u8.wrap (BitVec.ofInt 8 ((s.getD 2 0).toNat:Int) &&& BitVec.ofInt 8 127).toNat)) * 16384))).toNat))),(5,.v (.int .i64 0)),(52,.v (.bool ((IntKind.u8.wrap (BitVec.ofInt 8 ((s.getD 2 0).toNat:Int) &&& BitVec.ofInt 8 128).toNat) == 0)))] hW hE73 fun a74 hE75=>?_
 refine qag (qab ?_)
 refine qan hE75 (b:=(IntKind.u8.wrap (BitVec.ofInt 8 ((s.getD 2 0).toNat:Int) &&& BitVec.ofInt 8 128).toNat) == 0) kz ((qbn _ (qa9 s 2)).trans (decide_eq_false (by have:=g2; unfold oc at this; omega))) ?_
 refine qau [(0,.v (.slice A s.length c)),(4,.v (.int .u32 (IntKind.u32.wrap (BitVec.ofInt 32 (IntKind.u32.wrap (BitVec.ofInt 32 (IntKind.u32.wrap (IntKind.u8.wrap (BitVec.ofInt 8 ((s.getD 0 0).toNat:Int) &&& BitVec.ofInt 8 127).toNat)) ||| BitVec.ofInt 32 (IntKind.u32.wrap ((IntKind.u32.wrap (IntKind.u8.wrap (BitVec.ofInt 8 ((s.getD 1 0).toNat:Int) &&& BitVec.ofInt 8 127).toNat)) * 128))).toNat) ||| BitVec.ofInt 32 (IntKind.u32.wrap ((IntKind.u32.wrap (IntKind.u8.wrap (BitVec.ofInt 8 ((s.getD 2 0).toNat:Int) &&& BitVec.ofInt 8 127).toNat)) * 16384))).toNat))),(5,.v (.int .i64 0)),(56,.v (.bool (decide (((s.length:Nat):Int) < 4))))] hW hE75 fun a76 hE77=>?_
 refine qan hE77 (b:=decide (((s.length:Nat):Int) < 4)) kz (decide_eq_false (by omega)) ?_
 refine wp_skip ?_
 refine qab ?_
 refine qae [0,1,2,3,4,5,6,7,8] kz ?_
 refine qam [0,1] [2,3,4,5,6,7,8] [(0,.v (.slice A s.length c)),(5,.v (.int .i64 0)),(57,.v (.int .u32 (IntKind.u32.wrap (BitVec.ofInt 32 (IntKind.u32.wrap (BitVec.ofInt 32 (IntKind.u32.wrap (IntKind.u8.wrap (BitVec.ofInt 8 ((s.getD 0 0).toNat:Int) &&& BitVec.ofInt 8 127).toNat)) ||| BitVec.ofInt 32 (IntKind.u32.wrap ((IntKind.u32.wrap (IntKind.u8.wrap (BitVec.ofInt 8 ((s.getD 1 0).toNat:Int) &&& BitVec.ofInt 8 127).toNat)) * 128))).toNat) ||| BitVec.ofInt 32 (IntKind.u32.wrap ((IntKind.u32.wrap (IntKind.u8.wrap (BitVec.ofInt 8 ((s.getD 2 0).toNat:Int) &&& BitVec.ofInt 8 127).toNat)) * 16384))).toNat))),(58,.v (.slice A s.length c))] hW hE77 fun a78 hE79=>?_
 obtain ⟨b80,o81,hA82,hl83,hat84⟩:=Slots.get ho (i:=3) (by omega)
 refine qal (qao hE79 (t:=22) (A:=A) (m:=s.length) (q:=3) (d:=59) kz (e:=5) (size:=1) (bytes:=1) (j:=3) kz hA82 rfl (by omega) fun a85 hE86=>?_)
 refine qal (qat hE86 (t:=5) (b:=b80) (o:=o81 + 3 * 1) (d:=60) kz (cs:=[.int .u8 ((s.getD 3 0).toNat:Int)]) (v:=.int .u8 ((s.getD 3 0).toNat:Int)) kz (AtF.move hat84 hW.step nilM qaF).at_ fun a87 hE88=>?_)
 refine qam [4,5,6,7,8] [] [(0,.v (.slice A s.length c)),(4,.v (.int .u32 (IntKind.u32.wrap (BitVec.ofInt 32 (IntKind.u32.wrap (BitVec.ofInt 32 (IntKind.u32.wrap (BitVec.ofInt 32 (IntKind.u32.wrap (IntKind.u8.wrap (BitVec.ofInt 8 ((s.getD 0 0).toNat:Int) &&& BitVec.ofInt 8 127).toNat)) ||| BitVec.ofInt 32 (IntKind.u32.wrap ((IntKind.u32.wrap (IntKind.u8.wrap (BitVec.ofInt 8 ((s.getD 1 0).toNat:Int) &&& BitVec.ofInt 8 127).toNat)) * 128))).toNat) ||| BitVec.ofInt 32 (IntKind.u32.wrap ((IntKind.u32.wrap (IntKind.u8.wrap (BitVec.ofInt 8 ((s.getD 2 0).toNat:Int) &&& BitVec.ofInt 8 127).toNat)) * 16384))).toNat) ||| BitVec.ofInt 32 (IntKind.u32.wrap ((IntKind.u32.wrap (IntKind.u8.wrap (BitVec.ofInt 8 ((s.getD 3 0).toNat:Int) &&& BitVec.ofInt 8 127).toNat)) * 2097152))).toNat))),(5,.v (.int .i64 0))] hW hE88 fun a89 hE90=>?_
 refine qag (qab ?_)
 refine wp_seq ?_
 refine qae [0,1,2,3,4] kz ?_
 refine qam [0] [1,2,3,4] [(0,.v (.slice A s.length c)),(4,.v (.int .u32 (IntKind.u32.wrap (BitVec.ofInt 32 (IntKind.u32.wrap (BitVec.ofInt 32 (IntKind.u32.wrap (BitVec.ofInt 32 (IntKind.u32.wrap (IntKind.u8.wrap (BitVec.ofInt 8 ((s.getD 0 0).toNat:Int) &&& BitVec.ofInt 8 127).toNat)) ||| BitVec.ofInt 32 (IntKind.u32.wrap ((IntKind.u32.wrap (IntKind.u8.wrap (BitVec.ofInt 8 ((s.getD 1 0).toNat:Int) &&& BitVec.ofInt 8 127).toNat)) * 128))).toNat) ||| BitVec.ofInt 32 (IntKind.u32.wrap ((IntKind.u32.wrap (IntKind.u8.wrap (BitVec.ofInt 8 ((s.getD 2 0).toNat:Int) &&& BitVec.ofInt 8 127).toNat)) * 16384))).toNat) ||| BitVec.ofInt 32 (IntKind.u32.wrap ((IntKind.u32.wrap (IntKind.u8.wrap (BitVec.ofInt 8 ((s.getD 3 0).toNat:Int) &&& BitVec.ofInt 8 127).toNat)) * 2097152))).toNat))),(5,.v (.int .i64 0)),(65,.v (.slice A s.length c))] hW hE90 fun a91 hE92=>?_
 refine qal (qao hE92 (t:=22) (A:=A) (m:=s.length) (q:=3) (d:=66) kz (e:=5) (size:=1) (bytes:=1) (j:=3) kz hA82 rfl (by omega) fun a93 hE94=>?_)
 refine qal (qat hE94 (t:=5) (b:=b80) (o:=o81 + 3 * 1) (d:=67) kz (cs:=[.int .u8 ((s.getD 3 0).toNat:Int)]) (v:=.int .u8 ((s.getD 3 0).toNat:Int)) kz (AtF.move hat84 hW.step nilM qaF).at_ fun a95 hE96=>?_)
 refine qam [3,4] [] [(0,.v (.slice A s.length c)),(4,.v (.int .u32 (IntKind.u32.wrap (BitVec.ofInt 32 (IntKind.u32.wrap (BitVec.ofInt 32 (IntKind.u32.wrap (BitVec.ofInt 32 (IntKind.u32.wrap (IntKind.u8.wrap (BitVec.ofInt 8 ((s.getD 0 0).toNat:Int) &&& BitVec.ofInt 8 127).toNat)) ||| BitVec.ofInt 32 (IntKind.u32.wrap ((IntKind.u32.wrap (IntKind.u8.wrap (BitVec.ofInt 8 ((s.getD 1 0).toNat:Int) &&& BitVec.ofInt 8 127).toNat)) * 128))).toNat) ||| BitVec.ofInt 32 (IntKind.u32.wrap ((IntKind.u32.wrap (IntKind.u8.wrap (BitVec.ofInt 8 ((s.getD 2 0).toNat:Int) &&& BitVec.ofInt 8 127).toNat)) * 16384))).toNat) ||| BitVec.ofInt 32 (IntKind.u32.wrap ((IntKind.u32.wrap (IntKind.u8.wrap (BitVec.ofInt 8 ((s.getD 3 0).toNat:Int) &&& BitVec.ofInt 8 127).toNat)) * 2097152))).toNat))),(5,.v (.int .i64 0)),(69,.v (.bool ((IntKind.u8.wrap (BitVec.ofInt 8 ((s.getD 3 0).toNat:Int) &&& BitVec.ofInt 8 128).toNat) == 0)))] hW hE96 fun a97 hE98=>?_
 refine qag (qab ?_)
 refine qan hE98 (b:=(IntKind.u8.wrap (BitVec.ofInt 8 ((s.getD 3 0).toNat:Int) &&& BitVec.ofInt 8 128).toNat) == 0) kz ((qbn _ (qa9 s 3)).trans (decide_eq_false (by have:=g3; unfold oc at this; omega))) ?_
 refine qau [(0,.v (.slice A s.length c)),(4,.v (.int .u32 (IntKind.u32.wrap (BitVec.ofInt 32 (IntKind.u32.wrap (BitVec.ofInt 32 (IntKind.u32.wrap (BitVec.ofInt 32 (IntKind.u32.wrap (IntKind.u8.wrap (BitVec.ofInt 8 ((s.getD 0 0).toNat:Int) &&& BitVec.ofInt 8 127).toNat)) ||| BitVec.ofInt 32 (IntKind.u32.wrap ((IntKind.u32.wrap (IntKind.u8.wrap (BitVec.ofInt 8 ((s.getD 1 0).toNat:Int) &&& BitVec.ofInt 8 127).toNat)) * 128))).toNat) ||| BitVec.ofInt 32 (IntKind.u32.wrap ((IntKind.u32.wrap (IntKind.u8.wrap (BitVec.ofInt 8 ((s.getD 2 0).toNat:Int) &&& BitVec.ofInt 8 127).toNat)) * 16384))).toNat) ||| BitVec.ofInt 32 (IntKind.u32.wrap ((IntKind.u32.wrap (IntKind.u8.wrap (BitVec.ofInt 8 ((s.getD 3 0).toNat:Int) &&& BitVec.ofInt 8 127).toNat)) * 2097152))).toNat))),(5,.v (.int .i64 0)),(73,.v (.bool (decide (((s.length:Nat):Int) < 5))))] hW hE98 fun a99 hE100=>?_
 refine qan hE100 (b:=decide (((s.length:Nat):Int) < 5)) kz (decide_eq_false (by omega)) ?_
 refine wp_skip ?_
 refine qab ?_
 refine qae [0,1,2,3,4,5,6,7] kz ?_
 refine qam [0,1] [2,3,4,5,6,7] [(0,.v (.slice A s.length c)),(74,.v (.int .u32 (IntKind.u32.wrap (BitVec.ofInt 32 (IntKind.u32.wrap (BitVec.ofInt 32 (IntKind.u32.wrap (BitVec.ofInt 32 (IntKind.u32.wrap (IntKind.u8.wrap (BitVec.ofInt 8 ((s.getD 0 0).toNat:Int) &&& BitVec.ofInt 8 127).toNat)) ||| BitVec.ofInt 32 (IntKind.u32.wrap ((IntKind.u32.wrap (IntKind.u8.wrap (BitVec.ofInt 8 ((s.getD 1 0).toNat:Int) &&& BitVec.ofInt 8 127).toNat)) * 128))).toNat) ||| BitVec.ofInt 32 (IntKind.u32.wrap ((IntKind.u32.wrap (IntKind.u8.wrap (BitVec.ofInt 8 ((s.getD 2 0).toNat:Int) &&& BitVec.ofInt 8 127).toNat)) * 16384))).toNat) ||| BitVec.ofInt 32 (IntKind.u32.wrap ((IntKind.u32.wrap (IntKind.u8.wrap (BitVec.ofInt 8 ((s.getD 3 0).toNat:Int) &&& BitVec.ofInt 8 127).toNat)) * 2097152))).toNat))),(75,.v (.slice A s.length c))] hW hE100 fun a101 hE102=>?_
 obtain ⟨b103,o104,hA105,hl106,hat107⟩:=Slots.get ho (i:=4) (by omega)
 refine qal (qao hE102 (t:=22) (A:=A) (m:=s.length) (q:=4) (d:=76) kz (e:=5) (size:=1) (bytes:=1) (j:=4) kz hA105 rfl (by omega) fun a108 hE109=>?_)
 refine qal (qat hE109 (t:=5) (b:=b103) (o:=o104 + 4 * 1) (d:=77) kz (cs:=[.int .u8 ((s.getD 4 0).toNat:Int)]) (v:=.int .u8 ((s.getD 4 0).toNat:Int)) kz (AtF.move hat107 hW.step nilM qaF).at_ fun a110 hE111=>?_)
 refine qam [4,5,6,7] [] [(0,.v (.slice A s.length c)),(4,.v (.int .u32 (IntKind.u32.wrap (BitVec.ofInt 32 (IntKind.u32.wrap (BitVec.ofInt 32 (IntKind.u32.wrap (BitVec.ofInt 32 (IntKind.u32.wrap (BitVec.ofInt 32 (IntKind.u32.wrap (IntKind.u8.wrap (BitVec.ofInt 8 ((s.getD 0 0).toNat:Int) &&& BitVec.ofInt 8 127).toNat)) ||| BitVec.ofInt 32 (IntKind.u32.wrap ((IntKind.u32.wrap (IntKind.u8.wrap (BitVec.ofInt 8 ((s.getD 1 0).toNat:Int) &&& BitVec.ofInt 8 127).toNat)) * 128))).toNat) ||| BitVec.ofInt 32 (IntKind.u32.wrap ((IntKind.u32.wrap (IntKind.u8.wrap (BitVec.ofInt 8 ((s.getD 2 0).toNat:Int) &&& BitVec.ofInt 8 127).toNat)) * 16384))).toNat) ||| BitVec.ofInt 32 (IntKind.u32.wrap ((IntKind.u32.wrap (IntKind.u8.wrap (BitVec.ofInt 8 ((s.getD 3 0).toNat:Int) &&& BitVec.ofInt 8 127).toNat)) * 2097152))).toNat) ||| BitVec.ofInt 32 (IntKind.u32.wrap ((IntKind.u32.wrap ((s.getD 4 0).toNat:Int)) * 268435456))).toNat)))] hW hE111 fun a112 hE113=>?_
 refine qag (qab ?_)
 refine wp_seq ?_
 refine qae [0,1,2,3] kz ?_
 refine qam [0] [1,2,3] [(4,.v (.int .u32 (IntKind.u32.wrap (BitVec.ofInt 32 (IntKind.u32.wrap (BitVec.ofInt 32 (IntKind.u32.wrap (BitVec.ofInt 32 (IntKind.u32.wrap (BitVec.ofInt 32 (IntKind.u32.wrap (IntKind.u8.wrap (BitVec.ofInt 8 ((s.getD 0 0).toNat:Int) &&& BitVec.ofInt 8 127).toNat)) ||| BitVec.ofInt 32 (IntKind.u32.wrap ((IntKind.u32.wrap (IntKind.u8.wrap (BitVec.ofInt 8 ((s.getD 1 0).toNat:Int) &&& BitVec.ofInt 8 127).toNat)) * 128))).toNat) ||| BitVec.ofInt 32 (IntKind.u32.wrap ((IntKind.u32.wrap (IntKind.u8.wrap (BitVec.ofInt 8 ((s.getD 2 0).toNat:Int) &&& BitVec.ofInt 8 127).toNat)) * 16384))).toNat) ||| BitVec.ofInt 32 (IntKind.u32.wrap ((IntKind.u32.wrap (IntKind.u8.wrap (BitVec.ofInt 8 ((s.getD 3 0).toNat:Int) &&& BitVec.ofInt 8 127).toNat)) * 2097152))).toNat) ||| BitVec.ofInt 32 (IntKind.u32.wrap ((IntKind.u32.wrap ((s.getD 4 0).toNat:Int)) * 268435456))).toNat))),(81,.v (.slice A s.length c))] hW hE113 fun a114 hE115=>?_
 refine qal (qao hE115 (t:=22) (A:=A) (m:=s.length) (q:=4) (d:=82) kz (e:=5) (size:=1) (bytes:=1) (j:=4) kz hA105 rfl (by omega) fun a116 hE117=>?_)
 refine qal (qat hE117 (t:=5) (b:=b103) (o:=o104 + 4 * 1) (d:=83) kz (cs:=[.int .u8 ((s.getD 4 0).toNat:Int)]) (v:=.int .u8 ((s.getD 4 0).toNat:Int)) kz (AtF.move hat107 hW.step nilM qaF).at_ fun a118 hE119=>?_)
 refine qam [3] [] [(4,.v (.int .u32 (IntKind.u32.wrap (BitVec.ofInt 32 (IntKind.u32.wrap (BitVec.ofInt 32 (IntKind.u32.wrap (BitVec.ofInt 32 (IntKind.u32.wrap (BitVec.ofInt 32 (IntKind.u32.wrap (IntKind.u8.wrap (BitVec.ofInt 8 ((s.getD 0 0).toNat:Int) &&& BitVec.ofInt 8 127).toNat)) ||| BitVec.ofInt 32 (IntKind.u32.wrap ((IntKind.u32.wrap (IntKind.u8.wrap (BitVec.ofInt 8 ((s.getD 1 0).toNat:Int) &&& BitVec.ofInt 8 127).toNat)) * 128))).toNat) ||| BitVec.ofInt 32 (IntKind.u32.wrap ((IntKind.u32.wrap (IntKind.u8.wrap (BitVec.ofInt 8 ((s.getD 2 0).toNat:Int) &&& BitVec.ofInt 8 127).toNat)) * 16384))).toNat) ||| BitVec.ofInt 32 (IntKind.u32.wrap ((IntKind.u32.wrap (IntKind.u8.wrap (BitVec.ofInt 8 ((s.getD 3 0).toNat:Int) &&& BitVec.ofInt 8 127).toNat)) * 2097152))).toNat) ||| BitVec.ofInt 32 (IntKind.u32.wrap ((IntKind.u32.wrap ((s.getD 4 0).toNat:Int)) * 268435456))).toNat))),(84,.v (.bool (decide (((s.getD 4 0).toNat:Int) ≤ 15))))] hW hE119 fun a120 hE121=>?_
 refine qag (qab ?_)
 refine qan hE121 (b:=decide (((s.getD 4 0).toNat:Int) ≤ 15)) kz (decide_eq_false (by have:=g4; unfold oc at this; omega)) ?_
 refine wp_skip ?_
 refine qab ?_
 refine qau [(5,.v (.int .i64 (-5)))] hW hE121 fun a122 hE123=>?_
 refine wp_seq ?_
 refine wp_label ?_
 refine qab ?_
 refine qau [(2,.v (.int .u32 0)),(3,.v (.int .i64 (-5)))] hW hE123 fun a124 hE125=>?_
 refine wp_ret ?_
 refine qcs ?_
 refine qaZ hE125 hW.cells (v:=.tuple #[.int .u32 0,.int .i64 (-5)]) kz ?_
 exact ⟨rfl,hW.step⟩
theorem uUvF (s:Bs) {A:Option Addr} {c:Nat} {w:World} {F:Nat → Nat → Prop} (ho:Octs w F A c s):Calls Tryd.prog 118 #[.slice A s.length c] w (qcb w (.tuple #[.int .u32 (((uvG s).1:Nat):Int),.int .i64 (uvG s).2])):=by
 unfold uvG
 by_cases l0:s.length < 1
 ·simp only [if_pos l0]; exact qhO s ho (by omega)
 simp only [if_neg l0]
 by_cases h0:oc s 0 < 128
 ·simp only [if_pos h0]; exact rUv1 s ho (by omega) (oc s 0) rfl h0
 simp only [if_neg h0]
 by_cases l1:s.length < 2
 ·simp only [if_pos l1]; exact qhP s ho (by omega) (by omega)
 simp only [if_neg l1]
 by_cases h1:oc s 1 < 128
 ·simp only [if_pos h1]; exact rUv2 s ho (by omega) (oc s 0 - 128) (oc s 1) (by omega) rfl (by have:=qa9 s 0; omega) h1
 simp only [if_neg h1]
 by_cases l2:s.length < 3
 ·simp only [if_pos l2]; exact qhQ s ho (by omega) (by omega) (by omega)
 simp only [if_neg l2]
 by_cases h2:oc s 2 < 128
 ·simp only [if_pos h2]; exact rUv3 s ho (by omega) (oc s 0 - 128) (oc s 1 - 128) (oc s 2) (by omega) (by omega) rfl (by have:=qa9 s 0; omega) (by have:=qa9 s 1; omega) h2
 simp only [if_neg h2]
 by_cases l3:s.length < 4
 ·simp only [if_pos l3]; exact qhR s ho (by omega) (by omega) (by omega) (by omega)
 simp only [if_neg l3]
 by_cases h3:oc s 3 < 128
 ·simp only [if_pos h3]; exact rUv4 s ho (by omega) (oc s 0 - 128) (oc s 1 - 128) (oc s 2 - 128) (oc s 3) (by omega) (by omega) (by omega) rfl (by have:=qa9 s 0; omega) (by have:=qa9 s 1; omega) (by have:=qa9 s 2; omega) h3
 simp only [if_neg h3]
 by_cases l4:s.length < 5
 ·simp only [if_pos l4]; exact qhS s ho (by omega) (by omega) (by omega) (by omega) (by omega)
 simp only [if_neg l4]
 by_cases h4:oc s 4 < 16
 ·simp only [if_pos h4]; exact rUv5 s ho (by omega) (oc s 0 - 128) (oc s 1 - 128) (oc s 2 - 128) (oc s 3 - 128) (oc s 4) (by omega) (by omega) (by omega) (by omega) rfl (by have:=qa9 s 0; omega) (by have:=qa9 s 1; omega) (by have:=qa9 s 2; omega) (by have:=qa9 s 3; omega) h4
 simp only [if_neg h4]
 exact qhT s ho (by omega) (by omega) (by omega) (by omega) (by omega) (by omega)
theorem qeI (bd:Bool) (s:Bs) (hp:0 < (uvG s).2) {br:Nat} {A:Option Addr} {m c:Nat} {w:World} {F:Nat → Nat → Prop} (hst:Str w br [.slice A m c,.bool bd]) (hr:RdS w F A m c s) (hFd:∀ b o,F b o → ¬ RdM br b o) :
  Calls Tryd.prog 110 #[.pointer (some ⟨br,0,none⟩)] w (RdPostT w br F (bd,s.drop ((uvG s).2.toNat)) fun v w'=>v = .int .u32 (((uvG s).1:Nat):Int)):=by
 obtain ⟨hm,ho⟩:=hr
 subst hm
 have hle:=ho.le
 have hsm:=ho.small
 refine enter (n:=31) Tryd.func110 rfl Tryd.ntmps110 kz fun a hE=>?_
 have hW:WOk w (RdM br) w [⟨br,0,[.slice A s.length c,.bool bd],true⟩] []:=WOk.startStr hst
 have hE1:=(hE.grow ⟨br,0,[.slice A s.length c,.bool bd],true⟩).recast 0 (.v (.pointer (some ⟨br,0,none⟩))) (.p 0 0) rfl rfl (Nat.le_of_ble_eq_true (n:=1) rfl)
 refine qau [(0,.p 0 0)] hW hE1 fun a1 hE2=>?_
 refine qae [0,1,2,3,4,5,6,7,8,9] kz ?_
 refine qam [0,1,2,3] [4,5,6,7,8,9] [(0,.p 0 0),(9,.v (.slice A s.length c))] hW hE2 fun a3 hE4=>?_
 refine qal (qaw hE4 (f:=118) (vs:=[.slice A s.length c]) (d:=10) kz Tryd.call118 (uUvF s (ho.move hW.step (fun b_ o_ h_ _=>hFd b_ o_ h_) (hW.immM hFd))) ?_)
 rintro e_ w6 ⟨rfl,hs5⟩
 refine ⟨_,rfl,fun a7 hE8=>?_⟩
 have hW9:=hW.next_nil hs5
 have hF10:=hW.frN hs5
 refine qam [5,6,7,8,9] [] [(0,.p 0 0),(3,.v (.int .u32 (((uvG s).1:Nat):Int))),(4,.v (.int .i64 ((uvG s).2)))] hW9 hE8 fun a11 hE12=>?_
 refine qag (qab ?_)
 refine wp_seq ?_
 refine qau [(0,.p 0 0),(3,.v (.int .u32 (((uvG s).1:Nat):Int))),(4,.v (.int .i64 ((uvG s).2))),(14,.v (.bool (decide (((uvG s).2) ≤ 0))))] hW9 hE12 fun a13 hE14=>?_
 refine qan hE14 (b:=decide (((uvG s).2) ≤ 0)) kz (decide_eq_false (by omega)) ?_
 refine wp_skip ?_
 refine qab ?_
 refine qae [0,1,2,3,4,5,6,7,8,9] kz ?_
 refine qam [0,1,2,3,4,5] [6,7,8,9] [(3,.v (.int .u32 (((uvG s).1:Nat):Int))),(21,.p 0 0),(25,.v (.slice A s.length c)),(26,.v (.int .i64 ((uvG s).2)))] hW9 hE14 fun a15 hE16=>?_
 refine qal (qci hE16 (t:=22) (A:=A) (m:=s.length) (cp:=c) (q:=((uvG s).2)) (d:=27) (j:=((uvG s).2.toNat)) kz (e:=5) (bytes:=1) kz (by omega) (by have:=(qea s).1; omega) fun a17 hE18=>?_)
 refine qam [7,8] [9] [(3,.v (.int .u32 (((uvG s).1:Nat):Int))),(27,.v (.slice (cutA A c ((uvG s).2.toNat)) (s.length - ((uvG s).2.toNat)) (c - ((uvG s).2.toNat)))),(29,.p 0 0)] hW9 hE18 fun a19 hE20=>?_
 refine qal (qaq hW9 hE20 (oi:=0) (cs:=[.slice (cutA A c ((uvG s).2.toNat)) (s.length - ((uvG s).2.toNat)) (c - ((uvG s).2.toNat)),.bool bd]) kz fun w21 hF22 hW23 hE24=>?_)
 refine qag (qab ?_)
 refine qau [(2,.v (.int .u32 (((uvG s).1:Nat):Int)))] hW23 hE24 fun a25 hE26=>?_
 refine wp_ret ?_
 refine qaZ hE26 hW23.cells (v:=.int .u32 (((uvG s).1:Nat):Int)) kz ?_
 exact ⟨_,_,_,_,rfl,Str.of hW23 0 rfl,RdS.dropT (j:=(uvG s).2.toNat) ⟨rfl,ho.move hW23.step (fun b_ o_ h_ _=>hFd b_ o_ h_) qaF⟩ (by have:=(qea s).1; omega),hW23.step,rfl⟩
theorem qeJ (bd:Bool) (s:Bs) (hp:(uvG s).2 ≤ 0) {br:Nat} {A:Option Addr} {m c:Nat} {w:World} {F:Nat → Nat → Prop} (hst:Str w br [.slice A m c,.bool bd]) (hr:RdS w F A m c s) (hFd:∀ b o,F b o → ¬ RdM br b o) :
  Calls Tryd.prog 110 #[.pointer (some ⟨br,0,none⟩)] w (RdPostT w br F (true,[]) fun v w'=>v = .int .u32 0):=by
 obtain ⟨hm,ho⟩:=hr
 subst hm
 have hle:=ho.le
 have hsm:=ho.small
 refine enter (n:=31) Tryd.func110 rfl Tryd.ntmps110 kz fun a hE=>?_
 have hW:WOk w (RdM br) w [⟨br,0,[.slice A s.length c,.bool bd],true⟩] []:=WOk.startStr hst
 have hE1:=(hE.grow ⟨br,0,[.slice A s.length c,.bool bd],true⟩).recast 0 (.v (.pointer (some ⟨br,0,none⟩))) (.p 0 0) rfl rfl (Nat.le_of_ble_eq_true (n:=1) rfl)
 refine qau [(0,.p 0 0)] hW hE1 fun a1 hE2=>?_
 refine qae [0,1,2,3,4,5,6,7,8,9] kz ?_
 refine qam [0,1,2,3] [4,5,6,7,8,9] [(0,.p 0 0),(9,.v (.slice A s.length c))] hW hE2 fun a3 hE4=>?_
 refine qal (qaw hE4 (f:=118) (vs:=[.slice A s.length c]) (d:=10) kz Tryd.call118 (uUvF s (ho.move hW.step (fun b_ o_ h_ _=>hFd b_ o_ h_) (hW.immM hFd))) ?_)
 rintro e_ w6 ⟨rfl,hs5⟩
 refine ⟨_,rfl,fun a7 hE8=>?_⟩
 have hW9:=hW.next_nil hs5
 have hF10:=hW.frN hs5
 refine qam [5,6,7,8,9] [] [(0,.p 0 0),(3,.v (.int .u32 (((uvG s).1:Nat):Int))),(4,.v (.int .i64 ((uvG s).2)))] hW9 hE8 fun a11 hE12=>?_
 refine qag (qab ?_)
 refine wp_seq ?_
 refine qau [(0,.p 0 0),(3,.v (.int .u32 (((uvG s).1:Nat):Int))),(4,.v (.int .i64 ((uvG s).2))),(14,.v (.bool (decide (((uvG s).2) ≤ 0))))] hW9 hE12 fun a13 hE14=>?_
 refine qaV hE14 (b:=decide (((uvG s).2) ≤ 0)) kz (decide_eq_true (by omega)) ?_
 refine qae [0,1,2,3] kz ?_
 refine qam [0,1,2] [3] [(0,.p 0 0),(17,.p 0 1)] hW9 hE14 fun a15 hE16=>?_
 refine qal (qaq hW9 hE16 (oi:=0) (cs:=[.slice A s.length c,.bool true]) kz fun w17 hF18 hW19 hE20=>?_)
 refine qag (qab ?_)
 refine qae [0,1,2,3] kz ?_
 refine qam [0,1,2] [3] [(20,.p 0 0)] hW19 hE20 fun a21 hE22=>?_
 refine qal (qaq hW19 hE22 (oi:=0) (cs:=[.slice none 0 0,.bool true]) kz fun w23 hF24 hW25 hE26=>?_)
 refine qag (qab ?_)
 refine qau [(2,.v (.int .u32 0))] hW25 hE26 fun a27 hE28=>?_
 refine wp_ret ?_
 refine qa2 ?_
 refine qaZ hE28 hW25.cells (v:=.int .u32 0) kz ?_
 exact ⟨_,_,_,_,rfl,Str.of hW25 0 rfl,RdS.nil_ _ _,hW25.step,rfl⟩
theorem qc9 (σ:Sg) {br:Nat} {A:Option Addr} {m c:Nat} {w:World} {F:Nat → Nat → Prop} (hst:Str w br [.slice A m c,.bool σ.1]) (hr:RdS w F A m c σ.2) (hF:∀ b o,F b o → ¬ RdM br b o):Calls Tryd.prog 110 #[.pointer (some ⟨br,0,none⟩)] w (RdPostT w br F (aUv σ) fun v w'=>v = .int .u32 ((uUv σ:Nat):Int)):=by
 unfold aUv uUv
 by_cases h:(uvG σ.2).2 ≤ 0
 ·simp only [if_pos h]
  exact qeJ σ.1 σ.2 h hst hr hF
 simp only [if_neg h]
 exact qeI σ.1 σ.2 (by omega) hst hr hF
theorem qdv (σ:Sg):RPrim0U Tryd.prog 110 σ (aUv σ) (.int .u32 ((uUv σ:Nat):Int)):=⟨mn_Uv.len σ,fun hst hr hF=>(qc9 σ hst hr hF).mono fun e w' hp=>hp.fp fun v w' h=>h⟩
theorem qgD (l:Int) (bd:Bool) (s:Bs) (h0:0 ≤ l) (h1:l ≤ (s.length:Int)) {br:Nat} {A:Option Addr} {m c:Nat} {w:World} {F:Nat → Nat → Prop} (hst:Str w br [.slice A m c,.bool bd]) (hr:RdS w F A m c s) (hFd:∀ b o,F b o → ¬ RdM br b o) :
  Calls Tryd.prog 106 #[.pointer (some ⟨br,0,none⟩),.int .i64 l] w (RdPostT w br F (bd,s.drop l.toNat) fun v w'=>∃ A2,v = .slice A2 l.toNat l.toNat ∧ Octs w' F A2 l.toNat (s.take l.toNat)):=by
 obtain ⟨hm,ho⟩:=hr
 subst hm
 have hle:=ho.le
 have hsm:=ho.small
 refine enter (n:=40) Tryd.func106 rfl Tryd.ntmps106 kz fun a hE=>?_
 have hW:WOk w (RdM br) w [⟨br,0,[.slice A s.length c,.bool bd],true⟩] []:=WOk.startStr hst
 have hE1:=(hE.grow ⟨br,0,[.slice A s.length c,.bool bd],true⟩).recast 0 (.v (.pointer (some ⟨br,0,none⟩))) (.p 0 0) rfl rfl (Nat.le_of_ble_eq_true (n:=1) rfl)
 refine qau [(0,.p 0 0),(1,.v (.int .i64 l))] hW hE1 fun a1 hE2=>?_
 refine wp_seq ?_
 refine qae [0,1,2,3,4,5,6,7,8,9,10] kz ?_
 refine qam [0,1,2,3,4,5,6,7] [8,9,10] [(0,.p 0 0),(1,.v (.int .i64 l)),(13,.v (.bool (decide (((s.length:Nat):Int) < l))))] hW hE2 fun a3 hE4=>?_
 have hc5:(decide (((s.length:Nat):Int) < l)) = false:=decide_eq_false (by omega)
 have hE6:=hE4.cast (env':=[(0,.p 0 0),(1,.v (.int .i64 l)),(13,.v (.bool false))]) (by rw [hc5])
 refine qam [8,9,10] [] [(0,.p 0 0),(1,.v (.int .i64 l)),(16,.v (.bool (decide (l < 0))))] hW hE6 fun a7 hE8=>?_
 refine qag (qab ?_)
 refine qan hE8 (b:=decide (l < 0)) kz (decide_eq_false (by omega)) ?_
 refine wp_skip ?_
 refine qab ?_
 refine qae [0,1,2,3,4,5,6,7] kz ?_
 refine qam [0,1,2,3,4,5] [6,7] [(0,.p 0 0),(1,.v (.int .i64 l)),(26,.v (.slice A s.length c)),(27,.v (.int .i64 l)),(28,.v (.int .i64 l))] hW hE8 fun a9 hE10=>?_
 refine qal (qfM hE10 (t:=22) (A:=A) (m:=s.length) (cp:=c) (k:=.i64) (q:=l) (d:=29) (j:=l.toNat) kz (e:=5) (bytes:=1) kz (by omega) (by omega) fun a11 hE12=>?_)
 refine qam [7] [] [(0,.p 0 0),(1,.v (.int .i64 l)),(5,.v (.slice A l.toNat l.toNat))] hW hE12 fun a13 hE14=>?_
 refine qag (qab ?_)
 refine qae [0,1,2,3,4,5,6,7,8,9] kz ?_
 refine qam [0,1,2,3,4,5] [6,7,8,9] [(5,.v (.slice A l.toNat l.toNat)),(30,.p 0 0),(34,.v (.slice A s.length c)),(35,.v (.int .i64 l))] hW hE14 fun a15 hE16=>?_
 refine qal (qci hE16 (t:=22) (A:=A) (m:=s.length) (cp:=c) (q:=l) (d:=36) (j:=l.toNat) kz (e:=5) (bytes:=1) kz (by omega) (by omega) fun a17 hE18=>?_)
 refine qam [7,8] [9] [(5,.v (.slice A l.toNat l.toNat)),(36,.v (.slice (cutA A c l.toNat) (s.length - l.toNat) (c - l.toNat))),(38,.p 0 0)] hW hE18 fun a19 hE20=>?_
 refine qal (qaq hW hE20 (oi:=0) (cs:=[.slice (cutA A c l.toNat) (s.length - l.toNat) (c - l.toNat),.bool bd]) kz fun w21 hF22 hW23 hE24=>?_)
 refine qag (qab ?_)
 refine qau [(4,.v (.slice A l.toNat l.toNat))] hW23 hE24 fun a25 hE26=>?_
 refine wp_ret ?_
 refine qaZ hE26 hW23.cells (v:=.slice A l.toNat l.toNat) kz ?_
 exact ⟨_,_,_,_,rfl,Str.of hW23 0 rfl,RdS.dropT (j:=l.toNat) ⟨rfl,ho.move hW23.step (fun b_ o_ h_ _=>hFd b_ o_ h_) qaF⟩ (by omega),hW23.step,A,rfl,(ho.move hW23.step (fun b_ o_ h_ _=>hFd b_ o_ h_) qaF).cutS (by omega)⟩
theorem qgE (l:Int) (bd:Bool) (s:Bs) (h1:(s.length:Int) < l) {br:Nat} {A:Option Addr} {m c:Nat} {w:World} {F:Nat → Nat → Prop} (hst:Str w br [.slice A m c,.bool bd]) (hr:RdS w F A m c s) (hFd:∀ b o,F b o → ¬ RdM br b o) :
  Calls Tryd.prog 106 #[.pointer (some ⟨br,0,none⟩),.int .i64 l] w (RdPostT w br F (true,[]) fun v w'=>v = .slice none 0 0):=by
 obtain ⟨hm,ho⟩:=hr
 subst hm
 have hle:=ho.le
 have hsm:=ho.small
 refine enter (n:=40) Tryd.func106 rfl Tryd.ntmps106 kz fun a hE=>?_
 have hW:WOk w (RdM br) w [⟨br,0,[.slice A s.length c,.bool bd],true⟩] []:=WOk.startStr hst
 have hE1:=(hE.grow ⟨br,0,[.slice A s.length c,.bool bd],true⟩).recast 0 (.v (.pointer (some ⟨br,0,none⟩))) (.p 0 0) rfl rfl (Nat.le_of_ble_eq_true (n:=1) rfl)
 refine qau [(0,.p 0 0),(1,.v (.int .i64 l))] hW hE1 fun a1 hE2=>?_
 refine wp_seq ?_
 refine qae [0,1,2,3,4,5,6,7,8,9,10] kz ?_
 refine qam [0,1,2,3,4,5,6,7] [8,9,10] [(0,.p 0 0),(1,.v (.int .i64 l)),(13,.v (.bool (decide (((s.length:Nat):Int) < l))))] hW hE2 fun a3 hE4=>?_
 have hc5:(decide (((s.length:Nat):Int) < l)) = true:=decide_eq_true (by omega)
 have hE6:=hE4.cast (env':=[(0,.p 0 0),(1,.v (.int .i64 l)),(13,.v (.bool true))]) (by rw [hc5])
 refine qam [8,9,10] [] [(0,.p 0 0),(1,.v (.int .i64 l)),(16,.v (.bool true))] hW hE6 fun a7 hE8=>?_
 refine qag (qab ?_)
 refine qaV hE8 (b:=true) kz rfl ?_
 refine qae [0,1,2,3] kz ?_
 refine qam [0,1,2] [3] [(0,.p 0 0),(19,.p 0 1)] hW hE8 fun a9 hE10=>?_
 refine qal (qaq hW hE10 (oi:=0) (cs:=[.slice A s.length c,.bool true]) kz fun w11 hF12 hW13 hE14=>?_)
 refine qag (qab ?_)
 refine qae [0,1,2,3] kz ?_
 refine qam [0,1,2] [3] [(22,.p 0 0)] hW13 hE14 fun a15 hE16=>?_
 refine qal (qaq hW13 hE16 (oi:=0) (cs:=[.slice none 0 0,.bool true]) kz fun w17 hF18 hW19 hE20=>?_)
 refine qag (qab ?_)
 refine qau [(4,.v (.slice none 0 0))] hW19 hE20 fun a21 hE22=>?_
 refine wp_ret ?_
 refine qa2 ?_
 refine qaZ hE22 hW19.cells (v:=.slice none 0 0) kz ?_
 exact ⟨_,_,_,_,rfl,Str.of hW19 0 rfl,RdS.nil_ _ _,hW19.step,rfl⟩
theorem qgF (l:Int) (bd:Bool) (s:Bs) (h0:l < 0) {br:Nat} {A:Option Addr} {m c:Nat} {w:World} {F:Nat → Nat → Prop} (hst:Str w br [.slice A m c,.bool bd]) (hr:RdS w F A m c s) (hFd:∀ b o,F b o → ¬ RdM br b o) :
  Calls Tryd.prog 106 #[.pointer (some ⟨br,0,none⟩),.int .i64 l] w (RdPostT w br F (true,[]) fun v w'=>v = .slice none 0 0):=by
 obtain ⟨hm,ho⟩:=hr
 subst hm
 have hle:=ho.le
 have hsm:=ho.small
 refine enter (n:=40) Tryd.func106 rfl Tryd.ntmps106 kz fun a hE=>?_
 have hW:WOk w (RdM br) w [⟨br,0,[.slice A s.length c,.bool bd],true⟩] []:=WOk.startStr hst
 have hE1:=(hE.grow ⟨br,0,[.slice A s.length c,.bool bd],true⟩).recast 0 (.v (.pointer (some ⟨br,0,none⟩))) (.p 0 0) rfl rfl (Nat.le_of_ble_eq_true (n:=1) rfl)
 refine qau [(0,.p 0 0),(1,.v (.int .i64 l))] hW hE1 fun a1 hE2=>?_
 refine wp_seq ?_
 refine qae [0,1,2,3,4,5,6,7,8,9,10] kz ?_
 refine qam [0,1,2,3,4,5,6,7] [8,9,10] [(0,.p 0 0),(1,.v (.int .i64 l)),(13,.v (.bool (decide (((s.length:Nat):Int) < l))))] hW hE2 fun a3 hE4=>?_
 have hc5:(decide (((s.length:Nat):Int) < l)) = false:=decide_eq_false (by omega)
 have hE6:=hE4.cast (env':=[(0,.p 0 0),(1,.v (.int .i64 l)),(13,.v (.bool false))]) (by rw [hc5])
 refine qam [8,9,10] [] [(0,.p 0 0),(1,.v (.int .i64 l)),(16,.v (.bool (decide (l < 0))))] hW hE6 fun a7 hE8=>?_
 refine qag (qab ?_)
 refine qaV hE8 (b:=decide (l < 0)) kz (decide_eq_true (by omega)) ?_
 refine qae [0,1,2,3] kz ?_
 refine qam [0,1,2] [3] [(0,.p 0 0),(19,.p 0 1)] hW hE8 fun a9 hE10=>?_
 refine qal (qaq hW hE10 (oi:=0) (cs:=[.slice A s.length c,.bool true]) kz fun w11 hF12 hW13 hE14=>?_)
 refine qag (qab ?_)
 refine qae [0,1,2,3] kz ?_
 refine qam [0,1,2] [3] [(22,.p 0 0)] hW13 hE14 fun a15 hE16=>?_
 refine qal (qaq hW13 hE16 (oi:=0) (cs:=[.slice none 0 0,.bool true]) kz fun w17 hF18 hW19 hE20=>?_)
 refine qag (qab ?_)
 refine qau [(4,.v (.slice none 0 0))] hW19 hE20 fun a21 hE22=>?_
 refine wp_ret ?_
 refine qa2 ?_
 refine qaZ hE22 hW19.cells (v:=.slice none 0 0) kz ?_
 exact ⟨_,_,_,_,rfl,Str.of hW19 0 rfl,RdS.nil_ _ _,hW19.step,rfl⟩
theorem qfZ (l:Int) (σ:Sg) {br:Nat} {A:Option Addr} {m c:Nat} {w:World} {F:Nat → Nat → Prop} (hst:Str w br [.slice A m c,.bool σ.1]) (hr:RdS w F A m c σ.2) (hFd:∀ b o,F b o → ¬ RdM br b o) :
  Calls Tryd.prog 106 #[.pointer (some ⟨br,0,none⟩),.int .i64 l] w (RdPostT w br F (aSp l σ) fun v w'=>∃ A2 c2,v = .slice A2 (uSp l σ).length c2 ∧ Octs w' F A2 c2 (uSp l σ)):=by
 unfold aSp uSp
 by_cases h0:l < 0
 ·simp only [if_pos (Or.inr h0:(σ.2.length:Int) < l ∨ l < 0)]
  exact (qgF l σ.1 σ.2 h0 hst hr hFd).mono fun e w' hp=>hp.q fun v w' h=>⟨none,0,h,Octs.nil _ _⟩
 by_cases h1:(σ.2.length:Int) < l
 ·simp only [if_pos (Or.inl h1:(σ.2.length:Int) < l ∨ l < 0)]
  exact (qgE l σ.1 σ.2 h1 hst hr hFd).mono fun e w' hp=>hp.q fun v w' h=>⟨none,0,h,Octs.nil _ _⟩
 simp only [if_neg (fun h=>h.elim h1 h0:¬ ((σ.2.length:Int) < l ∨ l < 0))]
 refine (qgD l σ.1 σ.2 (by omega) (by omega) hst hr hFd).mono fun e w' hp=>hp.q fun v w' h=>?_
 obtain ⟨A2,rfl,h⟩:=h
 exact ⟨A2,l.toNat,by rw [List.length_take,Nat.min_eq_left (by omega)],h⟩
theorem qf0 (X:Bs) {A:Option Addr} {c:Nat} {w:World} {F:Nat → Nat → Prop} (ho:Octs w F A c X):Calls Tryd.prog 105 #[.slice A X.length c] w (qcb w (.string (bs X))):=by
 refine enter (n:=5) Tryd.func105 rfl Tryd.ntmps105 kz fun a hE=>?_
 have hW:=WOk.start w Nil
 refine qau [(0,.v (.slice A X.length c))] hW hE fun a1 hE2=>?_
 refine qae [0,1,2] kz ?_
 refine qam [0] [1,2] [(3,.v (.slice A X.length c))] hW hE2 fun a3 hE4=>?_
 refine qal (qdI hE4 (src:=22) (dst:=9) (e:=5) (d:=4) kz kz kz kz (ho.move hW.step nilM hW.imm) fun a5 hE6=>?_)
 refine qam [2] [] [(2,.v (.string (bs X)))] hW hE6 fun a7 hE8=>?_
 refine qag (qab ?_)
 refine wp_ret ?_
 refine qaZ hE8 hW.cells (v:=.string (bs X)) kz ?_
 exact ⟨rfl,hW.step⟩
theorem qgG (σ:Sg)  {br:Nat} {A:Option Addr} {m c:Nat} {w:World} {F:Nat → Nat → Prop} (hst:Str w br [.slice A m c,.bool σ.1]) (hr:RdS w F A m c σ.2) (hFd:∀ b o,F b o → ¬ RdM br b o) :
  Calls Tryd.prog 79 #[.pointer (some ⟨br,0,none⟩)] w (RdPostT w br (Fp F w) (aStr σ) fun v w'=>v = .string (bs (uStr σ))):=by
 refine enter (n:=11) Tryd.func79 rfl Tryd.ntmps79 kz fun a hE=>?_
 have hW:WOk w (RdM br) w [⟨br,0,[.slice A m c,.bool σ.1],true⟩] []:=WOk.startStr hst
 have hE1:=(hE.grow ⟨br,0,[.slice A m c,.bool σ.1],true⟩).recast 0 (.v (.pointer (some ⟨br,0,none⟩))) (.p 0 0) rfl rfl (Nat.le_of_ble_eq_true (n:=1) rfl)
 refine qau [(0,.p 0 0)] hW hE1 fun a1 hE2=>?_
 refine qae [0,1,2] kz ?_
 refine qam [0] [1,2] [(0,.p 0 0),(4,.p 0 0)] hW hE2 fun a3 hE4=>?_
 refine qal (qaw hE4 (f:=77) (vs:=[.pointer (some ⟨br,0,none⟩)]) (d:=5) kz Tryd.call77 ((qfX σ).go (Str.of hW 0 rfl) (hr.move hW.step (fun b_ o_ h_ _=>hFd b_ o_ h_) (hW.immM hFd)) (qcj 0 rfl)) ?_)
 rintro e_ w5 ⟨_,A6,n7,c8,rfl,hs9,hr10,hst11,rfl⟩
 obtain ⟨hW12,hF13,hl17⟩:=hW.wrote 0 [⟨br,0,[.slice A6 n7 c8,.bool ((aN 2 σ).1)],true⟩] rfl hst11 hs9
 have hr21:=hr10.move (Step.refl _ Nil) nilM hl17
 refine ⟨_,rfl,fun a14 hE15=>?_⟩
 have hE16:EnvOk 11 [⟨br,0,[.slice A6 n7 c8,.bool ((aN 2 σ).1)],true⟩] [(5,.v (.int .i16 (uI16 σ))),(0,.p 0 0),(4,.p 0 0)] _:=hE15.places (⟨rfl,rfl,trivial⟩)
 refine qam [2] [] [(0,.p 0 0),(3,.v (.int .i16 (uI16 σ)))] hW12 hE16 fun a22 hE23=>?_
 refine qag (qab ?_)
 refine qae [0,1,2,3,4,5] kz ?_
 refine qam [0,1,2] [3,4,5] [(6,.p 0 0),(8,.v (.int .i64 (IntKind.i64.wrap (uI16 σ))))] hW12 hE23 fun a24 hE25=>?_
 have he39:IntKind.i64.wrap (uI16 σ) = uI16 σ:=by have:=qcx σ; have:=qeb σ; simp only [i16w,i32w,i64w]; omega
 have hE40:=EnvOk.pick hE25 (ks:=[6,8]) (env':=[(6,.p 0 0),(8,.v (.int .i64 (IntKind.i64.wrap (uI16 σ))))]) kz
 have hE41:=hE40.cast (env':=[(6,.p 0 0),(8,.v (.int .i64 (uI16 σ)))]) (by rw [he39])
 refine qal (qaw hE41 (f:=106) (vs:=[.pointer (some ⟨br,0,none⟩),.int .i64 (uI16 σ)]) (d:=9) kz Tryd.call106 (qfZ (uI16 σ) (aN 2 σ) (Str.of hW12 0 rfl) hr21 (qcj 0 rfl)) ?_)
 rintro e_ w26 ⟨_,A27,n28,c29,rfl,hs30,hr31,hst32,⟨A42,c43,rfl,ho44⟩⟩
 obtain ⟨hW33,hF34,hl38⟩:=hW12.wrote 0 [⟨br,0,[.slice A27 n28 c29,.bool ((aSp (uI16 σ) (aN 2 σ)).1)],true⟩] rfl hst32 hs30
 have hr45:=hr31.move (Step.refl _ Nil) nilM (fun b_ o_ h_ _=>hF34.to b_ o_ h_)
 refine ⟨_,rfl,fun a35 hE36=>?_⟩
 have hE37:EnvOk 11 [⟨br,0,[.slice A27 n28 c29,.bool ((aSp (uI16 σ) (aN 2 σ)).1)],true⟩] [(9,.v (.slice A42 ((uSp (uI16 σ) (aN 2 σ)).length) c43)),(6,.p 0 0),(8,.v (.int .i64 (uI16 σ)))] _:=hE36.places (⟨rfl,rfl,trivial⟩)
 have ho46:=ho44.move (Step.refl _ Nil) nilM (fun b_ o_ h_ _=>hF34.to b_ o_ h_)
 refine qal (qdI hE37 (src:=22) (dst:=9) (e:=5) (d:=10) kz kz kz kz ho46 fun a47 hE48=>?_)
 refine qam [5] [] [(2,.v (.string (bs (uSp (uI16 σ) (aN 2 σ)))))] hW33 hE48 fun a49 hE50=>?_
 refine qag (qab ?_)
 refine wp_ret ?_
 refine qaZ hE50 hW33.cells (v:=.string (bs (uSp (uI16 σ) (aN 2 σ)))) kz ?_
 refine ⟨_,_,_,_,rfl,Str.of hW33 0 rfl,(hr45.move (Step.refl _ Nil) nilM qbW),hW33.step,rfl⟩
theorem qdJ (σ:Sg)  {br:Nat} {A:Option Addr} {m c:Nat} {w:World} {F:Nat → Nat → Prop} (hst:Str w br [.slice A m c,.bool σ.1]) (hr:RdS w F A m c σ.2) (hFd:∀ b o,F b o → ¬ RdM br b o) :
  Calls Tryd.prog 89 #[.pointer (some ⟨br,0,none⟩)] w (RdPostT w br (Fp F w) (qeE σ) fun v w'=>v = .string (bs (qeD σ))):=by
 refine enter (n:=12) Tryd.func89 rfl Tryd.ntmps89 kz fun a hE=>?_
 have hW:WOk w (RdM br) w [⟨br,0,[.slice A m c,.bool σ.1],true⟩] []:=WOk.startStr hst
 have hE1:=(hE.grow ⟨br,0,[.slice A m c,.bool σ.1],true⟩).recast 0 (.v (.pointer (some ⟨br,0,none⟩))) (.p 0 0) rfl rfl (Nat.le_of_ble_eq_true (n:=1) rfl)
 refine qau [(0,.p 0 0)] hW hE1 fun a1 hE2=>?_
 refine qae [0,1,2,3,4] kz ?_
 refine qam [0] [1,2,3,4] [(0,.p 0 0),(4,.p 0 0)] hW hE2 fun a3 hE4=>?_
 refine qal (qaw hE4 (f:=110) (vs:=[.pointer (some ⟨br,0,none⟩)]) (d:=5) kz Tryd.call110 ((qdv σ).go (Str.of hW 0 rfl) (hr.move hW.step (fun b_ o_ h_ _=>hFd b_ o_ h_) (hW.immM hFd)) (qcj 0 rfl)) ?_)
 rintro e_ w5 ⟨_,A6,n7,c8,rfl,hs9,hr10,hst11,rfl⟩
 obtain ⟨hW12,hF13,hl17⟩:=hW.wrote 0 [⟨br,0,[.slice A6 n7 c8,.bool ((aUv σ).1)],true⟩] rfl hst11 hs9
 have hr21:=hr10.move (Step.refl _ Nil) nilM hl17
 refine ⟨_,rfl,fun a14 hE15=>?_⟩
 have hE16:EnvOk 12 [⟨br,0,[.slice A6 n7 c8,.bool ((aUv σ).1)],true⟩] [(5,.v (.int .u32 ((uUv σ:Nat):Int))),(0,.p 0 0),(4,.p 0 0)] _:=hE15.places (⟨rfl,rfl,trivial⟩)
 refine qam [2,3,4] [] [(0,.p 0 0),(3,.v (.int .i64 (IntKind.i64.wrap ((IntKind.i64.wrap ((uUv σ:Nat):Int)) - 1))))] hW12 hE16 fun a22 hE23=>?_
 refine qag (qab ?_)
 refine qae [0,1,2,3,4] kz ?_
 refine qam [0,1] [2,3,4] [(8,.p 0 0),(9,.v (.int .i64 (IntKind.i64.wrap ((IntKind.i64.wrap ((uUv σ:Nat):Int)) - 1))))] hW12 hE23 fun a24 hE25=>?_
 have he39:IntKind.i64.wrap ((IntKind.i64.wrap ((uUv σ:Nat):Int)) - 1) = ((uUv σ:Nat):Int) - 1:=by have:=qcx σ; have:=qeb σ; simp only [i16w,i32w,i64w]; omega
 have hE40:=EnvOk.pick hE25 (ks:=[8,9]) (env':=[(8,.p 0 0),(9,.v (.int .i64 (IntKind.i64.wrap ((IntKind.i64.wrap ((uUv σ:Nat):Int)) - 1))))]) kz
 have hE41:=hE40.cast (env':=[(8,.p 0 0),(9,.v (.int .i64 (((uUv σ:Nat):Int) - 1)))]) (by rw [he39])
 refine qal (qaw hE41 (f:=106) (vs:=[.pointer (some ⟨br,0,none⟩),.int .i64 (((uUv σ:Nat):Int) - 1)]) (d:=10) kz Tryd.call106 (qfZ (((uUv σ:Nat):Int) - 1) (aUv σ) (Str.of hW12 0 rfl) hr21 (qcj 0 rfl)) ?_)
 rintro e_ w26 ⟨_,A27,n28,c29,rfl,hs30,hr31,hst32,⟨A42,c43,rfl,ho44⟩⟩
 obtain ⟨hW33,hF34,hl38⟩:=hW12.wrote 0 [⟨br,0,[.slice A27 n28 c29,.bool ((aSp (((uUv σ:Nat):Int) - 1) (aUv σ)).1)],true⟩] rfl hst32 hs30
 have hr45:=hr31.move (Step.refl _ Nil) nilM (fun b_ o_ h_ _=>hF34.to b_ o_ h_)
 refine ⟨_,rfl,fun a35 hE36=>?_⟩
 have hE37:EnvOk 12 [⟨br,0,[.slice A27 n28 c29,.bool ((aSp (((uUv σ:Nat):Int) - 1) (aUv σ)).1)],true⟩] [(10,.v (.slice A42 ((uSp (((uUv σ:Nat):Int) - 1) (aUv σ)).length) c43)),(8,.p 0 0),(9,.v (.int .i64 (((uUv σ:Nat):Int) - 1)))] _:=hE36.places (⟨rfl,rfl,trivial⟩)
 have ho46:=ho44.move (Step.refl _ Nil) nilM (fun b_ o_ h_ _=>hF34.to b_ o_ h_)
 refine qal (qdI hE37 (src:=22) (dst:=9) (e:=5) (d:=11) kz kz kz kz ho46 fun a47 hE48=>?_)
 refine qam [4] [] [(2,.v (.string (bs (uSp (((uUv σ:Nat):Int) - 1) (aUv σ)))))] hW33 hE48 fun a49 hE50=>?_
 refine qag (qab ?_)
 refine wp_ret ?_
 refine qaZ hE50 hW33.cells (v:=.string (bs (uSp (((uUv σ:Nat):Int) - 1) (aUv σ)))) kz ?_
 refine ⟨_,_,_,_,rfl,Str.of hW33 0 rfl,(hr45.move (Step.refl _ Nil) nilM qbW),hW33.step,rfl⟩
theorem qdN (σ:Sg)  {br:Nat} {A:Option Addr} {m c:Nat} {w:World} {F:Nat → Nat → Prop} (hst:Str w br [.slice A m c,.bool σ.1]) (hr:RdS w F A m c σ.2) (hFd:∀ b o,F b o → ¬ RdM br b o) :
  Calls Tryd.prog 78 #[.pointer (some ⟨br,0,none⟩)] w (RdPostT w br (Fp F w) (aStr σ) fun v w'=>v = .string (bs (uStr σ))):=by
 refine enter (n:=11) Tryd.func78 rfl Tryd.ntmps78 kz fun a hE=>?_
 have hW:WOk w (RdM br) w [⟨br,0,[.slice A m c,.bool σ.1],true⟩] []:=WOk.startStr hst
 have hE1:=(hE.grow ⟨br,0,[.slice A m c,.bool σ.1],true⟩).recast 0 (.v (.pointer (some ⟨br,0,none⟩))) (.p 0 0) rfl rfl (Nat.le_of_ble_eq_true (n:=1) rfl)
 refine qau [(0,.p 0 0)] hW hE1 fun a1 hE2=>?_
 refine qae [0,1,2] kz ?_
 refine qam [0] [1,2] [(0,.p 0 0),(4,.p 0 0)] hW hE2 fun a3 hE4=>?_
 refine qal (qaw hE4 (f:=77) (vs:=[.pointer (some ⟨br,0,none⟩)]) (d:=5) kz Tryd.call77 ((qfX σ).go (Str.of hW 0 rfl) (hr.move hW.step (fun b_ o_ h_ _=>hFd b_ o_ h_) (hW.immM hFd)) (qcj 0 rfl)) ?_)
 rintro e_ w5 ⟨_,A6,n7,c8,rfl,hs9,hr10,hst11,rfl⟩
 obtain ⟨hW12,hF13,hl17⟩:=hW.wrote 0 [⟨br,0,[.slice A6 n7 c8,.bool ((aN 2 σ).1)],true⟩] rfl hst11 hs9
 have hr21:=hr10.move (Step.refl _ Nil) nilM hl17
 refine ⟨_,rfl,fun a14 hE15=>?_⟩
 have hE16:EnvOk 11 [⟨br,0,[.slice A6 n7 c8,.bool ((aN 2 σ).1)],true⟩] [(5,.v (.int .i16 (uI16 σ))),(0,.p 0 0),(4,.p 0 0)] _:=hE15.places (⟨rfl,rfl,trivial⟩)
 refine qam [2] [] [(0,.p 0 0),(3,.v (.int .i16 (uI16 σ)))] hW12 hE16 fun a22 hE23=>?_
 refine qag (qab ?_)
 refine qae [0,1,2,3,4,5] kz ?_
 refine qam [0,1,2] [3,4,5] [(6,.p 0 0),(8,.v (.int .i64 (IntKind.i64.wrap (uI16 σ))))] hW12 hE23 fun a24 hE25=>?_
 have he39:IntKind.i64.wrap (uI16 σ) = uI16 σ:=by have:=qcx σ; have:=qeb σ; simp only [i16w,i32w,i64w]; omega
 have hE40:=EnvOk.pick hE25 (ks:=[6,8]) (env':=[(6,.p 0 0),(8,.v (.int .i64 (IntKind.i64.wrap (uI16 σ))))]) kz
 have hE41:=hE40.cast (env':=[(6,.p 0 0),(8,.v (.int .i64 (uI16 σ)))]) (by rw [he39])
 refine qal (qaw hE41 (f:=106) (vs:=[.pointer (some ⟨br,0,none⟩),.int .i64 (uI16 σ)]) (d:=9) kz Tryd.call106 (qfZ (uI16 σ) (aN 2 σ) (Str.of hW12 0 rfl) hr21 (qcj 0 rfl)) ?_)
 rintro e_ w26 ⟨_,A27,n28,c29,rfl,hs30,hr31,hst32,⟨A42,c43,rfl,ho44⟩⟩
 obtain ⟨hW33,hF34,hl38⟩:=hW12.wrote 0 [⟨br,0,[.slice A27 n28 c29,.bool ((aSp (uI16 σ) (aN 2 σ)).1)],true⟩] rfl hst32 hs30
 have hr45:=hr31.move (Step.refl _ Nil) nilM (fun b_ o_ h_ _=>hF34.to b_ o_ h_)
 refine ⟨_,rfl,fun a35 hE36=>?_⟩
 have hE37:EnvOk 11 [⟨br,0,[.slice A27 n28 c29,.bool ((aSp (uI16 σ) (aN 2 σ)).1)],true⟩] [(9,.v (.slice A42 ((uSp (uI16 σ) (aN 2 σ)).length) c43)),(6,.p 0 0),(8,.v (.int .i64 (uI16 σ)))] _:=hE36.places (⟨rfl,rfl,trivial⟩)
 have ho46:=ho44.move (Step.refl _ Nil) nilM (fun b_ o_ h_ _=>hF34.to b_ o_ h_)
 refine qal (qaw hE37 (f:=105) (vs:=[.slice A42 ((uSp (uI16 σ) (aN 2 σ)).length) c43]) (d:=10) kz Tryd.call105 (qf0 _ ho46) ?_)
 rintro e_ w48 ⟨rfl,hs47⟩
 refine ⟨_,rfl,fun a49 hE50=>?_⟩
 have hW51:=hW33.next_nil hs47
 have hF52:=hW33.frN hs47
 refine qam [5] [] [(2,.v (.string (bs ((uSp (uI16 σ) (aN 2 σ))))))] hW51 hE50 fun a53 hE54=>?_
 refine qag (qab ?_)
 refine wp_ret ?_
 refine qaZ hE54 hW51.cells (v:=.string (bs ((uSp (uI16 σ) (aN 2 σ))))) kz ?_
 refine ⟨_,_,_,_,rfl,Str.of hW51 0 rfl,((hr45.move hF52.step immM hF52.to').move (Step.refl _ Nil) nilM qbW),hW51.step,rfl⟩
theorem qcE (σ:Sg)  {br:Nat} {A:Option Addr} {m c:Nat} {w:World} {F:Nat → Nat → Prop} (hst:Str w br [.slice A m c,.bool σ.1]) (hr:RdS w F A m c σ.2) (hFd:∀ b o,F b o → ¬ RdM br b o) :
  Calls Tryd.prog 88 #[.pointer (some ⟨br,0,none⟩)] w (RdPostT w br (Fp F w) (qeE σ) fun v w'=>v = .string (bs (qeD σ))):=by
 refine enter (n:=12) Tryd.func88 rfl Tryd.ntmps88 kz fun a hE=>?_
 have hW:WOk w (RdM br) w [⟨br,0,[.slice A m c,.bool σ.1],true⟩] []:=WOk.startStr hst
 have hE1:=(hE.grow ⟨br,0,[.slice A m c,.bool σ.1],true⟩).recast 0 (.v (.pointer (some ⟨br,0,none⟩))) (.p 0 0) rfl rfl (Nat.le_of_ble_eq_true (n:=1) rfl)
 refine qau [(0,.p 0 0)] hW hE1 fun a1 hE2=>?_
 refine qae [0,1,2,3,4] kz ?_
 refine qam [0] [1,2,3,4] [(0,.p 0 0),(4,.p 0 0)] hW hE2 fun a3 hE4=>?_
 refine qal (qaw hE4 (f:=110) (vs:=[.pointer (some ⟨br,0,none⟩)]) (d:=5) kz Tryd.call110 ((qdv σ).go (Str.of hW 0 rfl) (hr.move hW.step (fun b_ o_ h_ _=>hFd b_ o_ h_) (hW.immM hFd)) (qcj 0 rfl)) ?_)
 rintro e_ w5 ⟨_,A6,n7,c8,rfl,hs9,hr10,hst11,rfl⟩
 obtain ⟨hW12,hF13,hl17⟩:=hW.wrote 0 [⟨br,0,[.slice A6 n7 c8,.bool ((aUv σ).1)],true⟩] rfl hst11 hs9
 have hr21:=hr10.move (Step.refl _ Nil) nilM hl17
 refine ⟨_,rfl,fun a14 hE15=>?_⟩
 have hE16:EnvOk 12 [⟨br,0,[.slice A6 n7 c8,.bool ((aUv σ).1)],true⟩] [(5,.v (.int .u32 ((uUv σ:Nat):Int))),(0,.p 0 0),(4,.p 0 0)] _:=hE15.places (⟨rfl,rfl,trivial⟩)
 refine qam [2,3,4] [] [(0,.p 0 0),(3,.v (.int .i64 (IntKind.i64.wrap ((IntKind.i64.wrap ((uUv σ:Nat):Int)) - 1))))] hW12 hE16 fun a22 hE23=>?_
 refine qag (qab ?_)
 refine qae [0,1,2,3,4] kz ?_
 refine qam [0,1] [2,3,4] [(8,.p 0 0),(9,.v (.int .i64 (IntKind.i64.wrap ((IntKind.i64.wrap ((uUv σ:Nat):Int)) - 1))))] hW12 hE23 fun a24 hE25=>?_
 have he39:IntKind.i64.wrap ((IntKind.i64.wrap ((uUv σ:Nat):Int)) - 1) = ((uUv σ:Nat):Int) - 1:=by have:=qcx σ; have:=qeb σ; simp only [i16w,i32w,i64w]; omega
 have hE40:=EnvOk.pick hE25 (ks:=[8,9]) (env':=[(8,.p 0 0),(9,.v (.int .i64 (IntKind.i64.wrap ((IntKind.i64.wrap ((uUv σ:Nat):Int)) - 1))))]) kz
 have hE41:=hE40.cast (env':=[(8,.p 0 0),(9,.v (.int .i64 (((uUv σ:Nat):Int) - 1)))]) (by rw [he39])
 refine qal (qaw hE41 (f:=106) (vs:=[.pointer (some ⟨br,0,none⟩),.int .i64 (((uUv σ:Nat):Int) - 1)]) (d:=10) kz Tryd.call106 (qfZ (((uUv σ:Nat):Int) - 1) (aUv σ) (Str.of hW12 0 rfl) hr21 (qcj 0 rfl)) ?_)
 rintro e_ w26 ⟨_,A27,n28,c29,rfl,hs30,hr31,hst32,⟨A42,c43,rfl,ho44⟩⟩
 obtain ⟨hW33,hF34,hl38⟩:=hW12.wrote 0 [⟨br,0,[.slice A27 n28 c29,.bool ((aSp (((uUv σ:Nat):Int) - 1) (aUv σ)).1)],true⟩] rfl hst32 hs30
 have hr45:=hr31.move (Step.refl _ Nil) nilM (fun b_ o_ h_ _=>hF34.to b_ o_ h_)
 refine ⟨_,rfl,fun a35 hE36=>?_⟩
 have hE37:EnvOk 12 [⟨br,0,[.slice A27 n28 c29,.bool ((aSp (((uUv σ:Nat):Int) - 1) (aUv σ)).1)],true⟩] [(10,.v (.slice A42 ((uSp (((uUv σ:Nat):Int) - 1) (aUv σ)).length) c43)),(8,.p 0 0),(9,.v (.int .i64 (((uUv σ:Nat):Int) - 1)))] _:=hE36.places (⟨rfl,rfl,trivial⟩)
 have ho46:=ho44.move (Step.refl _ Nil) nilM (fun b_ o_ h_ _=>hF34.to b_ o_ h_)
 refine qal (qaw hE37 (f:=105) (vs:=[.slice A42 ((uSp (((uUv σ:Nat):Int) - 1) (aUv σ)).length) c43]) (d:=11) kz Tryd.call105 (qf0 _ ho46) ?_)
 rintro e_ w48 ⟨rfl,hs47⟩
 refine ⟨_,rfl,fun a49 hE50=>?_⟩
 have hW51:=hW33.next_nil hs47
 have hF52:=hW33.frN hs47
 refine qam [4] [] [(2,.v (.string (bs ((uSp (((uUv σ:Nat):Int) - 1) (aUv σ))))))] hW51 hE50 fun a53 hE54=>?_
 refine qag (qab ?_)
 refine wp_ret ?_
 refine qaZ hE54 hW51.cells (v:=.string (bs ((uSp (((uUv σ:Nat):Int) - 1) (aUv σ))))) kz ?_
 refine ⟨_,_,_,_,rfl,Str.of hW51 0 rfl,((hr45.move hF52.step immM hF52.to').move (Step.refl _ Nil) nilM qbW),hW51.step,rfl⟩
theorem qeo (σ:Sg) (hn:¬ ((((aN 4 σ).2.length:Nat):Int) < uI32 σ)) {br:Nat} {A:Option Addr} {m c:Nat} {w:World} {F:Nat → Nat → Prop} (hst:Str w br [.slice A m c,.bool σ.1]) (hr:RdS w F A m c σ.2) (hFd:∀ b o,F b o → ¬ RdM br b o) :
  Calls Tryd.prog 85 #[.pointer (some ⟨br,0,none⟩)] w (RdPostT w br (Fp F w) (aN 4 σ) fun v w'=>v = .int .i32 (uI32 σ)):=by
 refine enter (n:=21) Tryd.func85 rfl Tryd.ntmps85 kz fun a hE=>?_
 have hW:WOk w (RdM br) w [⟨br,0,[.slice A m c,.bool σ.1],true⟩] []:=WOk.startStr hst
 have hE1:=(hE.grow ⟨br,0,[.slice A m c,.bool σ.1],true⟩).recast 0 (.v (.pointer (some ⟨br,0,none⟩))) (.p 0 0) rfl rfl (Nat.le_of_ble_eq_true (n:=1) rfl)
 refine qau [(0,.p 0 0)] hW hE1 fun a1 hE2=>?_
 refine qae [0,1,2] kz ?_
 refine qam [0] [1,2] [(0,.p 0 0),(4,.p 0 0)] hW hE2 fun a3 hE4=>?_
 refine qal (qaw hE4 (f:=80) (vs:=[.pointer (some ⟨br,0,none⟩)]) (d:=5) kz Tryd.call80 ((qfY σ).go (Str.of hW 0 rfl) (hr.move hW.step (fun b_ o_ h_ _=>hFd b_ o_ h_) (hW.immM hFd)) (qcj 0 rfl)) ?_)
 rintro e_ w5 ⟨_,A6,n7,c8,rfl,hs9,hr10,hst11,rfl⟩
 obtain ⟨hW12,hF13,hl17⟩:=hW.wrote 0 [⟨br,0,[.slice A6 n7 c8,.bool ((aN 4 σ).1)],true⟩] rfl hst11 hs9
 have hr21:=hr10.move (Step.refl _ Nil) nilM hl17
 refine ⟨_,rfl,fun a14 hE15=>?_⟩
 have hE16:EnvOk 21 [⟨br,0,[.slice A6 n7 c8,.bool ((aN 4 σ).1)],true⟩] [(5,.v (.int .i32 (uI32 σ))),(0,.p 0 0),(4,.p 0 0)] _:=hE15.places (⟨rfl,rfl,trivial⟩)
 refine qam [2] [] [(0,.p 0 0),(3,.v (.int .i32 (uI32 σ)))] hW12 hE16 fun a22 hE23=>?_
 refine qag (qab ?_)
 refine wp_seq ?_
 refine qau [(0,.p 0 0),(3,.v (.int .i32 (uI32 σ))),(13,.v (.bool (decide (((n7:Nat):Int) < (IntKind.i64.wrap (uI32 σ))))))] hW12 hE23 fun a24 hE25=>?_
 refine qan hE25 (b:=decide (((n7:Nat):Int) < (IntKind.i64.wrap (uI32 σ)))) kz (decide_eq_false (by have h_:=hr21.len; have:=qcx σ; have:=qec σ; unfold cAL uI32 at *; simp only [i32w,i64w] at *; omega)) ?_
 refine wp_skip ?_
 refine qab ?_
 refine qau [(2,.v (.int .i32 (uI32 σ)))] hW12 hE25 fun a26 hE27=>?_
 refine wp_ret ?_
 refine qaZ hE27 hW12.cells (v:=.int .i32 (uI32 σ)) kz ?_
 refine ⟨_,_,_,_,rfl,Str.of hW12 0 rfl,(hr21.move (Step.refl _ Nil) nilM qbW),hW12.step,rfl⟩
theorem qep (σ:Sg) (hn:(((aN 4 σ).2.length:Nat):Int) < uI32 σ) {br:Nat} {A:Option Addr} {m c:Nat} {w:World} {F:Nat → Nat → Prop} (hst:Str w br [.slice A m c,.bool σ.1]) (hr:RdS w F A m c σ.2) (hFd:∀ b o,F b o → ¬ RdM br b o) :
  Calls Tryd.prog 85 #[.pointer (some ⟨br,0,none⟩)] w (RdPostT w br (Fp F w) badS fun v w'=>v = .int .i32 0):=by
 refine enter (n:=21) Tryd.func85 rfl Tryd.ntmps85 kz fun a hE=>?_
 have hW:WOk w (RdM br) w [⟨br,0,[.slice A m c,.bool σ.1],true⟩] []:=WOk.startStr hst
 have hE1:=(hE.grow ⟨br,0,[.slice A m c,.bool σ.1],true⟩).recast 0 (.v (.pointer (some ⟨br,0,none⟩))) (.p 0 0) rfl rfl (Nat.le_of_ble_eq_true (n:=1) rfl)
 refine qau [(0,.p 0 0)] hW hE1 fun a1 hE2=>?_
 refine qae [0,1,2] kz ?_
 refine qam [0] [1,2] [(0,.p 0 0),(4,.p 0 0)] hW hE2 fun a3 hE4=>?_
 refine qal (qaw hE4 (f:=80) (vs:=[.pointer (some ⟨br,0,none⟩)]) (d:=5) kz Tryd.call80 ((qfY σ).go (Str.of hW 0 rfl) (hr.move hW.step (fun b_ o_ h_ _=>hFd b_ o_ h_) (hW.immM hFd)) (qcj 0 rfl)) ?_)
 rintro e_ w5 ⟨_,A6,n7,c8,rfl,hs9,hr10,hst11,rfl⟩
 obtain ⟨hW12,hF13,hl17⟩:=hW.wrote 0 [⟨br,0,[.slice A6 n7 c8,.bool ((aN 4 σ).1)],true⟩] rfl hst11 hs9
 have hr21:=hr10.move (Step.refl _ Nil) nilM hl17
 refine ⟨_,rfl,fun a14 hE15=>?_⟩
 have hE16:EnvOk 21 [⟨br,0,[.slice A6 n7 c8,.bool ((aN 4 σ).1)],true⟩] [(5,.v (.int .i32 (uI32 σ))),(0,.p 0 0),(4,.p 0 0)] _:=hE15.places (⟨rfl,rfl,trivial⟩)
 refine qam [2] [] [(0,.p 0 0),(3,.v (.int .i32 (uI32 σ)))] hW12 hE16 fun a22 hE23=>?_
 refine qag (qab ?_)
 refine wp_seq ?_
 refine qau [(0,.p 0 0),(3,.v (.int .i32 (uI32 σ))),(13,.v (.bool (decide (((n7:Nat):Int) < (IntKind.i64.wrap (uI32 σ))))))] hW12 hE23 fun a24 hE25=>?_
 refine qaV hE25 (b:=decide (((n7:Nat):Int) < (IntKind.i64.wrap (uI32 σ)))) kz (decide_eq_true (by have h_:=hr21.len; have:=qcx σ; have:=qec σ; unfold cAL uI32 at *; simp only [i32w,i64w] at *; omega)) ?_
 refine qae [0,1,2,3] kz ?_
 refine qam [0,1,2] [3] [(0,.p 0 0),(16,.p 0 1)] hW12 hE25 fun a26 hE27=>?_
 refine qal (qaq hW12 hE27 (oi:=0) (cs:=[.slice A6 n7 c8,.bool true]) kz fun w28 hF29 hW30 hE31=>?_)
 refine qag (qab ?_)
 refine qae [0,1,2,3] kz ?_
 refine qam [0,1,2] [3] [(19,.p 0 0)] hW30 hE31 fun a32 hE33=>?_
 refine qal (qaq hW30 hE33 (oi:=0) (cs:=[.slice none 0 0,.bool true]) kz fun w34 hF35 hW36 hE37=>?_)
 refine qag (qab ?_)
 refine qau [(2,.v (.int .i32 0))] hW36 hE37 fun a38 hE39=>?_
 refine wp_ret ?_
 refine qa2 ?_
 refine qaZ hE39 hW36.cells (v:=.int .i32 0) kz ?_
 refine ⟨_,_,_,_,rfl,Str.of hW36 0 rfl,RdS.nil_ _ _,hW36.step,rfl⟩
theorem qcV (σ:Sg) (hn:¬ ((((aUv σ).2.length:Nat):Int) < cAL σ)) {br:Nat} {A:Option Addr} {m c:Nat} {w:World} {F:Nat → Nat → Prop} (hst:Str w br [.slice A m c,.bool σ.1]) (hr:RdS w F A m c σ.2) (hFd:∀ b o,F b o → ¬ RdM br b o) :
  Calls Tryd.prog 84 #[.pointer (some ⟨br,0,none⟩)] w (RdPostT w br (Fp F w) (aUv σ) fun v w'=>v = .int .i32 (cAL σ)):=by
 refine enter (n:=23) Tryd.func84 rfl Tryd.ntmps84 kz fun a hE=>?_
 have hW:WOk w (RdM br) w [⟨br,0,[.slice A m c,.bool σ.1],true⟩] []:=WOk.startStr hst
 have hE1:=(hE.grow ⟨br,0,[.slice A m c,.bool σ.1],true⟩).recast 0 (.v (.pointer (some ⟨br,0,none⟩))) (.p 0 0) rfl rfl (Nat.le_of_ble_eq_true (n:=1) rfl)
 refine qau [(0,.p 0 0)] hW hE1 fun a1 hE2=>?_
 refine qae [0,1,2,3,4] kz ?_
 refine qam [0] [1,2,3,4] [(0,.p 0 0),(4,.p 0 0)] hW hE2 fun a3 hE4=>?_
 refine qal (qaw hE4 (f:=110) (vs:=[.pointer (some ⟨br,0,none⟩)]) (d:=5) kz Tryd.call110 ((qdv σ).go (Str.of hW 0 rfl) (hr.move hW.step (fun b_ o_ h_ _=>hFd b_ o_ h_) (hW.immM hFd)) (qcj 0 rfl)) ?_)
 rintro e_ w5 ⟨_,A6,n7,c8,rfl,hs9,hr10,hst11,rfl⟩
 obtain ⟨hW12,hF13,hl17⟩:=hW.wrote 0 [⟨br,0,[.slice A6 n7 c8,.bool ((aUv σ).1)],true⟩] rfl hst11 hs9
 have hr21:=hr10.move (Step.refl _ Nil) nilM hl17
 refine ⟨_,rfl,fun a14 hE15=>?_⟩
 have hE16:EnvOk 23 [⟨br,0,[.slice A6 n7 c8,.bool ((aUv σ).1)],true⟩] [(5,.v (.int .u32 ((uUv σ:Nat):Int))),(0,.p 0 0),(4,.p 0 0)] _:=hE15.places (⟨rfl,rfl,trivial⟩)
 refine qam [2,3,4] [] [(0,.p 0 0),(3,.v (.int .i32 (IntKind.i32.wrap ((IntKind.i32.wrap ((uUv σ:Nat):Int)) - 1))))] hW12 hE16 fun a22 hE23=>?_
 refine qag (qab ?_)
 refine wp_seq ?_
 refine qau [(0,.p 0 0),(3,.v (.int .i32 (IntKind.i32.wrap ((IntKind.i32.wrap ((uUv σ:Nat):Int)) - 1)))),(15,.v (.bool (decide (((n7:Nat):Int) < (IntKind.i64.wrap (IntKind.i32.wrap ((IntKind.i32.wrap ((uUv σ:Nat):Int)) - 1)))))))] hW12 hE23 fun a24 hE25=>?_
 refine qan hE25 (b:=decide (((n7:Nat):Int) < (IntKind.i64.wrap (IntKind.i32.wrap ((IntKind.i32.wrap ((uUv σ:Nat):Int)) - 1))))) kz (decide_eq_false (by have h_:=hr21.len; have:=qcx σ; have:=qec σ; unfold cAL at *; simp only [i32w,i64w] at *; omega)) ?_
 refine wp_skip ?_
 refine qab ?_
 refine qau [(2,.v (.int .i32 (IntKind.i32.wrap ((IntKind.i32.wrap ((uUv σ:Nat):Int)) - 1))))] hW12 hE25 fun a26 hE27=>?_
 refine wp_ret ?_
 refine qaZ hE27 hW12.cells (v:=.int .i32 (IntKind.i32.wrap ((IntKind.i32.wrap ((uUv σ:Nat):Int)) - 1))) kz ?_
 refine ⟨_,_,_,_,rfl,Str.of hW12 0 rfl,(hr21.move (Step.refl _ Nil) nilM qbW),hW12.step,rfl⟩
theorem qcW (σ:Sg) (hn:(((aUv σ).2.length:Nat):Int) < cAL σ) {br:Nat} {A:Option Addr} {m c:Nat} {w:World} {F:Nat → Nat → Prop} (hst:Str w br [.slice A m c,.bool σ.1]) (hr:RdS w F A m c σ.2) (hFd:∀ b o,F b o → ¬ RdM br b o) :
  Calls Tryd.prog 84 #[.pointer (some ⟨br,0,none⟩)] w (RdPostT w br (Fp F w) badS fun v w'=>v = .int .i32 0):=by
 refine enter (n:=23) Tryd.func84 rfl Tryd.ntmps84 kz fun a hE=>?_
 have hW:WOk w (RdM br) w [⟨br,0,[.slice A m c,.bool σ.1],true⟩] []:=WOk.startStr hst
 have hE1:=(hE.grow ⟨br,0,[.slice A m c,.bool σ.1],true⟩).recast 0 (.v (.pointer (some ⟨br,0,none⟩))) (.p 0 0) rfl rfl (Nat.le_of_ble_eq_true (n:=1) rfl)
 refine qau [(0,.p 0 0)] hW hE1 fun a1 hE2=>?_
 refine qae [0,1,2,3,4] kz ?_
 refine qam [0] [1,2,3,4] [(0,.p 0 0),(4,.p 0 0)] hW hE2 fun a3 hE4=>?_
 refine qal (qaw hE4 (f:=110) (vs:=[.pointer (some ⟨br,0,none⟩)]) (d:=5) kz Tryd.call110 ((qdv σ).go (Str.of hW 0 rfl) (hr.move hW.step (fun b_ o_ h_ _=>hFd b_ o_ h_) (hW.immM hFd)) (qcj 0 rfl)) ?_)
 rintro e_ w5 ⟨_,A6,n7,c8,rfl,hs9,hr10,hst11,rfl⟩
 obtain ⟨hW12,hF13,hl17⟩:=hW.wrote 0 [⟨br,0,[.slice A6 n7 c8,.bool ((aUv σ).1)],true⟩] rfl hst11 hs9
 have hr21:=hr10.move (Step.refl _ Nil) nilM hl17
 refine ⟨_,rfl,fun a14 hE15=>?_⟩
 have hE16:EnvOk 23 [⟨br,0,[.slice A6 n7 c8,.bool ((aUv σ).1)],true⟩] [(5,.v (.int .u32 ((uUv σ:Nat):Int))),(0,.p 0 0),(4,.p 0 0)] _:=hE15.places (⟨rfl,rfl,trivial⟩)
 refine qam [2,3,4] [] [(0,.p 0 0),(3,.v (.int .i32 (IntKind.i32.wrap ((IntKind.i32.wrap ((uUv σ:Nat):Int)) - 1))))] hW12 hE16 fun a22 hE23=>?_
 refine qag (qab ?_)
 refine wp_seq ?_
 refine qau [(0,.p 0 0),(3,.v (.int .i32 (IntKind.i32.wrap ((IntKind.i32.wrap ((uUv σ:Nat):Int)) - 1)))),(15,.v (.bool (decide (((n7:Nat):Int) < (IntKind.i64.wrap (IntKind.i32.wrap ((IntKind.i32.wrap ((uUv σ:Nat):Int)) - 1)))))))] hW12 hE23 fun a24 hE25=>?_
 refine qaV hE25 (b:=decide (((n7:Nat):Int) < (IntKind.i64.wrap (IntKind.i32.wrap ((IntKind.i32.wrap ((uUv σ:Nat):Int)) - 1))))) kz (decide_eq_true (by have h_:=hr21.len; have:=qcx σ; have:=qec σ; unfold cAL at *; simp only [i32w,i64w] at *; omega)) ?_
 refine qae [0,1,2,3] kz ?_
 refine qam [0,1,2] [3] [(0,.p 0 0),(18,.p 0 1)] hW12 hE25 fun a26 hE27=>?_
 refine qal (qaq hW12 hE27 (oi:=0) (cs:=[.slice A6 n7 c8,.bool true]) kz fun w28 hF29 hW30 hE31=>?_)
 refine qag (qab ?_)
 refine qae [0,1,2,3] kz ?_
 refine qam [0,1,2] [3] [(21,.p 0 0)] hW30 hE31 fun a32 hE33=>?_
 refine qal (qaq hW30 hE33 (oi:=0) (cs:=[.slice none 0 0,.bool true]) kz fun w34 hF35 hW36 hE37=>?_)
 refine qag (qab ?_)
 refine qau [(2,.v (.int .i32 0))] hW36 hE37 fun a38 hE39=>?_
 refine wp_ret ?_
 refine qa2 ?_
 refine qaZ hE39 hW36.cells (v:=.int .i32 0) kz ?_
 refine ⟨_,_,_,_,rfl,Str.of hW36 0 rfl,RdS.nil_ _ _,hW36.step,rfl⟩
theorem qdX {ev:Value} {br:Nat} {A:Option Addr} {m c:Nat} {w:World} {F:Nat → Nat → Prop} (hst:Str w br [.slice A m c,.bool true]) (hg:AtF w F 1 0 [ev]) (hFd:∀ b o,F b o → ¬ RdM br b o) :
  Calls Tryd.prog 81 #[.pointer (some ⟨br,0,none⟩)] w (fun e w'=>e = .returned ev ∧ w' = w):=by
 refine enter (n:=8) Tryd.func81 rfl Tryd.ntmps81 kz fun a hE=>?_
 have hW:WOk w (RdM br) w [⟨br,0,[.slice A m c,.bool true],true⟩] []:=WOk.startStr hst
 have hE1:=(hE.grow ⟨br,0,[.slice A m c,.bool true],true⟩).recast 0 (.v (.pointer (some ⟨br,0,none⟩))) (.p 0 0) rfl rfl (Nat.le_of_ble_eq_true (n:=1) rfl)
 refine qau [(0,.p 0 0)] hW hE1 fun a1 hE2=>?_
 refine wp_seq ?_
 refine qau [(6,.v (.bool true))] hW hE2 fun a3 hE4=>?_
 refine qaV hE4 (b:=true) kz rfl ?_
 refine qae [0,1] kz ?_
 refine qal (qat hE4 (t:=54) (b:=1) (o:=0) (d:=7) kz (cs:=[ev]) (v:=ev) kz (AtF.move hg hW.step (fun b_ o_ h_ _=>hFd b_ o_ h_) qaF).at_ fun a5 hE6=>?_)
 refine qam [1] [] [(2,.v (ev))] hW hE6 fun a7 hE8=>?_
 refine qag (qab ?_)
 refine wp_ret ?_
 refine qa2 ?_
 refine qaZ hE8 hW.cells (v:=ev) kz ?_
 exact ⟨rfl,rfl⟩
theorem uOk_ (σ:Sg)  {br:Nat} {A:Option Addr} {m c:Nat} {w:World} {F:Nat → Nat → Prop} (hst:Str w br [.slice A m c,.bool σ.1]) (hr:RdS w F A m c σ.2) (hFd:∀ b o,F b o → ¬ RdM br b o) :
  Calls Tryd.prog 86 #[.pointer (some ⟨br,0,none⟩)] w (RdPostT w br (Fp F w) σ fun v w'=>v = .bool (!σ.1)):=by
 refine enter (n:=8) Tryd.func86 rfl Tryd.ntmps86 kz fun a hE=>?_
 have hW:WOk w (RdM br) w [⟨br,0,[.slice A m c,.bool σ.1],true⟩] []:=WOk.startStr hst
 have hE1:=(hE.grow ⟨br,0,[.slice A m c,.bool σ.1],true⟩).recast 0 (.v (.pointer (some ⟨br,0,none⟩))) (.p 0 0) rfl rfl (Nat.le_of_ble_eq_true (n:=1) rfl)
 refine qau [(0,.p 0 0)] hW hE1 fun a1 hE2=>?_
 refine qau [(2,.v (.bool (!σ.1)))] hW hE2 fun a3 hE4=>?_
 refine wp_ret ?_
 refine qaZ hE4 hW.cells (v:=.bool (!σ.1)) kz ?_
 refine ⟨_,_,_,_,rfl,Str.of hW 0 rfl,((hr.move hW.step (fun b_ o_ h_ _=>hFd b_ o_ h_) (hW.immM hFd)).move (Step.refl _ Nil) nilM qbW),hW.step,rfl⟩
theorem qhk (σ:Sg):RPrim0U Tryd.prog 79 σ (aStr σ) (.string (bs (uStr σ))):=⟨mn_Str.len σ,fun hst hr hF=>qgG σ hst hr hF⟩
theorem qdO (σ:Sg):RPrim0U Tryd.prog 89 σ (qeE σ) (.string (bs (qeD σ))):=⟨mn_CStr.len σ,fun hst hr hF=>qdJ σ hst hr hF⟩
theorem qed (σ:Sg):RPrim0U Tryd.prog 78 σ (aStr σ) (.string (bs (uStr σ))):=⟨mn_Str.len σ,fun hst hr hF=>qdN σ hst hr hF⟩
theorem qcM (σ:Sg):RPrim0U Tryd.prog 88 σ (qeE σ) (.string (bs (qeD σ))):=⟨mn_CStr.len σ,fun hst hr hF=>qcE σ hst hr hF⟩
theorem qf1 (σ:Sg):RPrim0U Tryd.prog 85 σ (aAL σ) (.int .i32 (uAL σ)):=⟨mn_AL.len σ,fun hst hr hF=>by
 unfold aAL uAL
 by_cases h:(((aN 4 σ).2.length:Nat):Int) < uI32 σ
 ·simp only [if_pos h]
  exact qep σ h hst hr hF
 simp only [if_neg h]
 exact qeo σ h hst hr hF⟩
theorem qdn (σ:Sg):RPrim0U Tryd.prog 84 σ (aCAL σ) (.int .i32 (uCAL σ)):=⟨mn_CAL.len σ,fun hst hr hF=>by
 unfold aCAL uCAL
 by_cases h:(((aUv σ).2.length:Nat):Int) < cAL σ
 ·simp only [if_pos h]
  exact qcW σ h hst hr hF
 simp only [if_neg h]
 exact qcV σ h hst hr hF⟩
theorem qOk (σ:Sg):RPrim0U Tryd.prog 86 σ σ (.bool (!σ.1)):=⟨Nat.le_refl _,fun hst hr hF=>uOk_ σ hst hr hF⟩
end Go.Proofs.YtajibgahdkllkaaDoorR.ME