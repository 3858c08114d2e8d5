/- Packed. Own work. -/
import Derived.Test.YtoclgihkbmaolacGreatDoorWb0P1
import Derived.ScopeJumps
import Derived.ChangeKeysEq
import Derived.Test.YtoclgihkbmaolacGreatDoorProg
namespace Go.Proofs.YtoclgihkbmaolacGreatDoor.ME
open Go
open Go.RowKit
set_option linter.unusedVariables false
set_option linter.unusedSimpArgs false
set_option maxRecDepth 20000
theorem WOk.layRowR {w0 w:World} {M:Nat → Nat → Prop} {tb:Tb} {rs:List Rw} {g c e size n k:Nat} {xs:List Value} (hW:WOk w0 M w tb rs) (hk:rs[k]? = some ⟨some ⟨g,0,none⟩,c,e,size,n,xs⟩) (hl:k + 1 = rs.length) (rs':List Rw) (hr:rs.take k = rs':=by rfl):WOk w0 M w (tb ++ [⟨g,0,xs,false⟩]) rs':=by
 subst hr
 have ho:=hW.own k _ hk
 have hlive:=O5 ho (g:=g) rfl
 have hlt:∀ (j:Nat) (r:Rw),(rs.take k)[j]? = some r → j ≠ k ∧ rs[j]? = some r:=fun j r hj=>by
  rw [List.getElem?_take] at hj
  split at hj
  ·exact ⟨by omega,hj⟩
  cases hj
 refine (hW.rows k).add ⟨g,0,xs,false⟩ hlive (fun j v hj=>?_) (fun h=>by cases h) (fun i q hi _=>.inl (hW.rtb k _ hk g rfl i q hi)) (fun i r hi he=>?_)
 ·have:=ho.cells (g:=g) rfl j v hj
  rw [P5] at this
  dsimp only
  exact this
 obtain ⟨h1,h2⟩:=hlt i r hi
 exact hW.rr k i _ r (fun e=>h1 e.symm) hk h2 g rfl he
theorem Nk {w:World} {base e n m c:Nat} {A:Option Addr} {xs:List Value} (h:w.ownsRow base e 1 (.slice A n c) n xs) (hm:m ≤ n):w.ownsRow base e 1 (.slice A m c) m (xs.take m):=by
 obtain ⟨hl,h⟩:=h
 refine ⟨by rw [List.length_take]; omega,?_⟩
 rcases h with ⟨hv,rfl⟩ | ⟨g,cap,cur,hv,h1,h2,h3,h4,h5,h6⟩
 ·obtain rfl:m = 0:=by omega
  exact .inl ⟨hv,rfl⟩
 simp only [Value.slice.injEq] at hv
 obtain ⟨rfl,_,rfl⟩:=hv
 exact .inr ⟨g,c,cur,rfl,h1,h2,by omega,h4,h5,by rw [← h6,List.take_take]; congr 1; omega⟩
theorem Nl (s t:Bs):(bc (s ++ t)).take s.length = bc s:=by
 rw [Fm]
 exact List.take_left' (by simp [bc])
section
variable {P:Program} {n:Nat} {w0:World} {A0:Option Addr} {e8 d:Nat} {tb:Tb} {env e1 env':B8} {c c1 c2:Code} {x x1 x2 y:Bs}
theorem Jj {r1:Code} {id:Nat} {ops:Array Oper} {o:Operand} {b:Bool} (keys:List Nat) (p d1 d2 t e4 bytes:Nat) {v:Value} {e2:Nat → Nat → B8}
  (hr1:Ch P n w0 A0 e8 d tb env e1 r1 []) (hb:∀ A m cp,E7 ((d,.v (.slice A m cp)) :: e1) o = some (.v (.bool b))) (hs:Nat.beq ops.size 4 = true)
  (h0:∀ A m cp,G2 P ops n tb [0] ((d,.v (.slice A m cp)) :: e1) = some ((p,.v (.slice none 0 0)) :: (d,.v (.slice A m cp)) :: e1))
  (h1:∀ A m cp,Q7 P tb ((p,.v (.slice none 0 0)) :: (d,.v (.slice A m cp)) :: e1) ops n 1 = some (e4,1,1,[v],d1))
  (h2:∀ A m cp q,M6 tb ((d1,.v (.slice (some ⟨q,0,none⟩) 1 1)) :: (p,.v (.slice none 0 0)) :: (d,.v (.slice A m cp)) :: e1) ops n 2 = some (t,t,.slice none 0 0,.slice (some ⟨q,0,none⟩) 1 1,d2))
  (h3:∀ A m cp q g c',G7 P ops n tb [3] (d :: keys) ((d2,.v (.slice (some ⟨g,0,none⟩) 1 c')) :: (d1,.v (.slice (some ⟨q,0,none⟩) 1 1)) :: (p,.v (.slice none 0 0)) :: (d,.v (.slice A m cp)) :: e1) = some ((d,.v (.slice A m cp)) :: e2 g c'))
  (ht:J0 P t = some (e4,1,bytes)) (hby:Nat.ble bytes 64 = true) (hone:X6 [v] = true) (hp:O0 tb.length env' = true)
  (hy:b = true → ∀ g c',Ch P n w0 A0 e8 d (tb ++ [⟨g,0,[v],false⟩]) (e2 g c') env' c2 x) (hn:b = false → Ch P n w0 A0 e8 d tb e1 env' c2 x) :
  Ch P n w0 A0 e8 d tb env env' (.seq (.seq r1 (.cond o (.region id ops false) .skip)) c2) x:=fun Q A cp s a w hE hW hr k=>by
 refine wp_seq (wp_seq (hr1 _ A cp s a w hE hW (by simp; omega) fun A1 cp1 a1 w1 hE1 hW1=>A4 ?_))
 rw [List.append_nil] at hE1 hW1
 refine E2 hE1 (hb _ _ _) (fun hb'=>?_) (fun hb'=>wp_skip (A4 (hn hb' Q A1 cp1 s a1 w1 hE1 hW1 hr k)))
 have hs':ops.size = 4:=Nat.eq_of_beq_eq_true hs
 have hby':bytes ≤ 64:=Nat.le_of_ble_eq_true hby
 have hW2:=hW1.addNil e4 1
 refine E4 ([0] ++ [1,2,3]) (by rw [hs']; rfl) (O1 hW2.cells hE1 (h0 _ _ _) fun a2 hE2=>U4 (rest:=[3]) (k:=1) hW2 hE2 (h1 _ _ _) ht (fun q=>h2 _ _ _ q) rfl hone (by simp; omega) fun A' c' a3 w3 hF3 hW3 hb3=>?_)
 obtain ⟨q,hE3⟩:=hb3
 have hown:w3.ownsRow 0 e4 1 (.slice A' (0 + 1) c') (0 + 1) ([] ++ [v]):=hW3.own 1 _ rfl
 obtain ⟨g,rfl⟩:=W3 hown (by omega)
 refine F9 [3] [] (d :: keys) hW3 hE3 (h3 _ _ _ q g c') (List.append_nil _).symm fun a4 hE4=>B4 (A4 ?_)
 have hW4:WOk w0 (F4 A0) w3 (tb ++ [⟨g,0,[v],false⟩]) [B0 A1 cp1 e8 s]:=hW3.layRowR (k:=1) (xs:=[v]) rfl rfl _ rfl
 refine hy hb' g c' Q A1 cp1 s a4 w3 (hE4.grow _) hW4 hr fun A5 cp5 a5 w5 hE5 hW5=>?_
 have g1:=EnvOk.cutTb tb.length hE5 (by simpa [O0] using hp)
 have g2:=hW5.cutTb tb.length
 rw [List.take_left' rfl] at g1 g2
 exact k A5 cp5 a5 w5 g1 g2
theorem Jk {id:Nat} {ops:Array Oper} (q:Nat) (keys:List Nat) {t e:TypeId} {size bytes dd:Nat} {b:Nat}
  (h:∀ A m cp,P0 tb ((d,.v (.slice A m cp)) :: env) ops n 0 = some (t,some ⟨b,0,none⟩,1,0,dd)) (ht:J0 P t = some (e,size,bytes)) (hq:q < tb.length) (hb:(C0 tb q).blk = b) (ho:(C0 tb q).off = 0) (hs:Nat.blt 0 ops.size = true)
  (h2:∀ A m cp,G7 P ops n tb (upto 1 ops.size) (d :: keys) ((dd,.p q 0) :: (dd,.v (.pointer (some ⟨b,0 + 0 * size,none⟩))) :: (d,.v (.slice A m cp)) :: env) = some ((d,.v (.slice A m cp)) :: e1))
  (hc:Ch P n w0 A0 e8 d tb e1 env' c2 x):Ch P n w0 A0 e8 d tb env env' (.seq (.region id ops false) c2) x:=fun Q A cp s a w hE hW hr k=>by
 have hs':0 < ops.size:=by simpa [Nat.blt_eq] using hs
 refine C1 (0 :: upto 1 ops.size) (by
  have:=R0 hs'
  unfold upto at this ⊢
  rw [List.drop_zero] at this
  rw [this]; rfl) (B1 (J7 hE (h _ _ _) ht rfl (j:=0) rfl (by omega) fun a1 hE1=>?_))
 have hE2:EnvOk n tb ((dd,.p q 0) :: (dd,.v (.pointer (some ⟨b,0 + 0 * size,none⟩))) :: (d,.v (.slice A s.length cp)) :: env) a1 :=
  hE1.recast dd (.v (.pointer (some ⟨b,0 + 0 * size,none⟩))) (.p q 0) (by simp [lk]) (by simp [SV.val,hb,ho]) hq
 exact F9 (upto 1 ops.size) [] (d :: keys) hW hE2 (h2 _ _ _) (List.append_nil _).symm fun a2 hE3=>B4 (A4 (hc Q A cp s a2 w hE3 hW hr k))
theorem Jl {id:Nat} (h:Ch P n w0 A0 e8 d tb env env' c x):Ch P n w0 A0 e8 d tb env env' (.block id c) x:=fun Q A cp s a w hE hW hr k =>
 wp_block (h _ A cp s a w hE hW hr fun A' cp' a' w' hE' hW'=>H7 (k A' cp' a' w' hE' hW'))
theorem Jm {cD cT:Bool} {k:Nat} {ED ET:Bs} {u u':List (Int × Bs)} (hu:u = u') (h:cD = cT ∧ (cT = true → ED = ET)):uv (B5 cD + u.length) ++ (G8 cD k ED ++ D7 u) = uv (B5 cT + u'.length) ++ (G8 cT k ET ++ D7 u'):=by
 obtain ⟨rfl,h2⟩:=h
 subst hu
 cases cD with
 | false=>rw [Cw rfl,Cw rfl]
 | true=>rw [h2 rfl]
theorem Jn (X:Bs):(List.range 1).flatMap (fun _=>X) = X:=by simp [List.range_succ]
def CA (P:Program) (n:Nat) (w0:World) (A0:Option Addr) (e8 d:Nat) (tb:Tb) (env env':B8) (tail c:Code) (x:Bs):Prop :=
 ∀ (Q:Exit → Act → World → Prop) (A:Option Addr) (cp:Nat) (s:Bs) (a:Act) (w:World),
  EnvOk n tb ((d,.v (.slice A s.length cp)) :: env) a → WOk w0 (F4 A0) w tb [B0 A cp e8 s] → s.length + x.length + 16 ≤ 1099511627776 →
  (∀ A' cp' a' w',EnvOk n tb ((d,.v (.slice A' (s ++ x).length cp')) :: env') a' → WOk w0 (F4 A0) w' tb [B0 A' cp' e8 (s ++ x)] → tail.wp P Q a' w') → c.wp P Q a w
theorem Jo:CA P n w0 A0 e8 d tb env env c c []:=fun Q A cp s a w hE hW hr k=>k A cp a w (by simpa using hE) (by simpa using hW)
theorem Dk {tail:Code} (h1:Ch P n w0 A0 e8 d tb env e1 c1 x1) (h2:CA P n w0 A0 e8 d tb e1 env' tail c2 x2):CA P n w0 A0 e8 d tb env env' tail (.seq c1 c2) (x1 ++ x2):=fun Q A cp s a w hE hW hr k=>by
 rw [List.length_append] at hr
 refine wp_seq (h1 _ A cp s a w hE hW (by omega) fun A' cp' a' w' hE' hW'=>A4 (h2 Q A' cp' (s ++ x1) a' w' hE' hW' (by simp only [List.length_append]; omega) fun A2 cp2 a2 w2 hE2 hW2=>?_))
 rw [List.append_assoc] at hE2 hW2
 exact k A2 cp2 a2 w2 hE2 hW2
theorem Jp {tail:Code} (h:CA P n w0 A0 e8 d tb env env' tail c x) (e:x = y):CA P n w0 A0 e8 d tb env env' tail c y:=e ▸ h
theorem Nm {ops:Array Oper} {Q:Exit → Act → World → Prop} {T:World → Prop} {cc:Nat} {a:Act} {w:World} {i d' j fuel:Nat} {t e:TypeId} {size bytes m cp:Nat} {A:Option Addr} {q:Int} {listed:Array Bool} (hE:EnvOk n tb env a) (h:N9 tb env ops n i = some (t,.slice A m cp,none,some q,d')) (ht:J0 P t = some (e,size,bytes)) (hq:q = (j:Int)) (hj:j ≤ cp)
  (hns:Region.noSelect ops = true) (hk:O8 ops cc [i] listed = true) (hQ:R5 Q) (hT:T w)
  (K:∀ a',EnvOk n tb ((d',.v (.slice A j cp)) :: env) a' → K8 P ops Q T cc fuel (listed.setIfInBounds i true) a' w):K8 P ops Q T cc (fuel + 1) listed a w:=by
 have h0:0 ≤ q:=by omega
 have h1:q ≤ cp:=by omega
 obtain rfl:j = q.toNat:=by omega
 unfold N9 at h
 split at h
 ·rename_i t' x lo hi d2 ho
  have hd:d2 < n:=(I6 hE ho).choose_spec.2.2.2.1
  split at h
  ·simp at h
  ·split at h <;> simp at h
  ·rename_i s hh hs
   split at h
   ·rename_i k q' hs2
    simp only [Option.some.injEq,Prod.mk.injEq,true_and] at h
    obtain ⟨rfl,hsv,rfl,rfl⟩:=h
    have e1:=(E9 hE hs).1
    have e2:=(E9 hE hs2).1
    obtain ⟨o',g1,g2,g3,g4,g5⟩:=I6 hE ho
    simp only [O8,Bool.and_eq_true,and_true] at hk
    refine Cd g1 hns hk.1.1 hk.1.2 hk.2 hQ (v:=.slice A q'.toNat cp) (.inl ⟨g2,fun w' _=>?_⟩) hT ?_
    ·unfold execOp
     rw [g5]
     rw [hsv] at e1
     simp only [SV.val] at e2
     simp only [e1,e2,Option.map_none,Option.map_some,Sem.run_bind,Hu ht h0 h1,Result.andThen_ok,Sem.run_pure]
    rw [g3]
    exact K _ (hE.put hd (.v _) trivial)
   cases h
  ·split at h <;> simp at h
  cases h
 cases h
theorem Nn {ops:Array Oper} {Q:Exit → Act → World → Prop} {T:World → Prop} {cc:Nat} {a:Act} {w:World} {i d' j fuel:Nat} {t e:TypeId} {bytes m cp:Nat} {A:Option Addr} {q:Int} {listed:Array Bool} (hE:EnvOk n tb env a) (h:N9 tb env ops n i = some (t,.slice A m cp,some q,none,d')) (ht:J0 P t = some (e,1,bytes)) (hq:q = (j:Int)) (hj:j ≤ m)
  (hns:Region.noSelect ops = true) (hk:O8 ops cc [i] listed = true) (hQ:R5 Q) (hT:T w)
  (K:∀ a',EnvOk n tb ((d',.v (.slice (I2 A cp j) (m - j) (cp - j))) :: env) a' → K8 P ops Q T cc fuel (listed.setIfInBounds i true) a' w):K8 P ops Q T cc (fuel + 1) listed a w:=by
 have h0:0 ≤ q:=by omega
 have h1:q ≤ m:=by omega
 obtain rfl:j = q.toNat:=by omega
 unfold N9 at h
 split at h
 ·rename_i t' x lo hi d2 ho
  have hd:d2 < n:=(I6 hE ho).choose_spec.2.2.2.1
  split at h
  ·simp at h
  ·rename_i s l hs
   split at h
   ·rename_i k q' hs2
    simp only [Option.some.injEq,Prod.mk.injEq,true_and] at h
    obtain ⟨rfl,hsv,rfl,rfl⟩:=h
    have e1:=(E9 hE hs).1
    have e2:=(E9 hE hs2).1
    obtain ⟨o',g1,g2,g3,g4,g5⟩:=I6 hE ho
    simp only [O8,Bool.and_eq_true,and_true] at hk
    refine Cd g1 hns hk.1.1 hk.1.2 hk.2 hQ (v:=.slice (I2 A cp q'.toNat) (m - q'.toNat) (cp - q'.toNat)) (.inl ⟨g2,fun w' _=>?_⟩) hT ?_
    ·unfold execOp
     rw [g5]
     rw [hsv] at e1
     simp only [SV.val] at e2
     simp only [e1,e2,Option.map_none,Option.map_some,Sem.run_bind,Jg ht h0 h1,Result.andThen_ok,Sem.run_pure]
    rw [g3]
    exact K _ (hE.put hd (.v _) trivial)
   cases h
  ·split at h <;> simp at h
  ·split at h <;> simp at h
  cases h
 cases h
def GD (N:Act → World → Prop):Exit → Act → World → Prop:=fun e a w=>e = .normal ∧ N a w
theorem CB {N:Act → World → Prop}:R5 (GD N):=fun ch a d v w h=>by cases h.1
theorem No {w:World} {base e n c:Nat} {A:Option Addr} {xs:List Value} (h:w.ownsRow base e 1 (.slice A n c) n xs):n ≤ c:=by
 rcases h.2 with ⟨hv,rfl⟩ | ⟨g,cap,cur,hv,h1,h2,h3,_⟩
 ·exact Nat.zero_le _
 simp only [Value.slice.injEq] at hv
 obtain ⟨_,_,rfl⟩:=hv
 exact h3
theorem GE {x:Nat} (h:x < 4294967296):IntKind.u32.wrap ((x:Nat):Int) = ((x:Nat):Int):=by rw [D5]; omega
def Jq:Nat → Code → Code
 | 0,c=>c
 | k + 1,.seq _ c=>Jq k c
 | _ + 1,c=>c
def GF (P:Program) (n:Nat) (w0:World) (A0:Option Addr) (e8 d:Nat) (tb:Tb) (tbs:Nat → Tb) (env e1:B8) (c:Code):Prop :=
 ∀ (Q:Exit → Act → World → Prop) (A:Option Addr) (cp:Nat) (s:Bs) (a:Act) (w:World),EnvOk n tb ((d,.v (.slice A s.length cp)) :: env) a → WOk w0 (F4 A0) w tb [B0 A cp e8 s] →
  (∀ q A' cp' a' w',EnvOk n (tbs q) ((d,.v (.slice A' s.length cp')) :: e1) a' → WOk w0 (F4 A0) w' (tbs q) [B0 A' cp' e8 s] → Q .normal a' w') → c.wp P Q a w
theorem Np {id:Nat} {ops:Array Oper} (keys:List Nat) (h:∀ A m cp,G7 P ops n tb (List.range ops.size) (d :: keys) ((d,.v (.slice A m cp)) :: env) = some ((d,.v (.slice A m cp)) :: e1)) :
  GF P n w0 A0 e8 d tb (fun _=>tb) env e1 (.region id ops false):=fun Q A cp s a w hE hW k =>
 E4 _ rfl (F9 (List.range ops.size) [] (d :: keys) hW hE (h _ _ _) (List.append_nil _).symm fun a' hE'=>B4 (k 0 A cp a' w hE' hW))
theorem Nq {id:Nat} {ops:Array Oper} (i:Nat) (keys:List Nat) {cs:List Value} (h:∀ blk A m cp,Y0 P ops n tb i (d :: keys) blk ((d,.v (.slice A m cp)) :: env) = some (cs,(d,.v (.slice A m cp)) :: e1)) (hi:Nat.beq (i + 2) ops.size = true) :
  GF P n w0 A0 e8 d tb (fun q=>tb ++ [⟨q,0,cs,true⟩]) env e1 (.region id ops false):=fun Q A cp s a w hE hW k=>by
 have hi':i + 2 = ops.size:=Nat.eq_of_beq_eq_true hi
 obtain ⟨e,t,zs,h1,h2,h3,h4⟩:=HA (h w.heap.size A s.length cp)
 refine E4 (List.range i ++ [i,i + 1]) (by rw [← hi',List.range_succ,List.range_succ,List.append_assoc]; rfl) ?_
 refine O1 hW.cells hE h1 fun a1 hE1=>B1 (N6 hW hE1 h2 fun b a2 w2 hb hb0 hF2 hW2 hE2=>B1 ?_)
 subst hb
 refine I9 hW2 hE2 h3 fun w3 hF3 hW3 hE3=>B4 ?_
 rw [HB] at hW3 hE3
 exact k w.heap.size A cp a2 w3 (hE3.pick h4) hW3
theorem Nr {id:Nat} {ops:Array Oper} {eA:B8} {t1 t2:Nat} {f1 f:FuncId} {vs1 vs:List Value} {r1 r:Value} (N i j:Nat) (L0 L3 k0 keys:List Nat) (hm:P.follows .mixedOrders = true) (hns:Region.noSelect ops = true) (hsz:Nat.beq ops.size N = true) (hN:Nat.beq N (L0.length + (L3.length + 2)) = true)
  (g1:∀ A m cp,G7 P ops n tb L0 (d :: k0) ((d,.v (.slice A m cp)) :: env) = some ((d,.v (.slice A m cp)) :: eA)) (k1:O8 ops N L0 (Array.replicate N false) = true)
  (c1:∀ A m cp,L5 tb ((d,.v (.slice A m cp)) :: eA) ops n i = some (f1,vs1,t1)) (k2:Region.ready .any ops (O9 L0 (Array.replicate N false)) = [i])
  (c2:∀ A m cp,L5 tb ((t1,.v r1) :: (d,.v (.slice A m cp)) :: eA) ops n j = some (f,vs,t2)) (k3:Region.ready .any ops ((O9 L0 (Array.replicate N false)).setIfInBounds i true) = [j])
  (g3:∀ A m cp,G7 P ops n tb L3 (d :: keys) ((t2,.v r) :: (t1,.v r1) :: (d,.v (.slice A m cp)) :: eA) = some ((d,.v (.slice A m cp)) :: env'))
  (k4:O8 ops N L3 (((O9 L0 (Array.replicate N false)).setIfInBounds i true).setIfInBounds j true) = true) (k5:Region.ready .any ops (O9 L3 (((O9 L0 (Array.replicate N false)).setIfInBounds i true).setIfInBounds j true)) = [])
  (hf1:∀ args w,(callFunc f1 args).run P w = .ok (.enter f1 args) w) (hf:∀ args w,(callFunc f args).run P w = .ok (.enter f args) w)
  (hc1:∀ w:World,Calls P f1 vs1.toArray w (J9 w r1)) (hc:∀ w:World,Calls P f vs.toArray w (J9 w r)):Ch P n w0 A0 e8 d tb env env' (.region id ops true) []:=fun Q A cp s a w hE hW hr k=>by
 have hsz':ops.size = N:=Nat.eq_of_beq_eq_true hsz
 have hN':N = L0.length + (L3.length + 2):=Nat.eq_of_beq_eq_true hN
 refine wp_mono (Q:=GD fun a_ w_=>EnvOk n tb ((d,.v (.slice A s.length cp)) :: env') a_ ∧ WOk w0 (F4 A0) w_ tb [B0 A cp e8 s]) ?_ ?_
 ·refine DB N hm hW fun w6 hF6 hW6 hT6=>?_
  rw [hsz']
  refine CS L0 (d :: k0) (L3.length + 2) hns CB (fun _ h=>h.cells) hT6 hE k1 (g1 _ _ _) hN' fun a7 hE7=>?_
  refine H6 k2 (D6 hE7 (c1 _ _ _) hf1 (hc1 w6) ?_)
  rintro e_ w7 ⟨rfl,hs7⟩
  refine ⟨_,rfl,fun a8 hE8=>?_⟩
  have hW7:=hW6.next_nil hs7
  have hF7:=hW6.frN hs7
  refine ⟨fun _=>TT.ofW hF7 hW7 List.take_length,?_⟩
  refine H6 k3 (D6 hE8 (c2 _ _ _) hf (hc w7) ?_)
  rintro e_ w8 ⟨rfl,hs8⟩
  refine ⟨_,rfl,fun a9 hE9=>?_⟩
  have hW8:=hW7.next_nil hs8
  have hT8:=TT.ofW (hF7.trans (hW7.frN hs8)) hW8 List.take_length
  refine ⟨fun _=>hT8,?_⟩
  refine CS L3 (d :: keys) 0 hns CB (fun _ h=>h.cells) hT8 hE9 k4 (g3 _ _ _) rfl fun aa hEa=>?_
  exact L6 k5 ⟨rfl,hEa,hW8⟩ _
 rintro e_ a_ w_ ⟨rfl,hE',hW'⟩
 exact k A cp a_ w_ (by simpa using hE') (by simpa using hW')
theorem WOk.atQ {tb:Tb} {M:Nat → Nat → Prop} {rs:List Rw} {w:World} (hW:WOk w0 M w tb rs) {q:Nat} {ob:Ob} (hq:tb[q]? = some ob):AtF w (fun b _=>b = ob.blk) ob.blk ob.off ob.cells:=fun j v hj=>⟨rfl,hW.cells q ob hq j v hj⟩
theorem AtF.orR {F:Nat → Nat → Prop} {w:World} {b o k:Nat} {cs:List Value} (h:AtF w (fun b _=>b = k) b o cs):AtF w (fun b o=>F b o ∨ b = k) b o cs:=fun j v hj=>⟨.inr (h j v hj).1,(h j v hj).2⟩
theorem MapR.orL {F:Nat → Nat → Prop} {w:World} {m:Option Nat} {u:List (Int × Bs)} {k:Nat} (h:MapR w F m u):MapR w (fun b o=>F b o ∨ b = k) m u:=h.move (Step.refl _ C7) B2 fun b o g _=>.inl g
theorem Ns {F:Nat → Nat → Prop} {w0:World} {A0 A:Option Addr} {k:Nat} (hF:∀ b o,F b o → ¬ F4 A0 b o) (hA:M8 w0 A0 A) (hk:∀ g,A.map (·.block) = some g → g ≠ k):∀ b o,(Lo F w0 b o ∨ b = k) → ¬ F4 A b o:=fun b o h hb=>by
 rcases h with h | rfl
 ·exact R8 hF hA b o h hb
 exact hk b hb rfl
theorem WOk.rowQ {tb:Tb} {A:Option Addr} {cp:Nat} {s:Bs} {w:World} (hW:WOk w0 (F4 A0) w tb [B0 A cp e8 s]) {q:Nat} {ob:Ob} (hq:tb[q]? = some ob):∀ g,A.map (·.block) = some g → g ≠ ob.blk:=fun g hg e=>hW.rtb 0 _ rfl g hg q ob hq e.symm
theorem Nt {id:Nat} {ops:Array Oper} (q:Nat) {ob:Ob} (hq:tb[q]? = some ob) (i j:Nat) (keys:List Nat) {f1 f:FuncId} {vs1 vs:List Value} {r1:Value}
  (h:∀ A m cp A' m' cp',DC P ops n tb i j (d :: keys) ((d,.v (.slice A m cp)) :: env) r1 (.slice A' m' cp') = some ((f1,vs1),(f,.slice A m cp :: vs),(d,.v (.slice A' m' cp')) :: env'))
  (hi:(Nat.blt i j && Nat.blt j ops.size) = true) (hf1:∀ args w,(callFunc f1 args).run P w = .ok (.enter f1 args) w) (hf:∀ args w,(callFunc f args).run P w = .ok (.enter f args) w)
  (hc1:∀ (w:World),Step w0 w (F4 A0) → AtF w (fun b _=>b = ob.blk) ob.blk ob.off ob.cells → Calls P f1 vs1.toArray w (J9 w r1))
  (hc:∀ (A:Option Addr) (cp:Nat) (s:Bs) (w:World),Step w0 w (F4 A0) → M8 w0 A0 A → w.ownsRow 0 e8 1 (.slice A s.length cp) s.length (bc s) → s.length + x.length + 16 ≤ 1099511627776 → Calls P f (.slice A s.length cp :: vs).toArray w (L1 w e8 A (s ++ x))) :
  Ch P n w0 A0 e8 d tb env env' (.region id ops false) x:=fun Q A cp s a w hE hW hr k=>by
 have hi':i < j ∧ j < ops.size:=by simpa [Nat.blt_eq] using hi
 obtain ⟨e,t1,e2,t,h1,h2,h3,h4,_⟩:=DD (h A s.length cp none 0 0)
 refine E4 (List.range i ++ i :: (upto (i + 1) j ++ j :: upto (j + 1) ops.size)) (by
  rw [← upto_split' (by omega) hi'.2,← R0 (by omega)]; rfl) ?_
 refine O1 hW.cells hE h1 fun a1 hE1=>B1 (D6 hE1 h2 hf1 (hc1 w hW.step (hW.atQ hq)) ?_)
 rintro e_ w1 ⟨rfl,hs1⟩
 refine ⟨_,rfl,fun a2 hE2=>?_⟩
 have hW1:=hW.next_nil hs1
 refine O1 hW1.cells hE2 h3 fun a3 hE3=>B1 (D6 hE3 h4 hf (hc A cp s w1 hW1.step (Cf hW1) (hW1.own 0 _ rfl) hr) ?_)
 rintro e_ w' ⟨A',c',rfl,ho,hs,hn⟩
 refine ⟨_,rfl,fun a4 hE4=>?_⟩
 obtain ⟨e',t1',e2',t',g1,g2,g3,g4,g5⟩:=DD (h A s.length cp A' (s ++ x).length c')
 rw [h1] at g1
 obtain rfl:=Option.some.inj g1
 rw [h2] at g2
 simp only [Option.some.injEq,Prod.mk.injEq,true_and] at g2
 subst g2
 rw [h3] at g3
 obtain rfl:=Option.some.inj g3
 rw [h4] at g4
 simp only [Option.some.injEq,Prod.mk.injEq,true_and] at g4
 subst g4
 have hW':WOk w0 (F4 A0) w' tb [B0 A' c' e8 (s ++ x)]:=hW1.grow (k:=0) rfl hs ho hn
 refine F9 (upto (j + 1) ops.size) [] (d :: keys) hW' hE4 g5 (List.append_nil _).symm fun a5 hE5=>B4 ?_
 exact k A' c' a5 w' hE5 hW'
theorem Nu {id:Nat} {ops:Array Oper} (q:Nat) {ob:Ob} (hq:tb[q]? = some ob) (i:Nat) (keys:List Nat) {f:FuncId} (args:Value → List Value)
  (h:∀ A m cp A' m' cp',By P ops n tb i (d :: keys) ((d,.v (.slice A m cp)) :: env) (.slice A' m' cp') = some ((f,args (.slice A m cp)),(d,.v (.slice A' m' cp')) :: env'))
  (hi:Nat.blt i ops.size = true) (hf:∀ args w,(callFunc f args).run P w = .ok (.enter f args) w)
  (hc:∀ (A:Option Addr) (cp:Nat) (s:Bs) (w:World),Step w0 w (F4 A0) → M8 w0 A0 A → AtF w (fun b _=>b = ob.blk) ob.blk ob.off ob.cells → (∀ g,A.map (·.block) = some g → g ≠ ob.blk) → w.ownsRow 0 e8 1 (.slice A s.length cp) s.length (bc s) → s.length + x.length + 16 ≤ 1099511627776 → Calls P f (args (.slice A s.length cp)).toArray w (L1 w e8 A (s ++ x))) :
  Ch P n w0 A0 e8 d tb env env' (.region id ops false) x:=fun Q A cp s a w hE hW hr k=>by
 have hi':i < ops.size:=by simpa [Nat.blt_eq] using hi
 obtain ⟨e,t,h1,h2,_⟩:=X9 (h A s.length cp none 0 0)
 refine E4 (List.range i ++ i :: upto (i + 1) ops.size) (by rw [← R0 hi']; rfl) ?_
 refine O1 hW.cells hE h1 fun a1 hE1=>B1 (D6 hE1 h2 hf (hc A cp s w hW.step (Cf hW) (hW.atQ hq) (hW.rowQ hq) (hW.own 0 _ rfl) hr) ?_)
 rintro e_ w' ⟨A',c',rfl,ho,hs,hn⟩
 refine ⟨_,rfl,fun a2 hE2=>?_⟩
 obtain ⟨e',t',g1,g2,g3⟩:=X9 (h A s.length cp A' (s ++ x).length c')
 rw [h1] at g1
 obtain rfl:=Option.some.inj g1
 rw [h2] at g2
 simp only [Option.some.injEq,Prod.mk.injEq,true_and] at g2
 subst g2
 have hW':WOk w0 (F4 A0) w' tb [B0 A' c' e8 (s ++ x)]:=hW.grow (k:=0) rfl hs ho hn
 refine F9 (upto (i + 1) ops.size) [] (d :: keys) hW' hE2 g3 (List.append_nil _).symm fun a3 hE3=>B4 ?_
 exact k A' c' a3 w' hE3 hW'
theorem Jr {tbs:Nat → Tb} {c3 rest:Code} {id77 id81 id82 id83:Nat} {ops77 ops81 ops82 ops83:Array Oper} {E kx:Bs} {e2 e3:B8} {eL:Nat → Bool → B8} {fU:FuncId} {t bytes:Nat} (l tc p0 p1 s2 p3 p4 s5 s6 s7 s8:Nat) (kL:List Nat)
  (kT:Nat) (hT_:Jq kT rest = .seq (.region id81 ops81 false) (.cond (.tmp tc) (.seq (.region id82 ops82 true) (.seq (.region id83 ops83 false) (.goto l))) .skip))
  (hl:findLabel (.seq c1 (.seq c2 (.seq c3 (.seq (.region id77 ops77 false) (.seq (.label l) rest))))) l = some (.seq .skip rest))
  (h1:GF P n w0 A0 e8 d tb tbs env e1 c1) (h2:∀ q,Ch P n w0 A0 e8 d (tbs q) e1 e2 c2 kx) (h3:∀ q,Ch P n w0 A0 e8 d (tbs q) e2 e3 c3 [])
  (h77:∀ q A m cp,G7 P ops77 n (tbs q) (List.range ops77.size) (d :: kL) ((d,.v (.slice A m cp)) :: e3) = some ((d,.v (.slice A m cp)) :: eL m false))
  (hE:∀ q L z,CA P n w0 A0 e8 d (tbs q) (eL L z) (eL L z) (.seq (.region id81 ops81 false) (.cond (.tmp tc) (.seq (.region id82 ops82 true) (.seq (.region id83 ops83 false) (.goto l))) .skip)) rest E)
  (h81:∀ q L z A m cp,G7 P ops81 n (tbs q) (List.range ops81.size) (d :: tc :: kL) ((d,.v (.slice A m cp)) :: eL L z) = some ((d,.v (.slice A m cp)) :: (tc,.v (.bool (!z))) :: eL L z))
  (hm:P.follows .mixedOrders = true) (hns:Region.noSelect ops82 = true) (hsz:Nat.beq ops82.size 10 = true) (ht:J0 P t = some (e8,1,bytes))
  (r1:∀ q A m cp L,G7 P ops82 n (tbs q) [0,1,3,4] (d :: p0 :: p1 :: p3 :: p4 :: kL) ((d,.v (.slice A m cp)) :: (tc,.v (.bool true)) :: eL L false) = some ((d,.v (.slice A m cp)) :: (p0,.v (.slice A m cp)) :: (p1,.v (.int .i64 ((L:Nat):Int))) :: (p3,.v (.slice A m cp)) :: (p4,.v (.int .i64 ((L:Nat):Int))) :: eL L false))
  (k1:O8 ops82 9 [0,1,3,4] (Array.replicate 10 false) = true)
  (r2:∀ q A m cp L,N9 (tbs q) ((d,.v (.slice A m cp)) :: (p0,.v (.slice A m cp)) :: (p1,.v (.int .i64 ((L:Nat):Int))) :: (p3,.v (.slice A m cp)) :: (p4,.v (.int .i64 ((L:Nat):Int))) :: eL L false) ops82 n 2 = some (t,.slice A m cp,none,some ((L:Nat):Int),s2))
  (k2:O8 ops82 9 [2] (O9 [0,1,3,4] (Array.replicate 10 false)) = true)
  (r5:∀ q A m cp L,N9 (tbs q) ((s2,.v (.slice A L cp)) :: (d,.v (.slice A m cp)) :: (p0,.v (.slice A m cp)) :: (p1,.v (.int .i64 ((L:Nat):Int))) :: (p3,.v (.slice A m cp)) :: (p4,.v (.int .i64 ((L:Nat):Int))) :: eL L false) ops82 n 5 = some (t,.slice A m cp,some ((L:Nat):Int),none,s5))
  (k5:O8 ops82 9 [5] ((O9 [0,1,3,4] (Array.replicate 10 false)).setIfInBounds 2 true) = true)
  (r6:∀ q A m cp L B p q',G7 P ops82 n (tbs q) [6,7] (d :: s2 :: s7 :: kL) ((s5,.v (.slice B p q')) :: (s2,.v (.slice A L cp)) :: (d,.v (.slice A m cp)) :: (p0,.v (.slice A m cp)) :: (p1,.v (.int .i64 ((L:Nat):Int))) :: (p3,.v (.slice A m cp)) :: (p4,.v (.int .i64 ((L:Nat):Int))) :: eL L false) = some ((d,.v (.slice A m cp)) :: (s2,.v (.slice A L cp)) :: (s7,.v (.int .u32 (IntKind.u32.wrap ((p:Nat):Int)))) :: eL L false))
  (k6:O8 ops82 9 [6,7] (((O9 [0,1,3,4] (Array.replicate 10 false)).setIfInBounds 2 true).setIfInBounds 5 true) = true)
  (r8:∀ q A m cp L p,L5 (tbs q) ((d,.v (.slice A m cp)) :: (s2,.v (.slice A L cp)) :: (s7,.v (.int .u32 (IntKind.u32.wrap ((p:Nat):Int)))) :: eL L false) ops82 n 8 = some (fU,[.slice A L cp,.int .u32 (IntKind.u32.wrap ((p:Nat):Int))],s8))
  (k8:Region.ready .any ops82 (O9 [6,7] (((O9 [0,1,3,4] (Array.replicate 10 false)).setIfInBounds 2 true).setIfInBounds 5 true)) = [8])
  (r9:∀ q A m cp L p A' m' cp',G7 P ops82 n (tbs q) [9] (d :: kL) ((s8,.v (.slice A' m' cp')) :: (d,.v (.slice A m cp)) :: (s2,.v (.slice A L cp)) :: (s7,.v (.int .u32 (IntKind.u32.wrap ((p:Nat):Int)))) :: eL L false) = some ((d,.v (.slice A' m' cp')) :: eL L false))
  (k9:Region.ready .any ops82 ((O9 [6,7] (((O9 [0,1,3,4] (Array.replicate 10 false)).setIfInBounds 2 true).setIfInBounds 5 true)).setIfInBounds 8 true) = [9])
  (k10:Region.ready .any ops82 (((O9 [6,7] (((O9 [0,1,3,4] (Array.replicate 10 false)).setIfInBounds 2 true).setIfInBounds 5 true)).setIfInBounds 8 true).setIfInBounds 9 true) = [])
  (hU:∀ (y:Nat),y < 4294967296 → ∀ (A:Option Addr) (cp:Nat) (s:Bs) (w:World),w.ownsRow 0 e8 1 (.slice A s.length cp) s.length (bc s) → s.length + (uv y).length + 16 ≤ 1099511627776 → Calls P fU #[.slice A s.length cp,.int .u32 ((y:Nat):Int)] w (L1 w e8 A (s ++ uv y)))
  (hfU:∀ args w,(callFunc fU args).run P w = .ok (.enter fU args) w)
  (h83:∀ q A m cp L,G7 P ops83 n (tbs q) (List.range ops83.size) (d :: kL) ((d,.v (.slice A m cp)) :: eL L false) = some ((d,.v (.slice A m cp)) :: eL L true))
  (hp:∀ A m cp L,pick ((d,.v (.slice A m cp)) :: (tc,.v (.bool false)) :: eL L true) (d :: K3 env') = some ((d,.v (.slice A m cp)) :: env')) (hn0:Nat.beq d tc = false) (hlen:E.length < 4294967296) (hb:∀ q,(tbs q).take tb.length = tb) (hbe:O0 tb.length env' = true) :
  Ch P n w0 A0 e8 d tb env env' (.scope (.seq c1 (.seq c2 (.seq c3 (.seq (.region id77 ops77 false) (.seq (.label l) rest)))))) (kx ++ (uv E.length ++ E)):=fun Q A cp s a w hEn hW hr k=>by
 simp only [List.length_append] at hr
 refine wp_scope_jumps l (fun a_ w_=>∃ q A' cp',EnvOk n (tbs q) ((d,.v (.slice A' ((s ++ kx) ++ uv E.length).length cp')) :: eL (s ++ kx).length true) a_ ∧ WOk w0 (F4 A0) w_ (tbs q) [B0 A' cp' e8 ((s ++ kx) ++ uv E.length)]) (fun _ _=>0) hl ?_ ?_
 ·refine wp_seq (h1 _ A cp s a w hEn hW fun q A1 cp1 a1 w1 hE1 hW1=>A4 ?_)
  refine wp_seq (h2 q _ A1 cp1 s a1 w1 hE1 hW1 (by omega) fun A2 cp2 a2 w2 hE2 hW2=>A4 ?_)
  refine wp_seq (h3 q _ A2 cp2 (s ++ kx) a2 w2 hE2 hW2 (by simp; omega) fun A3 cp3 a3 w3 hE3 hW3=>A4 ?_)
  rw [List.append_nil] at hE3 hW3
  refine C1 _ rfl (F9 (List.range ops77.size) [] (d :: kL) hW3 hE3 (h77 q _ _ _) (List.append_nil _).symm fun a4 hE4=>B4 (A4 ?_))
  refine wp_seq (wp_label (A4 (hE q (s ++ kx).length false _ A3 cp3 (s ++ kx) a4 w3 hE4 hW3 (by simp only [List.length_append]; omega) fun A5 cp5 a5 w5 hE5 hW5=>?_)))
  refine C1 _ rfl (F9 (List.range ops81.size) [] (d :: tc :: kL) hW5 hE5 (h81 q _ _ _ _ _) (List.append_nil _).symm fun a6 hE6=>B4 (A4 ?_))
  refine N7 hE6 (b:=true) (by simp [E7,lk,hn0]) rfl ?_
  have hsz':ops82.size = 10:=Nat.eq_of_beq_eq_true hsz
  refine wp_seq (wp_mono (Q:=GD fun a_ w_=>∃ A' cp',EnvOk n (tbs q) ((d,.v (.slice A' ((s ++ kx) ++ uv E.length).length cp')) :: eL (s ++ kx).length false) a_ ∧ WOk w0 (F4 A0) w_ (tbs q) [B0 A' cp' e8 ((s ++ kx) ++ uv E.length)]) ?_ ?_)
  ·refine DB 9 hm hW5 fun w6 hF6 hW6 hT6=>?_
   have e10:(Array.replicate ops82.size false) = Array.replicate 10 false:=by rw [hsz']
   rw [e10,hsz']
   refine CS [0,1,3,4] _ 6 hns CB (fun _ h=>h.cells) hT6 hE6 k1 (r1 q _ _ _ _) rfl fun a7 hE7=>?_
   have hcap:((s ++ kx) ++ E).length ≤ cp5:=No (hW6.own 0 _ rfl)
   refine Nm (j:=(s ++ kx).length) hE7 (r2 q _ _ _ _) ht rfl (Nat.le_trans (by simp only [List.length_append]; omega) hcap) hns k2 CB hT6 fun a8 hE8=>?_
   refine Nn (j:=(s ++ kx).length) hE8 (r5 q _ _ _ _) ht rfl (by simp only [List.length_append]; omega) hns k5 CB hT6 fun a9 hE9=>?_
   refine CS [6,7] _ 2 hns CB (fun _ h=>h.cells) hT6 hE9 k6 (r6 q _ _ _ _ _ _ _) rfl fun a10 hE10=>?_
   have ep:((s ++ kx) ++ E).length - (s ++ kx).length = E.length:=by rw [List.length_append]; omega
   have hown:w6.ownsRow 0 e8 1 (.slice A5 (s ++ kx).length cp5) (s ++ kx).length (bc (s ++ kx)):=by
    have:=Nk (m:=(s ++ kx).length) (hW6.own 0 _ rfl) (show (s ++ kx).length ≤ ((s ++ kx) ++ E).length by simp only [List.length_append]; omega)
    rwa [show (B0 A5 cp5 e8 ((s ++ kx) ++ E)).xs = bc ((s ++ kx) ++ E) from rfl,Nl] at this
   have r8':=r8 q A5 ((s ++ kx) ++ E).length cp5 (s ++ kx).length (((s ++ kx) ++ E).length - (s ++ kx).length)
   rw [ep,GE hlen] at r8'
   rw [ep,GE hlen] at hE10
   refine H6 k8 (D6 hE10 r8' hfU (hU E.length hlen A5 cp5 (s ++ kx) w6 hown (by simp only [List.length_append]; omega)) ?_)
   rintro e_ w7 ⟨A7,c7,rfl,ho7,hs7,hn7⟩
   refine ⟨_,rfl,fun a11 hE11=>?_⟩
   have hW7:WOk w0 (F4 A0) w7 (tbs q) [B0 A7 c7 e8 ((s ++ kx) ++ uv E.length)]:=hW6.grow (k:=0) rfl hs7 ho7 hn7
   have hF7:Fr w6 (tbs q) [B0 A5 cp5 e8 ((s ++ kx) ++ E)] w7 (tbs q) [B0 A7 c7 e8 ((s ++ kx) ++ uv E.length)]:=Fr.grow (tbs q) (k:=0) (rs:=[B0 A5 cp5 e8 ((s ++ kx) ++ E)]) (r':=B0 A7 c7 e8 ((s ++ kx) ++ uv E.length)) rfl hs7 hn7
   refine ⟨fun _=>TT.ofW hF7 hW7 (List.take_length),?_⟩
   have r9':=r9 q A5 ((s ++ kx) ++ E).length cp5 (s ++ kx).length E.length A7 ((s ++ kx) ++ uv E.length).length c7
   rw [GE hlen] at r9'
   refine H6 k9 (W1 (d :: kL) hW7.cells hE11 r9' fun a12 hE12=>⟨fun h=>absurd rfl h,?_⟩)
   exact L6 k10 ⟨rfl,A7,c7,hE12,hW7⟩ _
  rintro e_ a_ w_ ⟨rfl,A7,c7,hE7,hW7⟩
  refine A4 (C1 _ rfl (F9 (List.range ops83.size) [] (d :: kL) hW7 hE7 (h83 q _ _ _ _) (List.append_nil _).symm fun a8 hE8=>B4 (A4 (wp_goto ⟨rfl,q,A7,c7,hE8,hW7⟩))))
 rintro a1 w1 ⟨q,A1,cp1,hE1,hW1⟩
 refine wp_seq (wp_skip (A4 (hE q (s ++ kx).length true _ A1 cp1 _ a1 w1 hE1 hW1 (by simp only [List.length_append]; omega) fun A5 cp5 a5 w5 hE5 hW5=>?_)))
 refine C1 _ rfl (F9 (List.range ops81.size) [] (d :: tc :: kL) hW5 hE5 (h81 q _ _ _ _ _) (List.append_nil _).symm fun a6 hE6=>B4 (A4 ?_))
 refine G6 hE6 (b:=false) (by simp [E7,lk,hn0]) rfl (wp_skip ?_)
 have hE7:=hE6.pick (hp _ _ _ _)
 have e:(s ++ kx ++ uv E.length) ++ E = s ++ (kx ++ (uv E.length ++ E)):=by simp only [List.append_assoc]
 rw [e] at hE7 hW5
 have g1:=EnvOk.cutTb tb.length hE7 (by simpa [O0] using hbe)
 have g2:=hW5.cutTb tb.length
 rw [hb q] at g1 g2
 exact k A5 cp5 a6 w5 g1 g2
end
def Bk (w:World) (F:Nat → Nat → Prop) (D:DV):Prop:=(True) ∧ ((∀ ad,(D.f 1).A = some ad → ∃ b o,ad = ⟨b,o,none⟩ ∧ AtF w F b o [.string (D.f 1).s]) ∧ (D.f 1).s.size ≤ 1000000) ∧ MapR w F D.m D.u ∧ D.u.length ≤ 1000000 ∧ (∀ x ∈ D.u,x.2.length < 4294967296) ∧ True
def BJ (w:World) (F:Nat → Nat → Prop) (D:DV):Prop:=(True) ∧ (True) ∧ MapR w F D.m D.u ∧ D.u.length ≤ 1000000 ∧ (∀ x ∈ D.u,x.2.length < 4294967296) ∧ (D7 D.u).length ≤ 1100000000 ∧ True
def BK (w:World) (F:Nat → Nat → Prop) (D:DV):Prop:=(True) ∧ (True) ∧ (True) ∧ (True) ∧ (True) ∧ (Slots w F 3 (D.f 5).A (D.f 5).c (D.f 5).l (fun i=>[.int .i32 ((((D.f 5).f i).f 0).n),.pointer ((((D.f 5).f i).f 1).A),.map (((D.f 5).f i).m)]) ∧ (D.f 5).l ≤ 1000000 ∧ ∀ i,i < (D.f 5).l → Bk w F ((D.f 5).f i)) ∧ ((∀ ad,(D.f 6).A = some ad → ∃ b o,ad = ⟨b,o,none⟩ ∧ AtF w F b o [.string (D.f 6).s]) ∧ (D.f 6).s.size ≤ 1000000) ∧ (BJ w F (D.f 7)) ∧ MapR w F D.m D.u ∧ D.u.length ≤ 1000000 ∧ (∀ x ∈ D.u,x.2.length < 4294967296) ∧ True
def BL (w:World) (F:Nat → Nat → Prop) (D:DV):Prop:=((D.f 0).s.size ≤ 1000000) ∧ ((D.f 1).o.length = 16) ∧ (Slots w F 11 (D.f 2).A (D.f 2).c (D.f 2).l (fun i=>[.int .i32 ((((D.f 2).f i).f 0).n),.int .i16 ((((D.f 2).f i).f 1).n),.int .i64 ((((D.f 2).f i).f 2).n),.int .i64 ((((D.f 2).f i).f 3).n),.int .i64 ((((D.f 2).f i).f 4).n),.slice ((((D.f 2).f i).f 5).A) ((((D.f 2).f i).f 5).l) ((((D.f 2).f i).f 5).c),.pointer ((((D.f 2).f i).f 6).A),.int .i32 (((((D.f 2).f i).f 7).f 0).n),.int .i32 (((((D.f 2).f i).f 7).f 1).n),.map ((((D.f 2).f i).f 7).m),.map (((D.f 2).f i).m)]) ∧ (D.f 2).l ≤ 1000000 ∧ ∀ i,i < (D.f 2).l → BK w F ((D.f 2).f i)) ∧ MapR w F D.m D.u ∧ D.u.length ≤ 1000000 ∧ (∀ x ∈ D.u,x.2.length < 4294967296) ∧ True
def W8 (w:World) (F:Nat → Nat → Prop) (D:DV):Prop:=(True) ∧ ((D.f 1).s.size ≤ 1000000) ∧ (True) ∧ ((∀ ad,(D.f 3).A = some ad → ∃ b o,ad = ⟨b,o,none⟩ ∧ AtF w F b o [.string (D.f 3).s]) ∧ (D.f 3).s.size ≤ 1000000) ∧ MapR w F D.m D.u ∧ D.u.length ≤ 1000000 ∧ (∀ x ∈ D.u,x.2.length < 4294967296) ∧ True
def CC (w:World) (F:Nat → Nat → Prop) (D:DV):Prop:=(Slots w F 19 (D.f 0).A (D.f 0).c (D.f 0).l (fun i=>[.string ((((D.f 0).f i).f 0).s),B7 ((((D.f 0).f i).f 1).o.getD 0 0),B7 ((((D.f 0).f i).f 1).o.getD 1 0),B7 ((((D.f 0).f i).f 1).o.getD 2 0),B7 ((((D.f 0).f i).f 1).o.getD 3 0),B7 ((((D.f 0).f i).f 1).o.getD 4 0),B7 ((((D.f 0).f i).f 1).o.getD 5 0),B7 ((((D.f 0).f i).f 1).o.getD 6 0),B7 ((((D.f 0).f i).f 1).o.getD 7 0),B7 ((((D.f 0).f i).f 1).o.getD 8 0),B7 ((((D.f 0).f i).f 1).o.getD 9 0),B7 ((((D.f 0).f i).f 1).o.getD 10 0),B7 ((((D.f 0).f i).f 1).o.getD 11 0),B7 ((((D.f 0).f i).f 1).o.getD 12 0),B7 ((((D.f 0).f i).f 1).o.getD 13 0),B7 ((((D.f 0).f i).f 1).o.getD 14 0),B7 ((((D.f 0).f i).f 1).o.getD 15 0),.slice ((((D.f 0).f i).f 2).A) ((((D.f 0).f i).f 2).l) ((((D.f 0).f i).f 2).c),.map (((D.f 0).f i).m)]) ∧ (D.f 0).l ≤ 1000000 ∧ ∀ i,i < (D.f 0).l → BL w F ((D.f 0).f i)) ∧ (True) ∧ (Slots w F 5 (D.f 2).A (D.f 2).c (D.f 2).l (fun i=>[.int .i32 ((((D.f 2).f i).f 0).n),.string ((((D.f 2).f i).f 1).s),.int .i32 ((((D.f 2).f i).f 2).n),.pointer ((((D.f 2).f i).f 3).A),.map (((D.f 2).f i).m)]) ∧ (D.f 2).l ≤ 1000000 ∧ ∀ i,i < (D.f 2).l → W8 w F ((D.f 2).f i)) ∧ MapR w F D.m D.u ∧ D.u.length ≤ 1000000 ∧ (∀ x ∈ D.u,x.2.length < 4294967296) ∧ True
theorem Nv (w:World) :
  Calls Tryz.prog 46 #[] w (J9 w (.agg #[.int .i32 (-1),.int .i32 (-1),.map none])):=by
 refine enter (n:=4) Tryz.func46 rfl Tryz.ntmps46 kz fun a hE=>?_
 have hW:=WOk.start w C7
 refine C1 [0] kz ?_
 refine B1 (N6 hW hE (d:=0) (cs:=[.int .i32 0,.int .i32 0,.map none]) kz fun b1 a2 w3 hb4 hz5 hF6 hW7 hE8=>?_)
 refine B4 (A4 ?_)
 refine C1 [0] kz ?_
 refine B1 (N6 hW7 hE8 (d:=1) (cs:=[.int .i32 0,.int .i32 0,.map none]) kz fun b9 aB aC av aw ax ac ag=>?_)
 refine B4 (A4 ?_)
 refine C1 [0] kz ?_
 refine B1 (R1 ag (f:=47) (vs:=[.pointer (some ⟨b9,0,none⟩)]) (d:=2) (n':=8) kz Tryz.call47 Tryz.func47 rfl Tryz.ntmps47 kz fun aD ah=>?_)
 have ai:=ah.recast 0 (.v (.pointer (some ⟨b9,0,none⟩))) (.p 1 0) rfl rfl (Nat.le_of_ble_eq_true (n:=2) rfl)
 refine C1 [0,1,2,3] kz ?_
 refine B3 [0,1,2] [3] [(0,.p 1 0),(4,.p 1 0)] ac ai fun aE aj=>?_
 refine B1 (I9 ac aj (oi:=1) (cs:=[.int .i32 (-1),.int .i32 0,.map none]) kz fun aF ay ae ak=>?_)
 refine B4 (A4 ?_)
 refine E4 [0,1,2,3] kz ?_
 refine B3 [0,1,2] [3] [(7,.p 1 1)] ae ak fun aG al=>?_
 refine B1 (I9 ae al (oi:=1) (cs:=[.int .i32 (-1),.int .i32 (-1),.map none]) kz fun aH az ab am=>?_)
 refine B4 (U3 am ab.cells (v:=.tuple #[]) kz ?_)
 refine ⟨_,rfl,fun aI ao=>?_⟩
 have ap:=(EnvOk.places (tb':=[⟨b1,0,[.int .i32 0,.int .i32 0,.map none],true⟩,⟨b9,0,[.int .i32 (-1),.int .i32 (-1),.map none],true⟩]) ao (show Pl [⟨b1,0,[.int .i32 0,.int .i32 0,.map none],true⟩,⟨b9,0,[.int .i32 0,.int .i32 0,.map none],true⟩] [⟨b1,0,[.int .i32 0,.int .i32 0,.map none],true⟩,⟨b9,0,[.int .i32 (-1),.int .i32 (-1),.map none],true⟩] from ⟨rfl,rfl,⟨rfl,rfl,trivial⟩⟩)).pk (env':=[(2,.v (.tuple #[])),(0,.p 0 0),(1,.p 1 0)])
 refine B4 (A4 ?_)
 refine C1 [0,1] kz ?_
 refine B3 [0] [1] [(0,.p 0 0),(3,.v (.agg #[.int .i32 (-1),.int .i32 (-1),.map none]))] ab ap fun aJ ar=>?_
 refine B1 (I9 ab ar (oi:=0) (cs:=[.int .i32 (-1),.int .i32 (-1),.map none]) kz fun aK aA af au=>?_)
 refine B4 (A4 ?_)
 refine wp_ret (D1 au af.cells (v:=.agg #[.int .i32 (-1),.int .i32 (-1),.map none]) kz ?_)
 exact ⟨rfl,af.step⟩
theorem Nw {d0 d1:Int} (n0 n1:Int) (m:Option Nat) (w:World) :
  Calls Tryz.prog 45 #[.agg #[.int .i32 n0,.int .i32 n1,.map m],.agg #[.int .i32 d0,.int .i32 d1,.map none]] w (J9 w (.bool ((n0 == d0) && ((n1 == d1) && m.isNone)))):=by
 refine enter (n:=24) Tryz.func45 rfl Tryz.ntmps45 kz fun a hE=>?_
 have hW:=WOk.start w C7
 refine C1 [0,1,2] kz ?_
 refine B1 (M2 hW hE (d:=2) (cs:=[.int .i32 n0,.int .i32 n1,.map m]) kz fun b1 a2 w3 hb4 hz5 hF6 hW7 hE8=>?_)
 refine B1 (M2 hW7 hE8 (d:=3) (cs:=[.int .i32 d0,.int .i32 d1,.map none]) kz fun b9 aI aJ aA aB aC ab al=>?_)
 let ac:Nat × SV:=(2,.p 0 0)
 let ae:Nat × SV:=(3,.p 1 0)
 refine B3 [2] [] [ac,ae] ab al fun aK am=>?_
 refine B4 (A4 ?_)
 refine C1 [0,1,2,3,4,5,6,7,8,9,10,11,12,13,14,15,16,17,18,19] kz ?_
 refine B3 [0,1,2,3,4,5] [6,7,8,9,10,11,12,13,14,15,16,17,18,19] [ac,ae,(10,.v (.bool (n0 == d0)))] ab am fun aL ai=>?_
 refine (Bool.eq_false_or_eq_true (n0 == d0)).elim (fun af=>?_) (fun af=>?_)
 ·
  have aD:n0 = d0:=by simpa using af
  have ao:=ai
  rw [af] at ao
  refine B3 [6,7,8,9,10,11,12] [13,14,15,16,17,18,19] [ac,ae,(17,.v (.bool (n1 == d1)))] ab ao fun aM aj=>?_
  refine (Bool.eq_false_or_eq_true (n1 == d1)).elim (fun ag=>?_) (fun ag=>?_)
  ·
   have aE:n1 = d1:=by simpa using ag
   have ap:=aj
   rw [ag] at ap
   refine B3 [13,14,15,16] [17,18,19] [(17,.v (.bool true)),(19,.v (.agg #[.map m])),(21,.v (.agg #[.map none]))] ab ap fun aN ar=>?_
   refine B1 (D6 ar (f:=86) (vs:=[.agg #[.map m],.agg #[.map none]]) (d:=22) kz Tryz.call86 (MP m _) ?_)
   rintro e_ aO ⟨rfl,ak⟩
   refine ⟨_,rfl,fun aP au=>?_⟩
   have ah:=ab.next_nil ak
   have aF:=ab.frN ak
   refine B3 [18,19] [] [(4,.v (.bool m.isNone))] ah au fun aQ av=>?_
   refine B4 (A4 ?_)
   refine wp_ret (D1 av ah.cells (v:=.bool m.isNone) kz ?_)
   exact ⟨by simp [ag,af],ah.step⟩
  have aG:n1 ≠ d1:=by simpa using ag
  have aw:=aj
  rw [ag] at aw
  refine B3 [13,14,15,16,17,18,19] [] [(4,.v (.bool false))] ab aw fun aR ax=>?_
  refine B4 (A4 ?_)
  refine wp_ret (D1 ax ab.cells (v:=.bool false) kz ?_)
  exact ⟨by simp [ag,af],ab.step⟩
 have aH:n0 ≠ d0:=by simpa using af
 have ay:=ai
 rw [af] at ay
 refine B3 [6,7,8,9,10,11,12,13,14,15,16,17,18,19] [] [(4,.v (.bool false))] ab ay fun aS az=>?_
 refine B4 (A4 ?_)
 refine wp_ret (D1 az ab.cells (v:=.bool false) kz ?_)
 exact ⟨by simp [af],ab.step⟩
def Y6 (v:Int) (D:DV):Bs:=((if (decide (v ≥ 9)) = true then (uv ((D.f 0).l + 1)) else (be 4 (D.f 0).l)) ++ ((List.range (D.f 0).l).flatMap fun k5=>(if ((if (decide (v ≥ 0)) = true then decide (v ≤ 12) else false)) = true then if (decide (v ≥ 9)) = true then (uv ((((D.f 0).f k5).f 0).s.size + 1) ++ sb (((D.f 0).f k5).f 0).s) else (be 2 (((D.f 0).f k5).f 0).s.size ++ sb (((D.f 0).f k5).f 0).s) else []) ++ ((if (decide (v ≥ 13)) = true then (((D.f 0).f k5).f 1).o else []) ++ (((if (decide (v ≥ 9)) = true then (uv ((((D.f 0).f k5).f 2).l + 1)) else (be 4 (((D.f 0).f k5).f 2).l)) ++ ((List.range (((D.f 0).f k5).f 2).l).flatMap fun ab=>(be 4 ((((((D.f 0).f k5).f 2).f ab).f 0).n)) ++ ((be 2 ((((((D.f 0).f k5).f 2).f ab).f 1).n)) ++ ((be 8 ((((((D.f 0).f k5).f 2).f ab).f 2).n)) ++ ((if (decide (v ≥ 2)) = true then be 8 ((((((D.f 0).f k5).f 2).f ab).f 3).n) else []) ++ ((if (decide (v ≥ 5)) = true then be 8 ((((((D.f 0).f k5).f 2).f ab).f 4).n) else []) ++ ((if (decide (v ≥ 8)) = true then (if (decide (v ≥ 9)) = true then (uv ((((((D.f 0).f k5).f 2).f ab).f 5).l + 1)) else (be 4 (((((D.f 0).f k5).f 2).f ab).f 5).l)) ++ ((List.range (((((D.f 0).f k5).f 2).f ab).f 5).l).flatMap fun ae=>(be 4 ((((((((D.f 0).f k5).f 2).f ab).f 5).f ae).f 0).n)) ++ ((if (decide (v ≥ 9)) = true then (if (((((((D.f 0).f k5).f 2).f ab).f 5).f ae).f 1).A.isNone = true then uv 0 else uv ((((((((D.f 0).f k5).f 2).f ab).f 5).f ae).f 1).s.size + 1) ++ sb (((((((D.f 0).f k5).f 2).f ab).f 5).f ae).f 1).s) else (if (((((((D.f 0).f k5).f 2).f ab).f 5).f ae).f 1).A.isNone = true then be 2 (-1) else be 2 (((((((D.f 0).f k5).f 2).f ab).f 5).f ae).f 1).s.size ++ sb (((((((D.f 0).f k5).f 2).f ab).f 5).f ae).f 1).s)) ++ (if (decide (v ≥ 9)) = true then (uv ((((((D.f 0).f k5).f 2).f ab).f 5).f ae).u.length) ++ (D7 ((((((D.f 0).f k5).f 2).f ab).f 5).f ae).u) else []))) else []) ++ ((if (decide (v ≥ 8)) = true then if (decide (v ≥ 9)) = true then (if (((((D.f 0).f k5).f 2).f ab).f 6).A.isNone = true then uv 0 else uv ((((((D.f 0).f k5).f 2).f ab).f 6).s.size + 1) ++ sb (((((D.f 0).f k5).f 2).f ab).f 6).s) else (if (((((D.f 0).f k5).f 2).f ab).f 6).A.isNone = true then be 2 (-1) else be 2 (((((D.f 0).f k5).f 2).f ab).f 6).s.size ++ sb (((((D.f 0).f k5).f 2).f ab).f 6).s) else []) ++ (if (decide (v ≥ 9)) = true then (uv (B5 (!((((((((D.f 0).f k5).f 2).f ab).f 7).f 0).n == (-1)) && ((((((((D.f 0).f k5).f 2).f ab).f 7).f 1).n == (-1)) && (((((D.f 0).f k5).f 2).f ab).f 7).m.isNone))) + ((((D.f 0).f k5).f 2).f ab).u.length)) ++ ((G8 (!((((((((D.f 0).f k5).f 2).f ab).f 7).f 0).n == (-1)) && ((((((((D.f 0).f k5).f 2).f ab).f 7).f 1).n == (-1)) && (((((D.f 0).f k5).f 2).f ab).f 7).m.isNone))) 0 ((be 4 (((((((D.f 0).f k5).f 2).f ab).f 7).f 0).n)) ++ ((be 4 (((((((D.f 0).f k5).f 2).f ab).f 7).f 1).n)) ++ (if (decide (v ≥ 9)) = true then (uv (((((D.f 0).f k5).f 2).f ab).f 7).u.length) ++ (D7 (((((D.f 0).f k5).f 2).f ab).f 7).u) else [])))) ++ (D7 ((((D.f 0).f k5).f 2).f ab).u)) else []))))))))) ++ (if (decide (v ≥ 9)) = true then (uv ((D.f 0).f k5).u.length) ++ (D7 ((D.f 0).f k5).u) else []))))) ++ ((if (decide (v ≥ 1)) = true then be 4 ((D.f 1).n) else []) ++ ((if (decide (v ≥ 9)) = true then (uv (B5 (decide ((((D.f 2).l:Nat):Int) > 0)) + D.u.length)) ++ ((G8 (decide ((((D.f 2).l:Nat):Int) > 0)) 0 ((if (decide (v ≥ 9)) = true then (uv ((D.f 2).l + 1)) else (be 4 (D.f 2).l)) ++ ((List.range (D.f 2).l).flatMap fun ac=>(be 4 ((((D.f 2).f ac).f 0).n)) ++ ((if (decide (v ≥ 9)) = true then (uv ((((D.f 2).f ac).f 1).s.size + 1) ++ sb (((D.f 2).f ac).f 1).s) else (be 2 (((D.f 2).f ac).f 1).s.size ++ sb (((D.f 2).f ac).f 1).s)) ++ ((be 4 ((((D.f 2).f ac).f 2).n)) ++ ((if (decide (v ≥ 9)) = true then (if (((D.f 2).f ac).f 3).A.isNone = true then uv 0 else uv ((((D.f 2).f ac).f 3).s.size + 1) ++ sb (((D.f 2).f ac).f 3).s) else (if (((D.f 2).f ac).f 3).A.isNone = true then be 2 (-1) else be 2 (((D.f 2).f ac).f 3).s.size ++ sb (((D.f 2).f ac).f 3).s)) ++ (if (decide (v ≥ 9)) = true then (uv ((D.f 2).f ac).u.length) ++ (D7 ((D.f 2).f ac).u) else []))))))) ++ (D7 D.u)) else []) ++ ([])))
theorem Nx (v:Int) (D:DV) (b o:Nat) (A:Option Addr) (cp:Nat) (s:Bs) (w:World) (F:Nat → Nat → Prop) (hat:AtF w F b o [.int .i16 v,.slice ((D.f 0).A) ((D.f 0).l) ((D.f 0).c),.int .i32 ((D.f 1).n),.slice ((D.f 2).A) ((D.f 2).l) ((D.f 2).c),.map D.m]) (hok:CC w F D) (hbl:((if (decide (v ≥ 9)) = true then (uv ((D.f 2).l + 1)) else (be 4 (D.f 2).l)) ++ ((List.range (D.f 2).l).flatMap fun ap=>(be 4 ((((D.f 2).f ap).f 0).n)) ++ ((if (decide (v ≥ 9)) = true then (uv ((((D.f 2).f ap).f 1).s.size + 1) ++ sb (((D.f 2).f ap).f 1).s) else (be 2 (((D.f 2).f ap).f 1).s.size ++ sb (((D.f 2).f ap).f 1).s)) ++ ((be 4 ((((D.f 2).f ap).f 2).n)) ++ ((if (decide (v ≥ 9)) = true then (if (((D.f 2).f ap).f 3).A.isNone = true then uv 0 else uv ((((D.f 2).f ap).f 3).s.size + 1) ++ sb (((D.f 2).f ap).f 3).s) else (if (((D.f 2).f ap).f 3).A.isNone = true then be 2 (-1) else be 2 (((D.f 2).f ap).f 3).s.size ++ sb (((D.f 2).f ap).f 3).s)) ++ (if (decide (v ≥ 9)) = true then (uv ((D.f 2).f ap).u.length) ++ (D7 ((D.f 2).f ap).u) else [])))))).length < 4294967296) (hF:∀ b o,F b o → ¬ F4 A b o) (ho:w.ownsRow 0 5 1 (.slice A s.length cp) s.length (bc s)) (hroom:s.length + (Y6 v D).length + 16 ≤ 1099511627776) :
  Calls Tryz.prog 19 [.pointer (some ⟨b,o,none⟩),.slice A s.length cp].toArray w (L1 w 5 A (s ++ Y6 v D)):=by
 unfold CC at hok
 obtain ⟨⟨g1,g1l,g1e⟩,g2,⟨g3,g3l,g3e⟩,g4,g4l,g4x,_⟩:=hok
 refine KN (n:=454) Tryz.func19 rfl Tryz.ntmps19 kz rfl ho hroom ?_
 unfold Y6
 refine Fz b o [.int .i16 v,.slice ((D.f 0).A) ((D.f 0).l) ((D.f 0).c),.int .i32 ((D.f 1).n),.slice ((D.f 2).A) ((D.f 2).l) ((D.f 2).c),.map D.m] hat hF kz kz ?_
 refine FA 0 0 0 b o (by simp) rfl rfl rfl ?_
 let ab:Nat × SV:=(0,.p 0 0)
 refine P6 (E6 (env':=[ab]) [0] (fun _ _ _=>by kernel_rfl)) ?_
 let ae:Nat × SV:=(5,.v (.int .i16 v))
 refine P6 (E6 (env':=[ab,ae]) [0,5] (fun _ _ _=>by kernel_rfl)) ?_
 refine P6 (E6 (env':=[ab,ae]) [0,5] (fun _ _ _=>by kernel_rfl)) ?_
 let ac:Nat × SV:=(6,.v (.bool (decide (v ≥ 9))))
 let aU:B8:=[ab,ae,ac]
 refine P6 (E6 (env':=aU) [0,5,6] (fun _ _ _=>by kernel_rfl)) ?_
 refine P6 (E6 (env':=aU) [0,5,6] (fun _ _ _=>by kernel_rfl)) ?_
 refine Cg (e1:=aU) ?_ ?_
 ·
  let af:Nat × SV:=(7,.v (.slice ((D.f 0).A) ((D.f 0).l) ((D.f 0).c)))
  let aY:B8:=[ab,ae,ac,af]
  refine G0 (E6 (env':=aY) [0,5,6,7] (fun _ _ _=>by kernel_rfl)) ?_
  refine K4 (e1:=aY) ?_ ?_
  ·
   refine G0 (E6 (env':=[ab,ae,ac,af,(59,.v (.bool (decide (v ≥ 9))))]) [0,5,6,7,59] (fun _ _ _=>by kernel_rfl)) ?_
   refine Y3 (b:=decide (v ≥ 9)) (fun _ _ _=>by kernel_rfl) (fun hb=>?_) (fun hb=>?_)
   ·
    exact J3 (f:=32) (vs:=[.int .i64 (((D.f 0).l:Nat):Int)]) 3 [0,5,6,7] (fun _ _ _ _ _ _=>by kernel_rfl) kz Tryz.call32 (fun A cp s w _ _ ho hr=>DR (D.f 0).l g1l A cp s w ho hr)
   exact J3 (f:=33) (vs:=[.int .i64 (((D.f 0).l:Nat):Int)]) 3 [0,5,6,7] (fun _ _ _ _ _ _=>by kernel_rfl) kz Tryz.call33 (fun A cp s w _ _ ho hr=>DQ (D.f 0).l A cp s w ho hr)
  let ag:Nat × SV:=(69,.v (.int .i64 (((D.f 0).l:Nat):Int)))
  refine G0 (E6 (env':=[(70,.v (.int .i64 0)),ab,ae,ac,af,ag]) [70,0,5,6,7,69] (fun _ _ _=>by kernel_rfl)) ?_
  refine Be (e1:=[ab,ae,ac,af,ag]) [0,5,6] (fun _ _ _=>by kernel_rfl) ?_
  refine Z3 (len:=(D.f 0).l) (xs:=fun k5=>(if ((if (decide (v ≥ 0)) = true then decide (v ≤ 12) else false)) = true then if (decide (v ≥ 9)) = true then (uv ((((D.f 0).f k5).f 0).s.size + 1) ++ sb (((D.f 0).f k5).f 0).s) else (be 2 (((D.f 0).f k5).f 0).s.size ++ sb (((D.f 0).f k5).f 0).s) else []) ++ ((if (decide (v ≥ 13)) = true then (((D.f 0).f k5).f 1).o else []) ++ (((if (decide (v ≥ 9)) = true then (uv ((((D.f 0).f k5).f 2).l + 1)) else (be 4 (((D.f 0).f k5).f 2).l)) ++ ((List.range (((D.f 0).f k5).f 2).l).flatMap fun ai=>(be 4 ((((((D.f 0).f k5).f 2).f ai).f 0).n)) ++ ((be 2 ((((((D.f 0).f k5).f 2).f ai).f 1).n)) ++ ((be 8 ((((((D.f 0).f k5).f 2).f ai).f 2).n)) ++ ((if (decide (v ≥ 2)) = true then be 8 ((((((D.f 0).f k5).f 2).f ai).f 3).n) else []) ++ ((if (decide (v ≥ 5)) = true then be 8 ((((((D.f 0).f k5).f 2).f ai).f 4).n) else []) ++ ((if (decide (v ≥ 8)) = true then (if (decide (v ≥ 9)) = true then (uv ((((((D.f 0).f k5).f 2).f ai).f 5).l + 1)) else (be 4 (((((D.f 0).f k5).f 2).f ai).f 5).l)) ++ ((List.range (((((D.f 0).f k5).f 2).f ai).f 5).l).flatMap fun ax=>(be 4 ((((((((D.f 0).f k5).f 2).f ai).f 5).f ax).f 0).n)) ++ ((if (decide (v ≥ 9)) = true then (if (((((((D.f 0).f k5).f 2).f ai).f 5).f ax).f 1).A.isNone = true then uv 0 else uv ((((((((D.f 0).f k5).f 2).f ai).f 5).f ax).f 1).s.size + 1) ++ sb (((((((D.f 0).f k5).f 2).f ai).f 5).f ax).f 1).s) else (if (((((((D.f 0).f k5).f 2).f ai).f 5).f ax).f 1).A.isNone = true then be 2 (-1) else be 2 (((((((D.f 0).f k5).f 2).f ai).f 5).f ax).f 1).s.size ++ sb (((((((D.f 0).f k5).f 2).f ai).f 5).f ax).f 1).s)) ++ (if (decide (v ≥ 9)) = true then (uv ((((((D.f 0).f k5).f 2).f ai).f 5).f ax).u.length) ++ (D7 ((((((D.f 0).f k5).f 2).f ai).f 5).f ax).u) else []))) else []) ++ ((if (decide (v ≥ 8)) = true then if (decide (v ≥ 9)) = true then (if (((((D.f 0).f k5).f 2).f ai).f 6).A.isNone = true then uv 0 else uv ((((((D.f 0).f k5).f 2).f ai).f 6).s.size + 1) ++ sb (((((D.f 0).f k5).f 2).f ai).f 6).s) else (if (((((D.f 0).f k5).f 2).f ai).f 6).A.isNone = true then be 2 (-1) else be 2 (((((D.f 0).f k5).f 2).f ai).f 6).s.size ++ sb (((((D.f 0).f k5).f 2).f ai).f 6).s) else []) ++ (if (decide (v ≥ 9)) = true then (uv (B5 (!((((((((D.f 0).f k5).f 2).f ai).f 7).f 0).n == (-1)) && ((((((((D.f 0).f k5).f 2).f ai).f 7).f 1).n == (-1)) && (((((D.f 0).f k5).f 2).f ai).f 7).m.isNone))) + ((((D.f 0).f k5).f 2).f ai).u.length)) ++ ((G8 (!((((((((D.f 0).f k5).f 2).f ai).f 7).f 0).n == (-1)) && ((((((((D.f 0).f k5).f 2).f ai).f 7).f 1).n == (-1)) && (((((D.f 0).f k5).f 2).f ai).f 7).m.isNone))) 0 ((be 4 (((((((D.f 0).f k5).f 2).f ai).f 7).f 0).n)) ++ ((be 4 (((((((D.f 0).f k5).f 2).f ai).f 7).f 1).n)) ++ (if (decide (v ≥ 9)) = true then (uv (((((D.f 0).f k5).f 2).f ai).f 7).u.length) ++ (D7 (((((D.f 0).f k5).f 2).f ai).f 7).u) else [])))) ++ (D7 ((((D.f 0).f k5).f 2).f ai).u)) else []))))))))) ++ (if (decide (v ≥ 9)) = true then (uv ((D.f 0).f k5).u.length) ++ (D7 ((D.f 0).f k5).u) else [])))) 70 71 [0,5,6,7,69] (fun _ _ _ _=>by kernel_rfl) (fun _ _ _ _=>by kernel_rfl) (fun _ _ _ _ _=>by kernel_rfl) (fun _ _ _ _ _=>by kernel_rfl) kz (Nat.le_trans g1l (by decide)) (fun k5 hk5=>?_)
  let ah:Nat × SV:=(70,.v (.int .i64 ((k5:Nat):Int)))
  refine G0 (E6 (env':=[ab,ae,ac,af,(8,.v (.int .i64 ((k5:Nat):Int))),ag,ah]) [0,5,6,7,8,69,70] (fun _ _ _=>by kernel_rfl)) ?_
  let aj:Nat × SV:=(9,.p 1 0)
  let aJ:B8:=[ab,ae,ac,af,aj,ag,ah]
  refine Eh (t:=57) (e:=78) (size:=19) (bytes:=64) (len:=(D.f 0).l) (j:=k5) (cs:=fun i=>[.string ((((D.f 0).f i).f 0).s),B7 ((((D.f 0).f i).f 1).o.getD 0 0),B7 ((((D.f 0).f i).f 1).o.getD 1 0),B7 ((((D.f 0).f i).f 1).o.getD 2 0),B7 ((((D.f 0).f i).f 1).o.getD 3 0),B7 ((((D.f 0).f i).f 1).o.getD 4 0),B7 ((((D.f 0).f i).f 1).o.getD 5 0),B7 ((((D.f 0).f i).f 1).o.getD 6 0),B7 ((((D.f 0).f i).f 1).o.getD 7 0),B7 ((((D.f 0).f i).f 1).o.getD 8 0),B7 ((((D.f 0).f i).f 1).o.getD 9 0),B7 ((((D.f 0).f i).f 1).o.getD 10 0),B7 ((((D.f 0).f i).f 1).o.getD 11 0),B7 ((((D.f 0).f i).f 1).o.getD 12 0),B7 ((((D.f 0).f i).f 1).o.getD 13 0),B7 ((((D.f 0).f i).f 1).o.getD 14 0),B7 ((((D.f 0).f i).f 1).o.getD 15 0),.slice ((((D.f 0).f i).f 2).A) ((((D.f 0).f i).f 2).l) ((((D.f 0).f i).f 2).c),.map (((D.f 0).f i).m)]) (e1:=aJ) 2 [0,5,6,7,9,69,70] (fun _ _ _ _ _=>by kernel_rfl) kz kz g1 hk5 hF kz kz kz fun bb1 oo1 hat1=>?_
  have g6:=g1e k5 hk5
  unfold BL at g6
  obtain ⟨g7,g8,⟨g9,g9l,g9e⟩,bz,g10l,g10x,_⟩:=g6
  refine K4 (e1:=aJ) ?_ ?_
  ·
   refine G0 (MJ (c:=decide (v ≥ 0)) (e1:=fun c_=>[ab,ae,ac,af,aj,ag,ah,(78,.v (.bool c_))]) (e2:=fun c_=>[ab,ae,ac,af,aj,ag,ah,(81,.v (.bool (if c_ = true then decide (v ≤ 12) else false)))]) 3 [0,5,6,7,9,69,70,78] [0,5,6,7,9,69,70,81] (fun _ _ _=>by kernel_rfl) (fun _ _ _=>by kernel_rfl) (fun _ _ _=>by kernel_rfl) kz) ?_
   refine S7 (b:=(if (decide (v ≥ 0)) = true then decide (v ≤ 12) else false)) (fun _ _ _=>by kernel_rfl) (fun hb=>?_) (fun hb=>?_)
   ·
    let aZ:Nat × SV:=(10,.v (.string ((((D.f 0).f k5).f 0).s)))
    refine G0 (E6 (env':=[ab,ae,ac,af,aj,aZ,ag,ah]) [0,5,6,7,9,10,69,70] (fun _ _ _=>by kernel_rfl)) ?_
    refine G0 (E6 (env':=[ab,ae,ac,af,aj,aZ,ag,ah,(86,.v (.bool (decide (v ≥ 9))))]) [0,5,6,7,9,10,69,70,86] (fun _ _ _=>by kernel_rfl)) ?_
    refine Y3 (b:=decide (v ≥ 9)) (fun _ _ _=>by kernel_rfl) (fun hb=>?_) (fun hb=>?_)
    ·
     exact J3 (f:=34) (vs:=[.string ((((D.f 0).f k5).f 0).s)]) 2 [0,5,6,7,9,69,70] (fun _ _ _ _ _ _=>by kernel_rfl) kz Tryz.call34 (fun A cp s w _ _ ho hr=>FQ (((D.f 0).f k5).f 0).s A cp s w ho g7 hr)
    exact J3 (f:=35) (vs:=[.string ((((D.f 0).f k5).f 0).s)]) 2 [0,5,6,7,9,69,70] (fun _ _ _ _ _ _=>by kernel_rfl) kz Tryz.call35 (fun A cp s w _ _ ho hr=>FP (((D.f 0).f k5).f 0).s A cp s w ho hr)
   exact R3 (e1:=aJ) [0,5,6,7,9,69,70] (fun _ _ _=>by kernel_rfl) S5
  refine K4 (e1:=aJ) ?_ ?_
  ·
   refine G0 (E6 (env':=[ab,ae,ac,af,aj,ag,ah,(94,.v (.bool (decide (v ≥ 13))))]) [0,5,6,7,9,69,70,94] (fun _ _ _=>by kernel_rfl)) ?_
   refine S7 (b:=decide (v ≥ 13)) (fun _ _ _=>by kernel_rfl) (fun hb=>?_) (fun hb=>?_)
   ·
    refine KL (cs:=[B7 ((((D.f 0).f k5).f 1).o.getD 0 0),B7 ((((D.f 0).f k5).f 1).o.getD 1 0),B7 ((((D.f 0).f k5).f 1).o.getD 2 0),B7 ((((D.f 0).f k5).f 1).o.getD 3 0),B7 ((((D.f 0).f k5).f 1).o.getD 4 0),B7 ((((D.f 0).f k5).f 1).o.getD 5 0),B7 ((((D.f 0).f k5).f 1).o.getD 6 0),B7 ((((D.f 0).f k5).f 1).o.getD 7 0),B7 ((((D.f 0).f k5).f 1).o.getD 8 0),B7 ((((D.f 0).f k5).f 1).o.getD 9 0),B7 ((((D.f 0).f k5).f 1).o.getD 10 0),B7 ((((D.f 0).f k5).f 1).o.getD 11 0),B7 ((((D.f 0).f k5).f 1).o.getD 12 0),B7 ((((D.f 0).f k5).f 1).o.getD 13 0),B7 ((((D.f 0).f k5).f 1).o.getD 14 0),B7 ((((D.f 0).f k5).f 1).o.getD 15 0)]) (e2:=[ab,ae,ac,af,aj,(11,.p 2 0),ag,ah]) 4 [0,5,6,7,9,11,69,70] (fun _ _ _ _=>by kernel_rfl) kz kz fun blk=>?_
    exact J3 (f:=36) (vs:=[.agg #[B7 ((((D.f 0).f k5).f 1).o.getD 0 0),B7 ((((D.f 0).f k5).f 1).o.getD 1 0),B7 ((((D.f 0).f k5).f 1).o.getD 2 0),B7 ((((D.f 0).f k5).f 1).o.getD 3 0),B7 ((((D.f 0).f k5).f 1).o.getD 4 0),B7 ((((D.f 0).f k5).f 1).o.getD 5 0),B7 ((((D.f 0).f k5).f 1).o.getD 6 0),B7 ((((D.f 0).f k5).f 1).o.getD 7 0),B7 ((((D.f 0).f k5).f 1).o.getD 8 0),B7 ((((D.f 0).f k5).f 1).o.getD 9 0),B7 ((((D.f 0).f k5).f 1).o.getD 10 0),B7 ((((D.f 0).f k5).f 1).o.getD 11 0),B7 ((((D.f 0).f k5).f 1).o.getD 12 0),B7 ((((D.f 0).f k5).f 1).o.getD 13 0),B7 ((((D.f 0).f k5).f 1).o.getD 14 0),B7 ((((D.f 0).f k5).f 1).o.getD 15 0)]]) 2 [0,5,6,7,9,69,70] (fun _ _ _ _ _ _=>by kernel_rfl) kz Tryz.call36 (fun A cp s w _ _ ho hr=>LG (((D.f 0).f k5).f 1).o g8 A cp s w ho hr)
   exact R3 (e1:=aJ) [0,5,6,7,9,69,70] (fun _ _ _=>by kernel_rfl) S5
  refine K4 (e1:=aJ) ?_ ?_
  ·
   let ak:Nat × SV:=(12,.v (.slice ((((D.f 0).f k5).f 2).A) ((((D.f 0).f k5).f 2).l) ((((D.f 0).f k5).f 2).c)))
   let ba:B8:=[ab,ae,ac,af,aj,ak,ag,ah]
   refine G0 (E6 (env':=ba) [0,5,6,7,9,12,69,70] (fun _ _ _=>by kernel_rfl)) ?_
   refine K4 (e1:=ba) ?_ ?_
   ·
    refine G0 (E6 (env':=[ab,ae,ac,af,aj,ak,ag,ah,(106,.v (.bool (decide (v ≥ 9))))]) [0,5,6,7,9,12,69,70,106] (fun _ _ _=>by kernel_rfl)) ?_
    refine Y3 (b:=decide (v ≥ 9)) (fun _ _ _=>by kernel_rfl) (fun hb=>?_) (fun hb=>?_)
    ·
     exact J3 (f:=32) (vs:=[.int .i64 (((((D.f 0).f k5).f 2).l:Nat):Int)]) 3 [0,5,6,7,9,12,69,70] (fun _ _ _ _ _ _=>by kernel_rfl) kz Tryz.call32 (fun A cp s w _ _ ho hr=>DR (((D.f 0).f k5).f 2).l g9l A cp s w ho hr)
    exact J3 (f:=33) (vs:=[.int .i64 (((((D.f 0).f k5).f 2).l:Nat):Int)]) 3 [0,5,6,7,9,12,69,70] (fun _ _ _ _ _ _=>by kernel_rfl) kz Tryz.call33 (fun A cp s w _ _ ho hr=>DQ (((D.f 0).f k5).f 2).l A cp s w ho hr)
   let al:Nat × SV:=(116,.v (.int .i64 (((((D.f 0).f k5).f 2).l:Nat):Int)))
   refine G0 (E6 (env':=[(117,.v (.int .i64 0)),ab,ae,ac,af,aj,ak,ag,ah,al]) [117,0,5,6,7,9,12,69,70,116] (fun _ _ _=>by kernel_rfl)) ?_
   refine Be (e1:=[ab,ae,ac,af,aj,ak,ag,ah,al]) [0,5,6,7,9,69,70] (fun _ _ _=>by kernel_rfl) ?_
   refine Z3 (len:=(((D.f 0).f k5).f 2).l) (xs:=fun ai=>(be 4 ((((((D.f 0).f k5).f 2).f ai).f 0).n)) ++ ((be 2 ((((((D.f 0).f k5).f 2).f ai).f 1).n)) ++ ((be 8 ((((((D.f 0).f k5).f 2).f ai).f 2).n)) ++ ((if (decide (v ≥ 2)) = true then be 8 ((((((D.f 0).f k5).f 2).f ai).f 3).n) else []) ++ ((if (decide (v ≥ 5)) = true then be 8 ((((((D.f 0).f k5).f 2).f ai).f 4).n) else []) ++ ((if (decide (v ≥ 8)) = true then (if (decide (v ≥ 9)) = true then (uv ((((((D.f 0).f k5).f 2).f ai).f 5).l + 1)) else (be 4 (((((D.f 0).f k5).f 2).f ai).f 5).l)) ++ ((List.range (((((D.f 0).f k5).f 2).f ai).f 5).l).flatMap fun ax=>(be 4 ((((((((D.f 0).f k5).f 2).f ai).f 5).f ax).f 0).n)) ++ ((if (decide (v ≥ 9)) = true then (if (((((((D.f 0).f k5).f 2).f ai).f 5).f ax).f 1).A.isNone = true then uv 0 else uv ((((((((D.f 0).f k5).f 2).f ai).f 5).f ax).f 1).s.size + 1) ++ sb (((((((D.f 0).f k5).f 2).f ai).f 5).f ax).f 1).s) else (if (((((((D.f 0).f k5).f 2).f ai).f 5).f ax).f 1).A.isNone = true then be 2 (-1) else be 2 (((((((D.f 0).f k5).f 2).f ai).f 5).f ax).f 1).s.size ++ sb (((((((D.f 0).f k5).f 2).f ai).f 5).f ax).f 1).s)) ++ (if (decide (v ≥ 9)) = true then (uv ((((((D.f 0).f k5).f 2).f ai).f 5).f ax).u.length) ++ (D7 ((((((D.f 0).f k5).f 2).f ai).f 5).f ax).u) else []))) else []) ++ ((if (decide (v ≥ 8)) = true then if (decide (v ≥ 9)) = true then (if (((((D.f 0).f k5).f 2).f ai).f 6).A.isNone = true then uv 0 else uv ((((((D.f 0).f k5).f 2).f ai).f 6).s.size + 1) ++ sb (((((D.f 0).f k5).f 2).f ai).f 6).s) else (if (((((D.f 0).f k5).f 2).f ai).f 6).A.isNone = true then be 2 (-1) else be 2 (((((D.f 0).f k5).f 2).f ai).f 6).s.size ++ sb (((((D.f 0).f k5).f 2).f ai).f 6).s) else []) ++ (if (decide (v ≥ 9)) = true then (uv (B5 (!((((((((D.f 0).f k5).f 2).f ai).f 7).f 0).n == (-1)) && ((((((((D.f 0).f k5).f 2).f ai).f 7).f 1).n == (-1)) && (((((D.f 0).f k5).f 2).f ai).f 7).m.isNone))) + ((((D.f 0).f k5).f 2).f ai).u.length)) ++ ((G8 (!((((((((D.f 0).f k5).f 2).f ai).f 7).f 0).n == (-1)) && ((((((((D.f 0).f k5).f 2).f ai).f 7).f 1).n == (-1)) && (((((D.f 0).f k5).f 2).f ai).f 7).m.isNone))) 0 ((be 4 (((((((D.f 0).f k5).f 2).f ai).f 7).f 0).n)) ++ ((be 4 (((((((D.f 0).f k5).f 2).f ai).f 7).f 1).n)) ++ (if (decide (v ≥ 9)) = true then (uv (((((D.f 0).f k5).f 2).f ai).f 7).u.length) ++ (D7 (((((D.f 0).f k5).f 2).f ai).f 7).u) else [])))) ++ (D7 ((((D.f 0).f k5).f 2).f ai).u)) else [])))))))) 117 118 [0,5,6,7,9,12,69,70,116] (fun _ _ _ _=>by kernel_rfl) (fun _ _ _ _=>by kernel_rfl) (fun _ _ _ _ _=>by kernel_rfl) (fun _ _ _ _ _=>by kernel_rfl) kz (Nat.le_trans g9l (by decide)) (fun ai bt=>?_)
   let am:Nat × SV:=(117,.v (.int .i64 ((ai:Nat):Int)))
   refine G0 (E6 (env':=[ab,ae,ac,af,aj,ak,(13,.v (.int .i64 ((ai:Nat):Int))),ag,ah,al,am]) [0,5,6,7,9,12,13,69,70,116,117] (fun _ _ _=>by kernel_rfl)) ?_
   let ao:Nat × SV:=(14,.p 2 0)
   let ay:B8:=[ab,ae,ac,af,aj,ak,ao,ag,ah,al,am]
   refine Eh (t:=76) (e:=87) (size:=11) (bytes:=88) (len:=(((D.f 0).f k5).f 2).l) (j:=ai) (cs:=fun i=>[.int .i32 ((((((D.f 0).f k5).f 2).f i).f 0).n),.int .i16 ((((((D.f 0).f k5).f 2).f i).f 1).n),.int .i64 ((((((D.f 0).f k5).f 2).f i).f 2).n),.int .i64 ((((((D.f 0).f k5).f 2).f i).f 3).n),.int .i64 ((((((D.f 0).f k5).f 2).f i).f 4).n),.slice ((((((D.f 0).f k5).f 2).f i).f 5).A) ((((((D.f 0).f k5).f 2).f i).f 5).l) ((((((D.f 0).f k5).f 2).f i).f 5).c),.pointer ((((((D.f 0).f k5).f 2).f i).f 6).A),.int .i32 (((((((D.f 0).f k5).f 2).f i).f 7).f 0).n),.int .i32 (((((((D.f 0).f k5).f 2).f i).f 7).f 1).n),.map ((((((D.f 0).f k5).f 2).f i).f 7).m),.map (((((D.f 0).f k5).f 2).f i).m)]) (e1:=ay) 2 [0,5,6,7,9,12,14,69,70,116,117] (fun _ _ _ _ _=>by kernel_rfl) kz kz g9 bt hF kz kz kz fun bb2 oo2 hat2=>?_
   have bA:=g9e ai bt
   unfold BK at bA
   obtain ⟨bM,bN,bO,bP,bQ,⟨bK,g18l,g18e⟩,⟨bB,g19l⟩,bC,bx,g21l,g21x,_⟩:=bA
   unfold BJ at bC
   obtain ⟨bR,bS,bD,g24l,g24x,g24t,_⟩:=bC
   refine K4 (e1:=ay) ?_ ?_
   ·
    refine G0 (E6 (env':=[ab,ae,ac,af,aj,ak,ao,(15,.v (.int .i32 ((((((D.f 0).f k5).f 2).f ai).f 0).n))),ag,ah,al,am]) [0,5,6,7,9,12,14,15,69,70,116,117] (fun _ _ _=>by kernel_rfl)) ?_
    exact J3 (f:=37) (vs:=[.int .i32 ((((((D.f 0).f k5).f 2).f ai).f 0).n)]) 2 [0,5,6,7,9,12,14,69,70,116,117] (fun _ _ _ _ _ _=>by kernel_rfl) kz Tryz.call37 (fun A cp s w _ _ ho hr=>Bb A cp s ((((((D.f 0).f k5).f 2).f ai).f 0).n) w ho (by omega))
   refine K4 (e1:=ay) ?_ ?_
   ·
    refine G0 (E6 (env':=[ab,ae,ac,af,aj,ak,ao,(16,.v (.int .i16 ((((((D.f 0).f k5).f 2).f ai).f 1).n))),ag,ah,al,am]) [0,5,6,7,9,12,14,16,69,70,116,117] (fun _ _ _=>by kernel_rfl)) ?_
    exact J3 (f:=38) (vs:=[.int .i16 ((((((D.f 0).f k5).f 2).f ai).f 1).n)]) 2 [0,5,6,7,9,12,14,69,70,116,117] (fun _ _ _ _ _ _=>by kernel_rfl) kz Tryz.call38 (fun A cp s w _ _ ho hr=>FM A cp s ((((((D.f 0).f k5).f 2).f ai).f 1).n) w ho (by omega))
   refine K4 (e1:=ay) ?_ ?_
   ·
    refine G0 (E6 (env':=[ab,ae,ac,af,aj,ak,ao,(17,.v (.int .i64 ((((((D.f 0).f k5).f 2).f ai).f 2).n))),ag,ah,al,am]) [0,5,6,7,9,12,14,17,69,70,116,117] (fun _ _ _=>by kernel_rfl)) ?_
    exact J3 (f:=39) (vs:=[.int .i64 ((((((D.f 0).f k5).f 2).f ai).f 2).n)]) 2 [0,5,6,7,9,12,14,69,70,116,117] (fun _ _ _ _ _ _=>by kernel_rfl) kz Tryz.call39 (fun A cp s w _ _ ho hr=>FN A cp s ((((((D.f 0).f k5).f 2).f ai).f 2).n) w ho (by omega))
   refine K4 (e1:=ay) ?_ ?_
   ·
    refine G0 (E6 (env':=[ab,ae,ac,af,aj,ak,ao,ag,ah,al,am,(145,.v (.bool (decide (v ≥ 2))))]) [0,5,6,7,9,12,14,69,70,116,117,145] (fun _ _ _=>by kernel_rfl)) ?_
    refine S7 (b:=decide (v ≥ 2)) (fun _ _ _=>by kernel_rfl) (fun hb=>?_) (fun hb=>?_)
    ·
     refine G0 (E6 (env':=[ab,ae,ac,af,aj,ak,ao,(18,.v (.int .i64 ((((((D.f 0).f k5).f 2).f ai).f 3).n))),ag,ah,al,am]) [0,5,6,7,9,12,14,18,69,70,116,117] (fun _ _ _=>by kernel_rfl)) ?_
     exact J3 (f:=39) (vs:=[.int .i64 ((((((D.f 0).f k5).f 2).f ai).f 3).n)]) 2 [0,5,6,7,9,12,14,69,70,116,117] (fun _ _ _ _ _ _=>by kernel_rfl) kz Tryz.call39 (fun A cp s w _ _ ho hr=>FN A cp s ((((((D.f 0).f k5).f 2).f ai).f 3).n) w ho (by omega))
    exact R3 (e1:=ay) [0,5,6,7,9,12,14,69,70,116,117] (fun _ _ _=>by kernel_rfl) S5
   refine K4 (e1:=ay) ?_ ?_
   ·
    refine G0 (E6 (env':=[ab,ae,ac,af,aj,ak,ao,ag,ah,al,am,(154,.v (.bool (decide (v ≥ 5))))]) [0,5,6,7,9,12,14,69,70,116,117,154] (fun _ _ _=>by kernel_rfl)) ?_
    refine S7 (b:=decide (v ≥ 5)) (fun _ _ _=>by kernel_rfl) (fun hb=>?_) (fun hb=>?_)
    ·
     refine G0 (E6 (env':=[ab,ae,ac,af,aj,ak,ao,(19,.v (.int .i64 ((((((D.f 0).f k5).f 2).f ai).f 4).n))),ag,ah,al,am]) [0,5,6,7,9,12,14,19,69,70,116,117] (fun _ _ _=>by kernel_rfl)) ?_
     exact J3 (f:=39) (vs:=[.int .i64 ((((((D.f 0).f k5).f 2).f ai).f 4).n)]) 2 [0,5,6,7,9,12,14,69,70,116,117] (fun _ _ _ _ _ _=>by kernel_rfl) kz Tryz.call39 (fun A cp s w _ _ ho hr=>FN A cp s ((((((D.f 0).f k5).f 2).f ai).f 4).n) w ho (by omega))
    exact R3 (e1:=ay) [0,5,6,7,9,12,14,69,70,116,117] (fun _ _ _=>by kernel_rfl) S5
   refine K4 (e1:=ay) ?_ ?_
   ·
    refine G0 (E6 (env':=[ab,ae,ac,af,aj,ak,ao,ag,ah,al,am,(163,.v (.bool (decide (v ≥ 8))))]) [0,5,6,7,9,12,14,69,70,116,117,163] (fun _ _ _=>by kernel_rfl)) ?_
    refine S7 (b:=decide (v ≥ 8)) (fun _ _ _=>by kernel_rfl) (fun hb=>?_) (fun hb=>?_)
    ·
     let aE:Nat × SV:=(20,.v (.slice ((((((D.f 0).f k5).f 2).f ai).f 5).A) ((((((D.f 0).f k5).f 2).f ai).f 5).l) ((((((D.f 0).f k5).f 2).f ai).f 5).c)))
     let bd:B8:=[ab,ae,ac,af,aj,ak,ao,aE,ag,ah,al,am]
     refine G0 (E6 (env':=bd) [0,5,6,7,9,12,14,20,69,70,116,117] (fun _ _ _=>by kernel_rfl)) ?_
     refine K4 (e1:=bd) ?_ ?_
     ·
      refine G0 (E6 (env':=[ab,ae,ac,af,aj,ak,ao,aE,ag,ah,al,am,(168,.v (.bool (decide (v ≥ 9))))]) [0,5,6,7,9,12,14,20,69,70,116,117,168] (fun _ _ _=>by kernel_rfl)) ?_
      refine Y3 (b:=decide (v ≥ 9)) (fun _ _ _=>by kernel_rfl) (fun hb=>?_) (fun hb=>?_)
      ·
       exact J3 (f:=32) (vs:=[.int .i64 (((((((D.f 0).f k5).f 2).f ai).f 5).l:Nat):Int)]) 3 [0,5,6,7,9,12,14,20,69,70,116,117] (fun _ _ _ _ _ _=>by kernel_rfl) kz Tryz.call32 (fun A cp s w _ _ ho hr=>DR (((((D.f 0).f k5).f 2).f ai).f 5).l g18l A cp s w ho hr)
      exact J3 (f:=33) (vs:=[.int .i64 (((((((D.f 0).f k5).f 2).f ai).f 5).l:Nat):Int)]) 3 [0,5,6,7,9,12,14,20,69,70,116,117] (fun _ _ _ _ _ _=>by kernel_rfl) kz Tryz.call33 (fun A cp s w _ _ ho hr=>DQ (((((D.f 0).f k5).f 2).f ai).f 5).l A cp s w ho hr)
     let aH:Nat × SV:=(178,.v (.int .i64 (((((((D.f 0).f k5).f 2).f ai).f 5).l:Nat):Int)))
     refine G0 (E6 (env':=[(179,.v (.int .i64 0)),ab,ae,ac,af,aj,ak,ao,aE,ag,ah,al,am,aH]) [179,0,5,6,7,9,12,14,20,69,70,116,117,178] (fun _ _ _=>by kernel_rfl)) ?_
     refine Be (e1:=[ab,ae,ac,af,aj,ak,ao,aE,ag,ah,al,am,aH]) [0,5,6,7,9,12,14,69,70,116,117] (fun _ _ _=>by kernel_rfl) ?_
     refine Z3 (len:=(((((D.f 0).f k5).f 2).f ai).f 5).l) (xs:=fun ax=>(be 4 ((((((((D.f 0).f k5).f 2).f ai).f 5).f ax).f 0).n)) ++ ((if (decide (v ≥ 9)) = true then (if (((((((D.f 0).f k5).f 2).f ai).f 5).f ax).f 1).A.isNone = true then uv 0 else uv ((((((((D.f 0).f k5).f 2).f ai).f 5).f ax).f 1).s.size + 1) ++ sb (((((((D.f 0).f k5).f 2).f ai).f 5).f ax).f 1).s) else (if (((((((D.f 0).f k5).f 2).f ai).f 5).f ax).f 1).A.isNone = true then be 2 (-1) else be 2 (((((((D.f 0).f k5).f 2).f ai).f 5).f ax).f 1).s.size ++ sb (((((((D.f 0).f k5).f 2).f ai).f 5).f ax).f 1).s)) ++ (if (decide (v ≥ 9)) = true then (uv ((((((D.f 0).f k5).f 2).f ai).f 5).f ax).u.length) ++ (D7 ((((((D.f 0).f k5).f 2).f ai).f 5).f ax).u) else []))) 179 180 [0,5,6,7,9,12,14,20,69,70,116,117,178] (fun _ _ _ _=>by kernel_rfl) (fun _ _ _ _=>by kernel_rfl) (fun _ _ _ _ _=>by kernel_rfl) (fun _ _ _ _ _=>by kernel_rfl) kz (Nat.le_trans g18l (by decide)) (fun ax bu=>?_)
     let aK:Nat × SV:=(179,.v (.int .i64 ((ax:Nat):Int)))
     refine G0 (E6 (env':=[ab,ae,ac,af,aj,ak,ao,aE,(21,.v (.int .i64 ((ax:Nat):Int))),ag,ah,al,am,aH,aK]) [0,5,6,7,9,12,14,20,21,69,70,116,117,178,179] (fun _ _ _=>by kernel_rfl)) ?_
     let aO:B8:=[ab,ae,ac,af,aj,ak,ao,aE,(22,.p 3 0),ag,ah,al,am,aH,aK]
     refine Eh (t:=82) (e:=93) (size:=3) (bytes:=24) (len:=(((((D.f 0).f k5).f 2).f ai).f 5).l) (j:=ax) (cs:=fun i=>[.int .i32 ((((((((D.f 0).f k5).f 2).f ai).f 5).f i).f 0).n),.pointer ((((((((D.f 0).f k5).f 2).f ai).f 5).f i).f 1).A),.map (((((((D.f 0).f k5).f 2).f ai).f 5).f i).m)]) (e1:=aO) 2 [0,5,6,7,9,12,14,20,22,69,70,116,117,178,179] (fun _ _ _ _ _=>by kernel_rfl) kz kz bK bu hF kz kz kz fun bb3 oo3 hat3=>?_
     have bE:=g18e ax bu
     unfold Bk at bE
     obtain ⟨bT,⟨bF,g28l⟩,bG,g29l,g29x,_⟩:=bE
     refine K4 (e1:=aO) ?_ ?_
     ·
      refine G0 (E6 (env':=[ab,ae,ac,af,aj,ak,ao,aE,(22,.p 3 0),(23,.v (.int .i32 ((((((((D.f 0).f k5).f 2).f ai).f 5).f ax).f 0).n))),ag,ah,al,am,aH,aK]) [0,5,6,7,9,12,14,20,22,23,69,70,116,117,178,179] (fun _ _ _=>by kernel_rfl)) ?_
      exact J3 (f:=37) (vs:=[.int .i32 ((((((((D.f 0).f k5).f 2).f ai).f 5).f ax).f 0).n)]) 2 [0,5,6,7,9,12,14,20,22,69,70,116,117,178,179] (fun _ _ _ _ _ _=>by kernel_rfl) kz Tryz.call37 (fun A cp s w _ _ ho hr=>Bb A cp s ((((((((D.f 0).f k5).f 2).f ai).f 5).f ax).f 0).n) w ho (by omega))
     refine K4 (e1:=aO) ?_ ?_
     ·
      let bf:Nat × SV:=(24,.v (.pointer ((((((((D.f 0).f k5).f 2).f ai).f 5).f ax).f 1).A)))
      refine G0 (E6 (env':=[ab,ae,ac,af,aj,ak,ao,aE,(22,.p 3 0),bf,ag,ah,al,am,aH,aK]) [0,5,6,7,9,12,14,20,22,24,69,70,116,117,178,179] (fun _ _ _=>by kernel_rfl)) ?_
      refine G0 (E6 (env':=[ab,ae,ac,af,aj,ak,ao,aE,(22,.p 3 0),bf,ag,ah,al,am,aH,aK,(196,.v (.bool (decide (v ≥ 9))))]) [0,5,6,7,9,12,14,20,22,24,69,70,116,117,178,179,196] (fun _ _ _=>by kernel_rfl)) ?_
      let bg:Value:=.pointer ((((((((D.f 0).f k5).f 2).f ai).f 5).f ax).f 1).A)
      refine Y3 (b:=decide (v ≥ 9)) (fun _ _ _=>by kernel_rfl) (fun hb=>?_) (fun hb=>?_)
      ·
       exact J3 (f:=40) (vs:=[bg]) 2 [0,5,6,7,9,12,14,20,22,69,70,116,117,178,179] (fun _ _ _ _ _ _=>by kernel_rfl) kz Tryz.call40 (fun A cp s w hs hA ho hr=>Gn (((((((D.f 0).f k5).f 2).f ai).f 5).f ax).f 1).A (((((((D.f 0).f k5).f 2).f ai).f 5).f ax).f 1).s A cp s w ho (Lo F _) (R8 hF hA) (fun ad h=>by obtain ⟨b',o',g1,g2⟩:=bF ad h; exact ⟨b',o',g1,g2.move hs (F0 hF) F1⟩) g28l hr)
      exact J3 (f:=41) (vs:=[bg]) 2 [0,5,6,7,9,12,14,20,22,69,70,116,117,178,179] (fun _ _ _ _ _ _=>by kernel_rfl) kz Tryz.call41 (fun A cp s w hs hA ho hr=>Gm (((((((D.f 0).f k5).f 2).f ai).f 5).f ax).f 1).A (((((((D.f 0).f k5).f 2).f ai).f 5).f ax).f 1).s A cp s w ho (Lo F _) (R8 hF hA) (fun ad h=>by obtain ⟨b',o',g1,g2⟩:=bF ad h; exact ⟨b',o',g1,g2.move hs (F0 hF) F1⟩) g28l hr)
     refine G0 (E6 (env':=[ab,ae,ac,af,aj,ak,ao,aE,(22,.p 3 0),ag,ah,al,am,aH,aK,(203,.v (.bool (decide (v ≥ 9))))]) [0,5,6,7,9,12,14,20,22,69,70,116,117,178,179,203] (fun _ _ _=>by kernel_rfl)) ?_
     refine S7 (b:=decide (v ≥ 9)) (fun _ _ _=>by kernel_rfl) (fun hb=>?_) (fun hb=>?_)
     ·
      refine K4 (e1:=aO) ?_ ?_
      ·
       exact Bz (f1:=43) (vs1:=[.pointer (some ⟨bb3,oo3 + 2,none⟩)]) (r1:=.int .i64 ((((((((D.f 0).f k5).f 2).f ai).f 5).f ax).u.length:Nat):Int)) (f:=42) (vs:=[.int .u32 (IntKind.u32.wrap (0 + (IntKind.u32.wrap ((((((((D.f 0).f k5).f 2).f ai).f 5).f ax).u.length:Nat):Int))))]) 4 7 [0,5,6,7,9,12,14,20,22,69,70,116,117,178,179] (fun _ _ _ _ _ _=>by kernel_rfl) kz Tryz.call43 Tryz.call42 (fun w hs=>Ba (F:=Lo F _) ((hat3.one 2 rfl).move hs (F0 hF) F1) (bG.move hs (F0 hF) F1)) (fun A cp s w _ _ ho hr=>by rw [show (IntKind.u32.wrap (0 + (IntKind.u32.wrap ((((((((D.f 0).f k5).f 2).f ai).f 5).f ax).u.length:Nat):Int))):Int) = ((((((((D.f 0).f k5).f 2).f ai).f 5).f ax).u.length:Nat):Int) from DU _ g29l]; exact Q1 ((((((D.f 0).f k5).f 2).f ai).f 5).f ax).u.length (by have:=g29l; omega) A cp s w ho hr)
      exact BF (f:=44) 4 [179,0,5,6,7,9,12,14,20,69,70,116,117,178] (fun s=>[.pointer (some ⟨bb3,oo3 + 2,none⟩),s]) (fun _ _ _ _ _ _=>by kernel_rfl) kz Tryz.call44 (fun A cp s w hs hA ho hr=>Bd (F:=Lo F _) ((hat3.one 2 rfl).move hs (F0 hF) F1) (bG.move hs (F0 hF) F1) ho (R8 hF hA) g29x hr)
     exact R3 (e1:=[aK,ab,ae,ac,af,aj,ak,ao,aE,ag,ah,al,am,aH]) [179,0,5,6,7,9,12,14,20,69,70,116,117,178] (fun _ _ _=>by kernel_rfl) S5
    exact R3 (e1:=ay) [0,5,6,7,9,12,14,69,70,116,117] (fun _ _ _=>by kernel_rfl) S5
   refine K4 (e1:=ay) ?_ ?_
   ·
    refine G0 (E6 (env':=[ab,ae,ac,af,aj,ak,ao,ag,ah,al,am,(219,.v (.bool (decide (v ≥ 8))))]) [0,5,6,7,9,12,14,69,70,116,117,219] (fun _ _ _=>by kernel_rfl)) ?_
    refine S7 (b:=decide (v ≥ 8)) (fun _ _ _=>by kernel_rfl) (fun hb=>?_) (fun hb=>?_)
    ·
     let bh:Nat × SV:=(25,.v (.pointer ((((((D.f 0).f k5).f 2).f ai).f 6).A)))
     refine G0 (E6 (env':=[ab,ae,ac,af,aj,ak,ao,bh,ag,ah,al,am]) [0,5,6,7,9,12,14,25,69,70,116,117] (fun _ _ _=>by kernel_rfl)) ?_
     refine G0 (E6 (env':=[ab,ae,ac,af,aj,ak,ao,bh,ag,ah,al,am,(224,.v (.bool (decide (v ≥ 9))))]) [0,5,6,7,9,12,14,25,69,70,116,117,224] (fun _ _ _=>by kernel_rfl)) ?_
     let bj:Value:=.pointer ((((((D.f 0).f k5).f 2).f ai).f 6).A)
     refine Y3 (b:=decide (v ≥ 9)) (fun _ _ _=>by kernel_rfl) (fun hb=>?_) (fun hb=>?_)
     ·
      exact J3 (f:=40) (vs:=[bj]) 2 [0,5,6,7,9,12,14,69,70,116,117] (fun _ _ _ _ _ _=>by kernel_rfl) kz Tryz.call40 (fun A cp s w hs hA ho hr=>Gn (((((D.f 0).f k5).f 2).f ai).f 6).A (((((D.f 0).f k5).f 2).f ai).f 6).s A cp s w ho (Lo F _) (R8 hF hA) (fun ad h=>by obtain ⟨b',o',g1,g2⟩:=bB ad h; exact ⟨b',o',g1,g2.move hs (F0 hF) F1⟩) g19l hr)
     exact J3 (f:=41) (vs:=[bj]) 2 [0,5,6,7,9,12,14,69,70,116,117] (fun _ _ _ _ _ _=>by kernel_rfl) kz Tryz.call41 (fun A cp s w hs hA ho hr=>Gm (((((D.f 0).f k5).f 2).f ai).f 6).A (((((D.f 0).f k5).f 2).f ai).f 6).s A cp s w ho (Lo F _) (R8 hF hA) (fun ad h=>by obtain ⟨b',o',g1,g2⟩:=bB ad h; exact ⟨b',o',g1,g2.move hs (F0 hF) F1⟩) g19l hr)
    exact R3 (e1:=ay) [0,5,6,7,9,12,14,69,70,116,117] (fun _ _ _=>by kernel_rfl) S5
   refine G0 (E6 (env':=[ab,ae,ac,af,aj,ak,ao,ag,ah,al,am,(231,.v (.bool (decide (v ≥ 9))))]) [0,5,6,7,9,12,14,69,70,116,117,231] (fun _ _ _=>by kernel_rfl)) ?_
   refine S7 (b:=decide (v ≥ 9)) (fun _ _ _=>by kernel_rfl) (fun hb=>?_) (fun hb=>?_)
   ·
    let aV:B8:=[ab,ae,ac,af,aj,ak,ao,(26,.v (.slice none 0 0)),ag,ah,al,am]
    refine G0 (E6 (env':=aV) [0,5,6,7,9,12,14,26,69,70,116,117] (fun _ _ _=>by kernel_rfl)) ?_
    let aP:Value:=.int .i32 (((((((D.f 0).f k5).f 2).f ai).f 7).f 0).n)
    let aQ:Value:=.int .i32 (((((((D.f 0).f k5).f 2).f ai).f 7).f 1).n)
    let aW:Value:=.map ((((((D.f 0).f k5).f 2).f ai).f 7).m)
    let bk:Value:=.agg #[.int .i32 (-1),.int .i32 (-1),.map none]
    let aR:Value:=.pointer (some ⟨bb2,oo2 + 10,none⟩)
    refine Jj (b:=!((((((((D.f 0).f k5).f 2).f ai).f 7).f 0).n == (-1)) && ((((((((D.f 0).f k5).f 2).f ai).f 7).f 1).n == (-1)) && (((((D.f 0).f k5).f 2).f ai).f 7).m.isNone))) (v:=.int .u32 0) (e2:=fun g_ c_=>[ab,ae,ac,af,aj,ak,ao,(26,.v (.slice (some ⟨g_,0,none⟩) 1 c_)),ag,ah,al,am]) [0,5,6,7,9,12,14,26,69,70,116,117] 239 240 241 96 53 4 (Nr (eA:=[ab,ae,ac,af,aj,ak,ao,(26,.v (.slice none 0 0)),ag,ah,al,am,(235,.v (.agg #[aP,aQ,aW]))]) (t1:=236) (t2:=237) (env':=[ab,ae,ac,af,aj,ak,ao,(26,.v (.slice none 0 0)),ag,ah,al,am,(238,.v (.bool (!((((((((D.f 0).f k5).f 2).f ai).f 7).f 0).n == (-1)) && ((((((((D.f 0).f k5).f 2).f ai).f 7).f 1).n == (-1)) && (((((D.f 0).f k5).f 2).f ai).f 7).m.isNone)))))]) (f1:=46) (vs1:=[]) (r1:=bk) (f:=45) (vs:=[.agg #[aP,aQ,aW],bk]) (r:=.bool ((((((((D.f 0).f k5).f 2).f ai).f 7).f 0).n == (-1)) && ((((((((D.f 0).f k5).f 2).f ai).f 7).f 1).n == (-1)) && (((((D.f 0).f k5).f 2).f ai).f 7).m.isNone))) 7 4 5 [0,1,2,3] [6] [0,5,6,7,9,12,14,26,69,70,116,117,235] [0,5,6,7,9,12,14,26,69,70,116,117,238] kz kz kz kz (fun _ _ _=>by kernel_rfl) kz (fun _ _ _=>by kernel_rfl) kz (fun _ _ _=>by kernel_rfl) kz (fun _ _ _=>by kernel_rfl) kz kz Tryz.call46 Tryz.call45 (fun w=>Nv w) (fun w=>Nw _ _ _ w)) (fun _ _ _=>by kernel_rfl) kz (fun _ _ _=>by kernel_rfl) (fun _ _ _=>by kernel_rfl) (fun _ _ _ _=>by kernel_rfl) (fun _ _ _ _ _ _=>by kernel_rfl) kz kz kz kz (fun hb g_ c_=>?_) (fun hb=>?_)
    ·
     rw [Bg hb,Ej hb]
     refine K4 (e1:=[ab,ae,ac,af,aj,ak,ao,(26,.v (.slice (some ⟨g_,0,none⟩) 1 c_)),ag,ah,al,am]) ?_ ?_
     ·
      exact Bz (f1:=43) (vs1:=[aR]) (r1:=.int .i64 ((((((D.f 0).f k5).f 2).f ai).u.length:Nat):Int)) (f:=42) (vs:=[.int .u32 (IntKind.u32.wrap (IntKind.i64.wrap (1 + ((((((D.f 0).f k5).f 2).f ai).u.length:Nat):Int))))]) 6 9 [0,5,6,7,9,12,14,26,69,70,116,117] (fun _ _ _ _ _ _=>by kernel_rfl) kz Tryz.call43 Tryz.call42 (fun w hs=>Ba (F:=Lo F _) ((hat2.one 10 rfl).move hs (F0 hF) F1) (bx.move hs (F0 hF) F1)) (fun A cp s w _ _ ho hr=>by rw [show (IntKind.u32.wrap (IntKind.i64.wrap (1 + ((((((D.f 0).f k5).f 2).f ai).u.length:Nat):Int))):Int) = (((1 + ((((D.f 0).f k5).f 2).f ai).u.length):Nat):Int) from by have h_:=g21l; rw [wrap_i64 (by omega) (by omega),D5]; omega]; exact Q1 (1 + ((((D.f 0).f k5).f 2).f ai).u.length) (by have:=g21l; omega) A cp s w ho hr)
     refine K4 (e1:=ay) ?_ ?_
     ·
      let aB:Nat × SV:=(252,.v (.slice (some ⟨g_,0,none⟩) 1 c_))
      let aC:Nat × SV:=(253,.v (.int .i64 1))
      refine G0 (E6 (env':=[(254,.v (.int .i64 0)),ab,ae,ac,af,aj,ak,ao,ag,ah,al,am,aB,aC]) [254,0,5,6,7,9,12,14,69,70,116,117,252,253] (fun _ _ _=>by kernel_rfl)) ?_
      refine Be (e1:=[ab,ae,ac,af,aj,ak,ao,ag,ah,al,am,aB,aC]) [0,5,6,7,9,12,14,69,70,116,117] (fun _ _ _=>by kernel_rfl) ?_
      refine Z2 (Z3 (len:=1) (xs:=fun _=>uv 0 ++ (uv ((be 4 (((((((D.f 0).f k5).f 2).f ai).f 7).f 0).n)) ++ ((be 4 (((((((D.f 0).f k5).f 2).f ai).f 7).f 1).n)) ++ (if (decide (v ≥ 9)) = true then (uv (((((D.f 0).f k5).f 2).f ai).f 7).u.length) ++ (D7 (((((D.f 0).f k5).f 2).f ai).f 7).u) else []))).length ++ ((be 4 (((((((D.f 0).f k5).f 2).f ai).f 7).f 0).n)) ++ ((be 4 (((((((D.f 0).f k5).f 2).f ai).f 7).f 1).n)) ++ (if (decide (v ≥ 9)) = true then (uv (((((D.f 0).f k5).f 2).f ai).f 7).u.length) ++ (D7 (((((D.f 0).f k5).f 2).f ai).f 7).u) else []))))) 254 255 [0,5,6,7,9,12,14,69,70,116,117,252,253] (fun _ _ _ _=>by kernel_rfl) (fun _ _ _ _=>by kernel_rfl) (fun _ _ _ _ _=>by kernel_rfl) (fun _ _ _ _ _=>by kernel_rfl) kz (by decide) (fun k_ hk_=>?_)) (Jn _)
      obtain rfl:k_ = 0:=by omega
      let aF:Nat × SV:=(254,.v (.int .i64 ((0:Nat):Int)))
      refine Jk (t:=96) (e:=53) (size:=1) (bytes:=4) (dd:=256) (b:=g_) (e1:=[ab,ae,ac,af,aj,ak,ao,(28,.v (.int .u32 0)),ag,ah,al,am,aB,aC,aF]) 3 [0,5,6,7,9,12,14,28,69,70,116,117,252,253,254] (fun _ _ _=>by kernel_rfl) kz (Nat.le_of_ble_eq_true rfl) rfl rfl kz (fun _ _ _=>by kernel_rfl) ?_
      refine G0 (E6 (env':=[ab,ae,ac,af,aj,ak,ao,ag,ah,al,am,aB,aC,aF,(258,.v (.int .u32 0))]) [0,5,6,7,9,12,14,69,70,116,117,252,253,254,258] (fun _ _ _=>by kernel_rfl)) (Jl ?_)
      refine G0 (E6 (env':=[ab,ae,ac,af,aj,ak,ao,ag,ah,al,am,aB,aC,aF,(259,.v (.bool true))]) [0,5,6,7,9,12,14,69,70,116,117,252,253,254,259] (fun _ _ _=>by kernel_rfl)) ?_
      refine DE (b:=true) (fun _ _ _=>by kernel_rfl) (fun _=>?_) (fun h_=>by cases h_)
      let aL:Nat × SV:=(29,.p 4 0)
      let bn:B8:=[ab,ae,ac,af,aj,ak,ao,aL,ag,ah,al,am,aB,aC,aF]
      refine Jr (e1:=bn) (e2:=bn) (e3:=[ab,ae,ac,af,aj,ak,ao,aL,(30,.v (.bool false)),ag,ah,al,am,aB,aC,aF]) (eL:=fun L_ z_=>[ab,ae,ac,af,aj,ak,ao,aL,(30,.v (.bool z_)),(31,.v (.int .i64 ((L_:Nat):Int))),ag,ah,al,am,aB,aC,aF]) (fU:=42) (t:=22) (bytes:=1) 0 290 291 292 293 294 295 296 297 298 299 [0,5,6,7,9,12,14,29,30,31,69,70,116,117,252,253,254] 3 (by rfl) kz (Nq (cs:=[aP,aQ,aW]) 4 [0,5,6,7,9,12,14,29,69,70,116,117,252,253,254] (fun _ _ _ _=>by kernel_rfl) kz) ?_ ?_ (fun _ _ _ _=>by kernel_rfl) ?_ (fun _ _ _ _ _ _=>by kernel_rfl) kz kz kz kz (fun _ _ _ _ _=>by kernel_rfl) kz (fun _ _ _ _ _=>by kernel_rfl) kz (fun _ _ _ _ _=>by kernel_rfl) kz (fun _ _ _ _ _ _ _ _=>by kernel_rfl) kz (fun _ _ _ _ _ _=>by kernel_rfl) kz (fun _ _ _ _ _ _ _ _ _=>by kernel_rfl) kz kz (fun y_ hy_ A_ cp_ s_ w_ ho_ hr_=>Q1 y_ (by omega) A_ cp_ s_ w_ ho_ hr_) Tryz.call42 (fun _ _ _ _ _=>by kernel_rfl) (fun _ _ _ _=>by kernel_rfl) kz (by have h1:=Z4 (((((D.f 0).f k5).f 2).f ai).f 7).u.length (by have:=g24l; omega); have h2:=g24t; simp only [List.length_append,be_length]; split <;> simp only [List.length_append,List.length_nil] <;> omega) (fun _=>List.take_left' rfl) kz
      ·
       intro q_
       exact J3 (f:=42) (vs:=[.int .u32 0]) 1 [0,5,6,7,9,12,14,29,69,70,116,117,252,253,254] (fun _ _ _ _ _ _=>by kernel_rfl) kz Tryz.call42 (fun A cp s w _ _ ho hr=>Q1 0 (by decide) A cp s w ho hr)
      ·exact fun q_=>E6 [0,5,6,7,9,12,14,29,30,69,70,116,117,252,253,254] (fun _ _ _=>by kernel_rfl)
      intro q_ L_ z_
      let aS:Nat × SV:=(31,.v (.int .i64 ((L_:Nat):Int)))
      let aN:B8:=[ab,ae,ac,af,aj,ak,ao,aL,(30,.v (.bool z_)),aS,ag,ah,al,am,aB,aC,aF]
      refine Dk (e1:=aN) ?_ ?_
      ·
       refine G0 (E6 (env':=[ab,ae,ac,af,aj,ak,ao,aL,(30,.v (.bool z_)),aS,(32,.v (.int .i32 (((((((D.f 0).f k5).f 2).f ai).f 7).f 0).n))),ag,ah,al,am,aB,aC,aF]) [0,5,6,7,9,12,14,29,30,31,32,69,70,116,117,252,253,254] (fun _ _ _=>by kernel_rfl)) ?_
       exact J3 (f:=37) (vs:=[aP]) 2 [0,5,6,7,9,12,14,29,30,31,69,70,116,117,252,253,254] (fun _ _ _ _ _ _=>by kernel_rfl) kz Tryz.call37 (fun A cp s w _ _ ho hr=>Bb A cp s (((((((D.f 0).f k5).f 2).f ai).f 7).f 0).n) w ho (by omega))
      refine Dk (e1:=aN) ?_ ?_
      ·
       refine G0 (E6 (env':=[ab,ae,ac,af,aj,ak,ao,aL,(30,.v (.bool z_)),aS,(33,.v (.int .i32 (((((((D.f 0).f k5).f 2).f ai).f 7).f 1).n))),ag,ah,al,am,aB,aC,aF]) [0,5,6,7,9,12,14,29,30,31,33,69,70,116,117,252,253,254] (fun _ _ _=>by kernel_rfl)) ?_
       exact J3 (f:=37) (vs:=[aQ]) 2 [0,5,6,7,9,12,14,29,30,31,69,70,116,117,252,253,254] (fun _ _ _ _ _ _=>by kernel_rfl) kz Tryz.call37 (fun A cp s w _ _ ho hr=>Bb A cp s (((((((D.f 0).f k5).f 2).f ai).f 7).f 1).n) w ho (by omega))
      refine Jp (Dk (e1:=aN) ?_ Jo) (List.append_nil _)
      refine G0 (E6 (env':=[ab,ae,ac,af,aj,ak,ao,aL,(30,.v (.bool z_)),aS,ag,ah,al,am,aB,aC,aF,(279,.v (.bool (decide (v ≥ 9))))]) [0,5,6,7,9,12,14,29,30,31,69,70,116,117,252,253,254,279] (fun _ _ _=>by kernel_rfl)) ?_
      refine S7 (b:=decide (v ≥ 9)) (fun _ _ _=>by kernel_rfl) (fun hb=>?_) (fun hb=>?_)
      ·
       refine K4 (e1:=aN) ?_ ?_
       ·
        exact Nt (f1:=43) (vs1:=[.pointer (some ⟨q_,2,none⟩)]) (r1:=.int .i64 (((((((D.f 0).f k5).f 2).f ai).f 7).u.length:Nat):Int)) (f:=42) (vs:=[.int .u32 (IntKind.u32.wrap (0 + (IntKind.u32.wrap (((((((D.f 0).f k5).f 2).f ai).f 7).u.length:Nat):Int))))]) (q:=4) rfl 2 5 [0,5,6,7,9,12,14,29,30,31,69,70,116,117,252,253,254] (fun _ _ _ _ _ _=>by kernel_rfl) kz Tryz.call43 Tryz.call42 (fun w hs hq_=>Ba (F:=fun b o=>Lo F _ b o ∨ b = _) (hq_.one 2 rfl).orR ((bD.move hs (F0 hF) F1).orL)) (fun A cp s w _ _ ho hr=>by rw [show (IntKind.u32.wrap (0 + (IntKind.u32.wrap (((((((D.f 0).f k5).f 2).f ai).f 7).u.length:Nat):Int))):Int) = (((((((D.f 0).f k5).f 2).f ai).f 7).u.length:Nat):Int) from DU _ g24l]; exact Q1 (((((D.f 0).f k5).f 2).f ai).f 7).u.length (by have:=g24l; omega) A cp s w ho hr)
       exact Nu (f:=44) (q:=4) rfl 2 [0,5,6,7,9,12,14,29,30,31,69,70,116,117,252,253,254] (fun s=>[.pointer (some ⟨q_,2,none⟩),s]) (fun _ _ _ _ _ _=>by kernel_rfl) kz Tryz.call44 (fun A cp s w hs hA hq_ hn_ ho hr=>Bd (F:=fun b o=>Lo F _ b o ∨ b = _) (hq_.one 2 rfl).orR ((bD.move hs (F0 hF) F1).orL) ho (Ns hF hA hn_) g24x hr)
      exact R3 (e1:=aN) [0,5,6,7,9,12,14,29,30,31,69,70,116,117,252,253,254] (fun _ _ _=>by kernel_rfl) S5
     exact BF (f:=44) 4 [117,0,5,6,7,9,12,69,70,116] (fun s=>[aR,s]) (fun _ _ _ _ _ _=>by kernel_rfl) kz Tryz.call44 (fun A cp s w hs hA ho hr=>Bd (F:=Lo F _) ((hat2.one 10 rfl).move hs (F0 hF) F1) (bx.move hs (F0 hF) F1) ho (R8 hF hA) g21x hr)
    rw [Ek hb,Cw hb,Nat.zero_add,List.nil_append]
    refine R3 (e1:=aV) [0,5,6,7,9,12,14,26,69,70,116,117] (fun _ _ _=>by kernel_rfl) ?_
    refine K4 (e1:=aV) ?_ ?_
    ·
     exact Bz (f1:=43) (vs1:=[aR]) (r1:=.int .i64 ((((((D.f 0).f k5).f 2).f ai).u.length:Nat):Int)) (f:=42) (vs:=[.int .u32 (IntKind.u32.wrap (IntKind.i64.wrap (0 + ((((((D.f 0).f k5).f 2).f ai).u.length:Nat):Int))))]) 6 9 [0,5,6,7,9,12,14,26,69,70,116,117] (fun _ _ _ _ _ _=>by kernel_rfl) kz Tryz.call43 Tryz.call42 (fun w hs=>Ba (F:=Lo F _) ((hat2.one 10 rfl).move hs (F0 hF) F1) (bx.move hs (F0 hF) F1)) (fun A cp s w _ _ ho hr=>by rw [show (IntKind.u32.wrap (IntKind.i64.wrap (0 + ((((((D.f 0).f k5).f 2).f ai).u.length:Nat):Int))):Int) = ((((((D.f 0).f k5).f 2).f ai).u.length:Nat):Int) from by have h_:=g21l; rw [wrap_i64 (by omega) (by omega),D5]; omega]; exact Q1 ((((D.f 0).f k5).f 2).f ai).u.length (by have:=g21l; omega) A cp s w ho hr)
    refine G0 (e1:=ay) ?_ ?_
    ·
     refine G0 (E6 (env':=[(254,.v (.int .i64 0)),ab,ae,ac,af,aj,ak,ao,ag,ah,al,am,(252,.v (.slice none 0 0)),(253,.v (.int .i64 0))]) [254,0,5,6,7,9,12,14,69,70,116,117,252,253] (fun _ _ _=>by kernel_rfl)) ?_
     refine Be (e1:=[ab,ae,ac,af,aj,ak,ao,ag,ah,al,am,(252,.v (.slice none 0 0)),(253,.v (.int .i64 0))]) [0,5,6,7,9,12,14,69,70,116,117] (fun _ _ _=>by kernel_rfl) ?_
     refine Z2 (Z3 (len:=0) (xs:=fun _=>[]) 254 255 [0,5,6,7,9,12,14,69,70,116,117,252,253] (fun _ _ _ _=>by kernel_rfl) (fun _ _ _ _=>by kernel_rfl) (fun _ _ _ _ _=>by kernel_rfl) (fun _ _ _ _ _=>by kernel_rfl) kz (by decide) (fun k_ hk_=>?_)) rfl
     exact absurd hk_ (Nat.not_lt_zero _)
    exact BF (f:=44) 4 [117,0,5,6,7,9,12,69,70,116] (fun s=>[aR,s]) (fun _ _ _ _ _ _=>by kernel_rfl) kz Tryz.call44 (fun A cp s w hs hA ho hr=>Bd (F:=Lo F _) ((hat2.one 10 rfl).move hs (F0 hF) F1) (bx.move hs (F0 hF) F1) ho (R8 hF hA) g21x hr)
   exact R3 (e1:=[am,ab,ae,ac,af,aj,ak,ag,ah,al]) [117,0,5,6,7,9,12,69,70,116] (fun _ _ _=>by kernel_rfl) S5
  refine G0 (E6 (env':=[ab,ae,ac,af,aj,ag,ah,(307,.v (.bool (decide (v ≥ 9))))]) [0,5,6,7,9,69,70,307] (fun _ _ _=>by kernel_rfl)) ?_
  refine S7 (b:=decide (v ≥ 9)) (fun _ _ _=>by kernel_rfl) (fun hb=>?_) (fun hb=>?_)
  ·
   refine K4 (e1:=aJ) ?_ ?_
   ·
    exact Bz (f1:=43) (vs1:=[.pointer (some ⟨bb1,oo1 + 18,none⟩)]) (r1:=.int .i64 ((((D.f 0).f k5).u.length:Nat):Int)) (f:=42) (vs:=[.int .u32 (IntKind.u32.wrap (0 + (IntKind.u32.wrap ((((D.f 0).f k5).u.length:Nat):Int))))]) 4 7 [0,5,6,7,9,69,70] (fun _ _ _ _ _ _=>by kernel_rfl) kz Tryz.call43 Tryz.call42 (fun w hs=>Ba (F:=Lo F _) ((hat1.one 18 rfl).move hs (F0 hF) F1) (bz.move hs (F0 hF) F1)) (fun A cp s w _ _ ho hr=>by rw [show (IntKind.u32.wrap (0 + (IntKind.u32.wrap ((((D.f 0).f k5).u.length:Nat):Int))):Int) = ((((D.f 0).f k5).u.length:Nat):Int) from DU _ g10l]; exact Q1 ((D.f 0).f k5).u.length (by have:=g10l; omega) A cp s w ho hr)
   exact BF (f:=44) 4 [70,0,5,6,7,69] (fun s=>[.pointer (some ⟨bb1,oo1 + 18,none⟩),s]) (fun _ _ _ _ _ _=>by kernel_rfl) kz Tryz.call44 (fun A cp s w hs hA ho hr=>Bd (F:=Lo F _) ((hat1.one 18 rfl).move hs (F0 hF) F1) (bz.move hs (F0 hF) F1) ho (R8 hF hA) g10x hr)
  exact R3 (e1:=[ah,ab,ae,ac,af,ag]) [70,0,5,6,7,69] (fun _ _ _=>by kernel_rfl) S5
 let bo:B8:=[ab,ac]
 refine Cg (e1:=bo) ?_ ?_
 ·
  refine G0 (E6 (env':=[ab,ac,(323,.v (.bool (decide (v ≥ 1))))]) [0,6,323] (fun _ _ _=>by kernel_rfl)) ?_
  refine S7 (b:=decide (v ≥ 1)) (fun _ _ _=>by kernel_rfl) (fun hb=>?_) (fun hb=>?_)
  ·
   refine G0 (E6 (env':=[ab,ac,(34,.v (.int .i32 ((D.f 1).n)))]) [0,6,34] (fun _ _ _=>by kernel_rfl)) ?_
   exact J3 (f:=37) (vs:=[.int .i32 ((D.f 1).n)]) 2 [0,6] (fun _ _ _ _ _ _=>by kernel_rfl) kz Tryz.call37 (fun A cp s w _ _ ho hr=>Bb A cp s ((D.f 1).n) w ho (by omega))
  exact R3 (e1:=bo) [0,6] (fun _ _ _=>by kernel_rfl) S5
 refine Cg (e1:=[]) ?_ ?_
 ·
  refine G0 (E6 (env':=[ab,ac,(331,.v (.bool (decide (v ≥ 9))))]) [0,6,331] (fun _ _ _=>by kernel_rfl)) ?_
  refine S7 (b:=decide (v ≥ 9)) (fun _ _ _=>by kernel_rfl) (fun hb=>?_) (fun hb=>?_)
  ·
   let aX:B8:=[ab,ac,(35,.v (.slice none 0 0))]
   refine G0 (E6 (env':=aX) [0,6,35] (fun _ _ _=>by kernel_rfl)) ?_
   let aT:Value:=.pointer (some ⟨b,o + 4,none⟩)
   refine Jj (b:=decide ((((D.f 2).l:Nat):Int) > 0)) (v:=.int .u32 0) (e2:=fun g_ c_=>[ab,ac,(35,.v (.slice (some ⟨g_,0,none⟩) 1 c_))]) [0,6,35] 338 339 340 96 53 4 (E6 (env':=[ab,ac,(35,.v (.slice none 0 0)),(337,.v (.bool (decide ((((D.f 2).l:Nat):Int) > 0))))]) [0,6,35,337] (fun _ _ _=>by kernel_rfl)) (fun _ _ _=>by kernel_rfl) kz (fun _ _ _=>by kernel_rfl) (fun _ _ _=>by kernel_rfl) (fun _ _ _ _=>by kernel_rfl) (fun _ _ _ _ _ _=>by kernel_rfl) kz kz kz kz (fun hb g_ c_=>?_) (fun hb=>?_)
   ·
    rw [Bg hb,Ej hb]
    refine K4 (e1:=[ab,ac,(35,.v (.slice (some ⟨g_,0,none⟩) 1 c_))]) ?_ ?_
    ·
     exact Bz (f1:=43) (vs1:=[aT]) (r1:=.int .i64 ((D.u.length:Nat):Int)) (f:=42) (vs:=[.int .u32 (IntKind.u32.wrap (IntKind.i64.wrap (1 + ((D.u.length:Nat):Int))))]) 6 9 [0,6,35] (fun _ _ _ _ _ _=>by kernel_rfl) kz Tryz.call43 Tryz.call42 (fun w hs=>Ba (F:=Lo F _) ((hat.one 4 rfl).move hs (F0 hF) F1) (g4.move hs (F0 hF) F1)) (fun A cp s w _ _ ho hr=>by rw [show (IntKind.u32.wrap (IntKind.i64.wrap (1 + ((D.u.length:Nat):Int))):Int) = (((1 + D.u.length):Nat):Int) from by have h_:=g4l; rw [wrap_i64 (by omega) (by omega),D5]; omega]; exact Q1 (1 + D.u.length) (by have:=g4l; omega) A cp s w ho hr)
    refine K4 (e1:=[ab]) ?_ ?_
    ·
     let ar:Nat × SV:=(351,.v (.slice (some ⟨g_,0,none⟩) 1 c_))
     let au:Nat × SV:=(352,.v (.int .i64 1))
     refine G0 (E6 (env':=[(353,.v (.int .i64 0)),ab,ac,ar,au]) [353,0,6,351,352] (fun _ _ _=>by kernel_rfl)) ?_
     refine Be (e1:=[ab,ac,ar,au]) [0] (fun _ _ _=>by kernel_rfl) ?_
     refine Z2 (Z3 (len:=1) (xs:=fun _=>uv 0 ++ (uv ((if (decide (v ≥ 9)) = true then (uv ((D.f 2).l + 1)) else (be 4 (D.f 2).l)) ++ ((List.range (D.f 2).l).flatMap fun ap=>(be 4 ((((D.f 2).f ap).f 0).n)) ++ ((if (decide (v ≥ 9)) = true then (uv ((((D.f 2).f ap).f 1).s.size + 1) ++ sb (((D.f 2).f ap).f 1).s) else (be 2 (((D.f 2).f ap).f 1).s.size ++ sb (((D.f 2).f ap).f 1).s)) ++ ((be 4 ((((D.f 2).f ap).f 2).n)) ++ ((if (decide (v ≥ 9)) = true then (if (((D.f 2).f ap).f 3).A.isNone = true then uv 0 else uv ((((D.f 2).f ap).f 3).s.size + 1) ++ sb (((D.f 2).f ap).f 3).s) else (if (((D.f 2).f ap).f 3).A.isNone = true then be 2 (-1) else be 2 (((D.f 2).f ap).f 3).s.size ++ sb (((D.f 2).f ap).f 3).s)) ++ (if (decide (v ≥ 9)) = true then (uv ((D.f 2).f ap).u.length) ++ (D7 ((D.f 2).f ap).u) else [])))))).length ++ ((if (decide (v ≥ 9)) = true then (uv ((D.f 2).l + 1)) else (be 4 (D.f 2).l)) ++ ((List.range (D.f 2).l).flatMap fun ap=>(be 4 ((((D.f 2).f ap).f 0).n)) ++ ((if (decide (v ≥ 9)) = true then (uv ((((D.f 2).f ap).f 1).s.size + 1) ++ sb (((D.f 2).f ap).f 1).s) else (be 2 (((D.f 2).f ap).f 1).s.size ++ sb (((D.f 2).f ap).f 1).s)) ++ ((be 4 ((((D.f 2).f ap).f 2).n)) ++ ((if (decide (v ≥ 9)) = true then (if (((D.f 2).f ap).f 3).A.isNone = true then uv 0 else uv ((((D.f 2).f ap).f 3).s.size + 1) ++ sb (((D.f 2).f ap).f 3).s) else (if (((D.f 2).f ap).f 3).A.isNone = true then be 2 (-1) else be 2 (((D.f 2).f ap).f 3).s.size ++ sb (((D.f 2).f ap).f 3).s)) ++ (if (decide (v ≥ 9)) = true then (uv ((D.f 2).f ap).u.length) ++ (D7 ((D.f 2).f ap).u) else [])))))))) 353 354 [0,6,351,352] (fun _ _ _ _=>by kernel_rfl) (fun _ _ _ _=>by kernel_rfl) (fun _ _ _ _ _=>by kernel_rfl) (fun _ _ _ _ _=>by kernel_rfl) kz (by decide) (fun k_ hk_=>?_)) (Jn _)
     obtain rfl:k_ = 0:=by omega
     let av:Nat × SV:=(353,.v (.int .i64 ((0:Nat):Int)))
     refine Jk (t:=96) (e:=53) (size:=1) (bytes:=4) (dd:=355) (b:=g_) (e1:=[ab,ac,(37,.v (.int .u32 0)),ar,au,av]) 1 [0,6,37,351,352,353] (fun _ _ _=>by kernel_rfl) kz (Nat.le_of_ble_eq_true rfl) rfl rfl kz (fun _ _ _=>by kernel_rfl) ?_
     refine G0 (E6 (env':=[ab,ac,ar,au,av,(357,.v (.int .u32 0))]) [0,6,351,352,353,357] (fun _ _ _=>by kernel_rfl)) (Jl ?_)
     refine G0 (E6 (env':=[ab,ac,ar,au,av,(358,.v (.bool true))]) [0,6,351,352,353,358] (fun _ _ _=>by kernel_rfl)) ?_
     refine DE (b:=true) (fun _ _ _=>by kernel_rfl) (fun _=>?_) (fun h_=>by cases h_)
     let aw:Nat × SV:=(38,.v (.slice ((D.f 2).A) ((D.f 2).l) ((D.f 2).c)))
     let bp:B8:=[ab,ac,aw,ar,au,av]
     refine Jr (e1:=bp) (e2:=bp) (e3:=[ab,ac,aw,(39,.v (.bool false)),ar,au,av]) (eL:=fun L_ z_=>[ab,ac,aw,(39,.v (.bool z_)),(40,.v (.int .i64 ((L_:Nat):Int))),ar,au,av]) (fU:=42) (t:=22) (bytes:=1) 1 437 438 439 440 441 442 443 444 445 446 [0,6,38,39,40,351,352,353] 2 (by rfl) kz (Np [0,6,38,351,352,353] (fun _ _ _=>by kernel_rfl)) ?_ ?_ (fun _ _ _ _=>by kernel_rfl) ?_ (fun _ _ _ _ _ _=>by kernel_rfl) kz kz kz kz (fun _ _ _ _ _=>by kernel_rfl) kz (fun _ _ _ _ _=>by kernel_rfl) kz (fun _ _ _ _ _=>by kernel_rfl) kz (fun _ _ _ _ _ _ _ _=>by kernel_rfl) kz (fun _ _ _ _ _ _=>by kernel_rfl) kz (fun _ _ _ _ _ _ _ _ _=>by kernel_rfl) kz kz (fun y_ hy_ A_ cp_ s_ w_ ho_ hr_=>Q1 y_ (by omega) A_ cp_ s_ w_ ho_ hr_) Tryz.call42 (fun _ _ _ _ _=>by kernel_rfl) (fun _ _ _ _=>by kernel_rfl) kz (hbl) (fun _=>List.take_length) kz
     ·
      intro q_
      exact J3 (f:=42) (vs:=[.int .u32 0]) 1 [0,6,38,351,352,353] (fun _ _ _ _ _ _=>by kernel_rfl) kz Tryz.call42 (fun A cp s w _ _ ho hr=>Q1 0 (by decide) A cp s w ho hr)
     ·exact fun q_=>E6 [0,6,38,39,351,352,353] (fun _ _ _=>by kernel_rfl)
     intro q_ L_ z_
     let az:Nat × SV:=(39,.v (.bool z_))
     let aA:Nat × SV:=(40,.v (.int .i64 ((L_:Nat):Int)))
     let bq:B8:=[ab,ac,aw,az,aA,ar,au,av]
     refine Dk (e1:=bq) ?_ ?_
     ·
      refine G0 (E6 (env':=[ab,ac,aw,az,aA,ar,au,av,(368,.v (.bool (decide (v ≥ 9))))]) [0,6,38,39,40,351,352,353,368] (fun _ _ _=>by kernel_rfl)) ?_
      refine Y3 (b:=decide (v ≥ 9)) (fun _ _ _=>by kernel_rfl) (fun hb=>?_) (fun hb=>?_)
      ·
       exact J3 (f:=32) (vs:=[.int .i64 (((D.f 2).l:Nat):Int)]) 3 [0,6,38,39,40,351,352,353] (fun _ _ _ _ _ _=>by kernel_rfl) kz Tryz.call32 (fun A cp s w _ _ ho hr=>DR (D.f 2).l g3l A cp s w ho hr)
      exact J3 (f:=33) (vs:=[.int .i64 (((D.f 2).l:Nat):Int)]) 3 [0,6,38,39,40,351,352,353] (fun _ _ _ _ _ _=>by kernel_rfl) kz Tryz.call33 (fun A cp s w _ _ ho hr=>DQ (D.f 2).l A cp s w ho hr)
     refine Jp (Dk (e1:=bq) ?_ Jo) (List.append_nil _)
     let aD:Nat × SV:=(378,.v (.int .i64 (((D.f 2).l:Nat):Int)))
     refine G0 (E6 (env':=[(379,.v (.int .i64 0)),ab,ac,aw,az,aA,ar,au,av,aD]) [379,0,6,38,39,40,351,352,353,378] (fun _ _ _=>by kernel_rfl)) ?_
     refine Be (e1:=[ab,ac,aw,az,aA,ar,au,av,aD]) [0,6,38,39,40,351,352,353] (fun _ _ _=>by kernel_rfl) ?_
     refine Z3 (len:=(D.f 2).l) (xs:=fun ap=>(be 4 ((((D.f 2).f ap).f 0).n)) ++ ((if (decide (v ≥ 9)) = true then (uv ((((D.f 2).f ap).f 1).s.size + 1) ++ sb (((D.f 2).f ap).f 1).s) else (be 2 (((D.f 2).f ap).f 1).s.size ++ sb (((D.f 2).f ap).f 1).s)) ++ ((be 4 ((((D.f 2).f ap).f 2).n)) ++ ((if (decide (v ≥ 9)) = true then (if (((D.f 2).f ap).f 3).A.isNone = true then uv 0 else uv ((((D.f 2).f ap).f 3).s.size + 1) ++ sb (((D.f 2).f ap).f 3).s) else (if (((D.f 2).f ap).f 3).A.isNone = true then be 2 (-1) else be 2 (((D.f 2).f ap).f 3).s.size ++ sb (((D.f 2).f ap).f 3).s)) ++ (if (decide (v ≥ 9)) = true then (uv ((D.f 2).f ap).u.length) ++ (D7 ((D.f 2).f ap).u) else []))))) 379 380 [0,6,38,39,40,351,352,353,378] (fun _ _ _ _=>by kernel_rfl) (fun _ _ _ _=>by kernel_rfl) (fun _ _ _ _ _=>by kernel_rfl) (fun _ _ _ _ _=>by kernel_rfl) kz (Nat.le_trans g3l (by decide)) (fun ap bw=>?_)
     let aG:Nat × SV:=(379,.v (.int .i64 ((ap:Nat):Int)))
     refine G0 (E6 (env':=[ab,ac,aw,az,aA,(41,.v (.int .i64 ((ap:Nat):Int))),ar,au,av,aD,aG]) [0,6,38,39,40,41,351,352,353,378,379] (fun _ _ _=>by kernel_rfl)) ?_
     let aI:Nat × SV:=(42,.p 2 0)
     let aM:B8:=[ab,ac,aw,az,aA,aI,ar,au,av,aD,aG]
     refine Eh (t:=58) (e:=101) (size:=5) (bytes:=48) (len:=(D.f 2).l) (j:=ap) (cs:=fun i=>[.int .i32 ((((D.f 2).f i).f 0).n),.string ((((D.f 2).f i).f 1).s),.int .i32 ((((D.f 2).f i).f 2).n),.pointer ((((D.f 2).f i).f 3).A),.map (((D.f 2).f i).m)]) (e1:=aM) 2 [0,6,38,39,40,42,351,352,353,378,379] (fun _ _ _ _ _=>by kernel_rfl) kz kz g3 bw hF kz kz kz fun bb2 oo2 hat2=>?_
     have bH:=g3e ap bw
     unfold W8 at bH
     obtain ⟨bU,bL,bV,⟨bI,g35l⟩,bJ,g36l,g36x,_⟩:=bH
     refine K4 (e1:=aM) ?_ ?_
     ·
      refine G0 (E6 (env':=[ab,ac,aw,az,aA,aI,(43,.v (.int .i32 ((((D.f 2).f ap).f 0).n))),ar,au,av,aD,aG]) [0,6,38,39,40,42,43,351,352,353,378,379] (fun _ _ _=>by kernel_rfl)) ?_
      exact J3 (f:=37) (vs:=[.int .i32 ((((D.f 2).f ap).f 0).n)]) 2 [0,6,38,39,40,42,351,352,353,378,379] (fun _ _ _ _ _ _=>by kernel_rfl) kz Tryz.call37 (fun A cp s w _ _ ho hr=>Bb A cp s ((((D.f 2).f ap).f 0).n) w ho (by omega))
     refine K4 (e1:=aM) ?_ ?_
     ·
      refine G0 (E6 (env':=[ab,ac,aw,az,aA,aI,(44,.v (.string ((((D.f 2).f ap).f 1).s))),ar,au,av,aD,aG]) [0,6,38,39,40,42,44,351,352,353,378,379] (fun _ _ _=>by kernel_rfl)) ?_
      refine G0 (E6 (env':=[ab,ac,aw,az,aA,aI,(44,.v (.string ((((D.f 2).f ap).f 1).s))),ar,au,av,aD,aG,(396,.v (.bool (decide (v ≥ 9))))]) [0,6,38,39,40,42,44,351,352,353,378,379,396] (fun _ _ _=>by kernel_rfl)) ?_
      refine Y3 (b:=decide (v ≥ 9)) (fun _ _ _=>by kernel_rfl) (fun hb=>?_) (fun hb=>?_)
      ·
       exact J3 (f:=34) (vs:=[.string ((((D.f 2).f ap).f 1).s)]) 2 [0,6,38,39,40,42,351,352,353,378,379] (fun _ _ _ _ _ _=>by kernel_rfl) kz Tryz.call34 (fun A cp s w _ _ ho hr=>FQ (((D.f 2).f ap).f 1).s A cp s w ho bL hr)
      exact J3 (f:=35) (vs:=[.string ((((D.f 2).f ap).f 1).s)]) 2 [0,6,38,39,40,42,351,352,353,378,379] (fun _ _ _ _ _ _=>by kernel_rfl) kz Tryz.call35 (fun A cp s w _ _ ho hr=>FP (((D.f 2).f ap).f 1).s A cp s w ho hr)
     refine K4 (e1:=aM) ?_ ?_
     ·
      refine G0 (E6 (env':=[ab,ac,aw,az,aA,aI,(45,.v (.int .i32 ((((D.f 2).f ap).f 2).n))),ar,au,av,aD,aG]) [0,6,38,39,40,42,45,351,352,353,378,379] (fun _ _ _=>by kernel_rfl)) ?_
      exact J3 (f:=37) (vs:=[.int .i32 ((((D.f 2).f ap).f 2).n)]) 2 [0,6,38,39,40,42,351,352,353,378,379] (fun _ _ _ _ _ _=>by kernel_rfl) kz Tryz.call37 (fun A cp s w _ _ ho hr=>Bb A cp s ((((D.f 2).f ap).f 2).n) w ho (by omega))
     refine K4 (e1:=aM) ?_ ?_
     ·
      refine G0 (E6 (env':=[ab,ac,aw,az,aA,aI,(46,.v (.pointer ((((D.f 2).f ap).f 3).A))),ar,au,av,aD,aG]) [0,6,38,39,40,42,46,351,352,353,378,379] (fun _ _ _=>by kernel_rfl)) ?_
      refine G0 (E6 (env':=[ab,ac,aw,az,aA,aI,(46,.v (.pointer ((((D.f 2).f ap).f 3).A))),ar,au,av,aD,aG,(414,.v (.bool (decide (v ≥ 9))))]) [0,6,38,39,40,42,46,351,352,353,378,379,414] (fun _ _ _=>by kernel_rfl)) ?_
      refine Y3 (b:=decide (v ≥ 9)) (fun _ _ _=>by kernel_rfl) (fun hb=>?_) (fun hb=>?_)
      ·
       exact J3 (f:=40) (vs:=[.pointer ((((D.f 2).f ap).f 3).A)]) 2 [0,6,38,39,40,42,351,352,353,378,379] (fun _ _ _ _ _ _=>by kernel_rfl) kz Tryz.call40 (fun A cp s w hs hA ho hr=>Gn (((D.f 2).f ap).f 3).A (((D.f 2).f ap).f 3).s A cp s w ho (Lo F _) (R8 hF hA) (fun ad h=>by obtain ⟨b',o',g1,g2⟩:=bI ad h; exact ⟨b',o',g1,g2.move hs (F0 hF) F1⟩) g35l hr)
      exact J3 (f:=41) (vs:=[.pointer ((((D.f 2).f ap).f 3).A)]) 2 [0,6,38,39,40,42,351,352,353,378,379] (fun _ _ _ _ _ _=>by kernel_rfl) kz Tryz.call41 (fun A cp s w hs hA ho hr=>Gm (((D.f 2).f ap).f 3).A (((D.f 2).f ap).f 3).s A cp s w ho (Lo F _) (R8 hF hA) (fun ad h=>by obtain ⟨b',o',g1,g2⟩:=bI ad h; exact ⟨b',o',g1,g2.move hs (F0 hF) F1⟩) g35l hr)
     refine G0 (E6 (env':=[ab,ac,aw,az,aA,aI,ar,au,av,aD,aG,(421,.v (.bool (decide (v ≥ 9))))]) [0,6,38,39,40,42,351,352,353,378,379,421] (fun _ _ _=>by kernel_rfl)) ?_
     refine S7 (b:=decide (v ≥ 9)) (fun _ _ _=>by kernel_rfl) (fun hb=>?_) (fun hb=>?_)
     ·
      refine K4 (e1:=aM) ?_ ?_
      ·
       exact Bz (f1:=43) (vs1:=[.pointer (some ⟨bb2,oo2 + 4,none⟩)]) (r1:=.int .i64 ((((D.f 2).f ap).u.length:Nat):Int)) (f:=42) (vs:=[.int .u32 (IntKind.u32.wrap (0 + (IntKind.u32.wrap ((((D.f 2).f ap).u.length:Nat):Int))))]) 4 7 [0,6,38,39,40,42,351,352,353,378,379] (fun _ _ _ _ _ _=>by kernel_rfl) kz Tryz.call43 Tryz.call42 (fun w hs=>Ba (F:=Lo F _) ((hat2.one 4 rfl).move hs (F0 hF) F1) (bJ.move hs (F0 hF) F1)) (fun A cp s w _ _ ho hr=>by rw [show (IntKind.u32.wrap (0 + (IntKind.u32.wrap ((((D.f 2).f ap).u.length:Nat):Int))):Int) = ((((D.f 2).f ap).u.length:Nat):Int) from DU _ g36l]; exact Q1 ((D.f 2).f ap).u.length (by have:=g36l; omega) A cp s w ho hr)
      exact BF (f:=44) 4 [379,0,6,38,39,40,351,352,353,378] (fun s=>[.pointer (some ⟨bb2,oo2 + 4,none⟩),s]) (fun _ _ _ _ _ _=>by kernel_rfl) kz Tryz.call44 (fun A cp s w hs hA ho hr=>Bd (F:=Lo F _) ((hat2.one 4 rfl).move hs (F0 hF) F1) (bJ.move hs (F0 hF) F1) ho (R8 hF hA) g36x hr)
     exact R3 (e1:=[aG,ab,ac,aw,az,aA,ar,au,av,aD]) [379,0,6,38,39,40,351,352,353,378] (fun _ _ _=>by kernel_rfl) S5
    exact BF (f:=44) 4 [] (fun s=>[aT,s]) (fun _ _ _ _ _ _=>by kernel_rfl) kz Tryz.call44 (fun A cp s w hs hA ho hr=>Bd (F:=Lo F _) ((hat.one 4 rfl).move hs (F0 hF) F1) (g4.move hs (F0 hF) F1) ho (R8 hF hA) g4x hr)
   rw [Ek hb,Cw hb,Nat.zero_add,List.nil_append]
   refine R3 (e1:=aX) [0,6,35] (fun _ _ _=>by kernel_rfl) ?_
   refine K4 (e1:=aX) ?_ ?_
   ·
    exact Bz (f1:=43) (vs1:=[aT]) (r1:=.int .i64 ((D.u.length:Nat):Int)) (f:=42) (vs:=[.int .u32 (IntKind.u32.wrap (IntKind.i64.wrap (0 + ((D.u.length:Nat):Int))))]) 6 9 [0,6,35] (fun _ _ _ _ _ _=>by kernel_rfl) kz Tryz.call43 Tryz.call42 (fun w hs=>Ba (F:=Lo F _) ((hat.one 4 rfl).move hs (F0 hF) F1) (g4.move hs (F0 hF) F1)) (fun A cp s w _ _ ho hr=>by rw [show (IntKind.u32.wrap (IntKind.i64.wrap (0 + ((D.u.length:Nat):Int))):Int) = ((D.u.length:Nat):Int) from by have h_:=g4l; rw [wrap_i64 (by omega) (by omega),D5]; omega]; exact Q1 D.u.length (by have:=g4l; omega) A cp s w ho hr)
   refine G0 (e1:=[ab]) ?_ ?_
   ·
    refine G0 (E6 (env':=[(353,.v (.int .i64 0)),ab,ac,(351,.v (.slice none 0 0)),(352,.v (.int .i64 0))]) [353,0,6,351,352] (fun _ _ _=>by kernel_rfl)) ?_
    refine Be (e1:=[ab,ac,(351,.v (.slice none 0 0)),(352,.v (.int .i64 0))]) [0] (fun _ _ _=>by kernel_rfl) ?_
    refine Z2 (Z3 (len:=0) (xs:=fun _=>[]) 353 354 [0,6,351,352] (fun _ _ _ _=>by kernel_rfl) (fun _ _ _ _=>by kernel_rfl) (fun _ _ _ _ _=>by kernel_rfl) (fun _ _ _ _ _=>by kernel_rfl) kz (by decide) (fun k_ hk_=>?_)) rfl
    exact absurd hk_ (Nat.not_lt_zero _)
   exact BF (f:=44) 4 [] (fun s=>[aT,s]) (fun _ _ _ _ _ _=>by kernel_rfl) kz Tryz.call44 (fun A cp s w hs hA ho hr=>Bd (F:=Lo F _) ((hat.one 4 rfl).move hs (F0 hF) F1) (g4.move hs (F0 hF) F1) ho (R8 hF hA) g4x hr)
  exact R3 (e1:=[]) [] (fun _ _ _=>by kernel_rfl) S5
 exact KM (fun _ _ _=>by kernel_rfl)
def H5 (v:Int) (T:Tree):Bs:=((if (decide (v ≥ 9)) = true then (uv ((lst (T.at_ 0)).length + 1)) else (be 4 (lst (T.at_ 0)).length)) ++ ((lst (T.at_ 0)).flatMap fun ae=>(if ((if (decide (v ≥ 0)) = true then decide (v ≤ 12) else false)) = true then if (decide (v ≥ 9)) = true then (uv ((ae.at_ 0).S.length + 1) ++ (ae.at_ 0).S) else (be 2 (ae.at_ 0).S.length ++ (ae.at_ 0).S) else []) ++ ((if (decide (v ≥ 13)) = true then (E8 (ae.at_ 1).S) else []) ++ (((if (decide (v ≥ 9)) = true then (uv ((lst (ae.at_ 2)).length + 1)) else (be 4 (lst (ae.at_ 2)).length)) ++ ((lst (ae.at_ 2)).flatMap fun ab=>(be 4 ((IntKind.i32.wrap (ab.at_ 0).N))) ++ ((be 2 ((IntKind.i16.wrap (ab.at_ 1).N))) ++ ((be 8 ((ab.at_ 2).N)) ++ ((if (decide (v ≥ 2)) = true then be 8 ((ab.at_ 3).N) else []) ++ ((if (decide (v ≥ 5)) = true then be 8 ((ab.at_ 4).N) else []) ++ ((if (decide (v ≥ 8)) = true then (if (decide (v ≥ 9)) = true then (uv ((lst (ab.at_ 5)).length + 1)) else (be 4 (lst (ab.at_ 5)).length)) ++ ((lst (ab.at_ 5)).flatMap fun af=>(be 4 ((IntKind.i32.wrap (af.at_ 0).N))) ++ ((if (decide (v ≥ 9)) = true then (if (af.at_ 1).null = true then uv 0 else uv ((D9 (af.at_ 1)).length + 1) ++ (D9 (af.at_ 1))) else (if (af.at_ 1).null = true then be 2 (-1) else be 2 (D9 (af.at_ 1)).length ++ (D9 (af.at_ 1)))) ++ (if (decide (v ≥ 9)) = true then (uv af.U.length) ++ (D7 af.U) else []))) else []) ++ ((if (decide (v ≥ 8)) = true then if (decide (v ≥ 9)) = true then (if (ab.at_ 6).null = true then uv 0 else uv ((D9 (ab.at_ 6)).length + 1) ++ (D9 (ab.at_ 6))) else (if (ab.at_ 6).null = true then be 2 (-1) else be 2 (D9 (ab.at_ 6)).length ++ (D9 (ab.at_ 6))) else []) ++ (if (decide (v ≥ 9)) = true then (uv (B5 (!((decide (be 4 ((ab.at_ 7).at_ 0).N = be 4 (-1))) && (decide (be 4 ((ab.at_ 7).at_ 1).N = be 4 (-1))) && decide ((ab.at_ 7).U.length = 0))) + ab.U.length)) ++ ((G8 (!((decide (be 4 ((ab.at_ 7).at_ 0).N = be 4 (-1))) && (decide (be 4 ((ab.at_ 7).at_ 1).N = be 4 (-1))) && decide ((ab.at_ 7).U.length = 0))) 0 (((fun ag=>(be 4 ((IntKind.i32.wrap (ag.at_ 0).N))) ++ ((be 4 ((IntKind.i32.wrap (ag.at_ 1).N))) ++ (if (decide (v ≥ 9)) = true then (uv ag.U.length) ++ (D7 ag.U) else []))) (ab.at_ 7)))) ++ (D7 ab.U)) else []))))))))) ++ (if (decide (v ≥ 9)) = true then (uv ae.U.length) ++ (D7 ae.U) else []))))) ++ ((if (decide (v ≥ 1)) = true then be 4 ((IntKind.i32.wrap (T.at_ 1).N)) else []) ++ ((if (decide (v ≥ 9)) = true then (uv (B5 (decide (0 < (lst (T.at_ 2)).length)) + T.U.length)) ++ ((G8 (decide (0 < (lst (T.at_ 2)).length)) 0 ((if (decide (v ≥ 9)) = true then (uv ((lst (T.at_ 2)).length + 1)) else (be 4 (lst (T.at_ 2)).length)) ++ ((lst (T.at_ 2)).flatMap fun ac=>(be 4 ((IntKind.i32.wrap (ac.at_ 0).N))) ++ ((if (decide (v ≥ 9)) = true then (uv ((ac.at_ 1).S.length + 1) ++ (ac.at_ 1).S) else (be 2 (ac.at_ 1).S.length ++ (ac.at_ 1).S)) ++ ((be 4 ((IntKind.i32.wrap (ac.at_ 2).N))) ++ ((if (decide (v ≥ 9)) = true then (if (ac.at_ 3).null = true then uv 0 else uv ((D9 (ac.at_ 3)).length + 1) ++ (D9 (ac.at_ 3))) else (if (ac.at_ 3).null = true then be 2 (-1) else be 2 (D9 (ac.at_ 3)).length ++ (D9 (ac.at_ 3)))) ++ (if (decide (v ≥ 9)) = true then (uv ac.U.length) ++ (D7 ac.U) else []))))))) ++ (D7 T.U)) else []) ++ ([])))
theorem GG {v:Int} {d:Nat} {l:List Fld} {t:Tree} {i:Nat} {k x1 x2 x3 x4 x5 x6:Int} {s:List Fld} (h:l[i]? = some (.mk k x1 x2 x3 x4 x5 x6 s)) (hk:k = 8 ∨ k = 9):(D9 ((C5 v (d + 1) l t).at_ i)).length ≤ 32767:=by
 rw [(De h hk).1]
 split
 ·exact Nat.zero_le _
 exact Nat.le_trans (N4 _) (by decide)
theorem GH {v:Int} {d:Nat} {l:List Fld} {t:Tree} {i:Nat} {x1 x2 x3 x5 x6:Int} {s:List Fld} (h:l[i]? = some (.mk 11 x1 x2 x3 (-1) x5 x6 s)):(lst ((C5 v (d + 1) l t).at_ i)).length ≤ 32767:=by
 rw [(Dg h).2,List.length_map]
 split
 ·exact Nat.zero_le _
 simp only [C8,List.length_take]; omega
theorem Ny {fields:List Fld} {l:List (Int × Bs)}:∀ x ∈ C6 fields l,C2 fields ≤ x.1:=by
 have key:∀ (r out:List (Int × Bs)),(∀ x ∈ out,C2 fields ≤ x.1) → ∀ x ∈ r.foldl (L2 (C2 fields)) out,C2 fields ≤ x.1:=by
  intro r
  induction r with
  | nil=>intro out h; exact h
  | cons t r ih =>
   intro out h
   rw [List.foldl_cons]
   refine ih _ ?_
   unfold L2
   dsimp only
   split
   ·exact h
   rename_i hn
   have ht:C2 fields ≤ t.1:=by
    rcases Int.lt_or_le t.1 (C2 fields) with g | g
    ·exact absurd (.inl g) hn
    exact g
   intro x hx
   rcases List.mem_append.1 hx with hx | hx
   ·exact h x (List.mem_of_mem_take hx)
   rcases List.mem_cons.1 hx with rfl | hx
   ·exact ht
   exact h x (List.mem_of_mem_drop hx)
 exact key _ [] (fun x hx=>by cases hx)
theorem Js {v:Int} {d:Nat} {l:List Fld} {t:Tree} {n:Int} (h:n ≤ C2 l):∀ x ∈ (C5 v d l t).U,n ≤ x.1:=by
 intro x hx
 rw [Y1] at hx
 obtain ⟨y,hy,rfl⟩:=List.mem_map.1 hx
 exact Int.le_trans h (Ny y hy)
def Y7 (u:List (Int × Bs)):Prop:=u.length ≤ 32767 ∧ ∀ y ∈ u,y.2.length ≤ 32767
theorem Nz {v:Int} {d:Nat} {l:List Fld} {t:Tree}:Y7 (C5 v d l t).U:=by
 rw [Y1]
 refine ⟨?_,fun y hy=>?_⟩
 ·rw [Bf]; exact IA _ _
 obtain ⟨x,_,rfl⟩:=List.mem_map.1 hy
 exact N4 _
theorem Jt {u:List (Int × Bs)} (h:Y7 u) (hr:∀ x ∈ u,0 ≤ x.1 ∧ x.1 < 4294967296):(D7 u).length ≤ 1100000000:=by
 have h1:=IB (u:=u) fun x hx=>⟨hr x hx,h.2 x hx⟩
 exact Nat.le_trans h1 (Nat.le_trans (Nat.mul_le_mul_left 32800 h.1) (by decide))
theorem Eo {v:Int} {d:Nat} {l:List Fld} {t:Tree} {i:Nat} {x1 x2 x3 x4 x5 x6:Int} {s:List Fld} (h:l[i]? = some (.mk 11 x1 x2 x3 x4 x5 x6 s)) :
  ((C5 v (d + 1) l t).at_ i).null = (Fld.nul (.mk 11 x1 x2 x3 x4 x5 x6 s) v (t.at_ i) || (decide (x4 ≥ 0) && decide ((t.at_ i).L.length = 0))) ∧
  lst ((C5 v (d + 1) l t).at_ i) = (if Fld.nul (.mk 11 x1 x2 x3 x4 x5 x6 s) v (t.at_ i) = true then [] else C8 (t.at_ i).L).map (fun x=>N2 (C5 v d) (.mk x6 x1 x2 (-1) (-1) x5 x6 s) (Fld.nul (.mk x6 x1 x2 (-1) (-1) x5 x6 s) v x) x):=by
 rw [BG h]
 have e:Q0 (C5 v d) v (.mk 11 x1 x2 x3 x4 x5 x6 s) (t.at_ i) = .mk 0 [] (Fld.nul (.mk 11 x1 x2 x3 x4 x5 x6 s) v (t.at_ i) || (decide (x4 ≥ 0) && decide ((t.at_ i).L.length = 0))) ((C8 (t.at_ i).L).map (fun x=>N2 (C5 v d) (.mk x6 x1 x2 (-1) (-1) x5 x6 s) (Fld.nul (.mk x6 x1 x2 (-1) (-1) x5 x6 s) v x) x)) []:=by
  simp [Q0,Fld.kind,Fld.tag,Fld.elem]
 rw [e]
 refine ⟨rfl,?_⟩
 unfold lst
 show (if (Fld.nul _ v (t.at_ i) || _) = true then [] else _) = _
 cases hn:Fld.nul (.mk 11 x1 x2 x3 x4 x5 x6 s) v (t.at_ i) with
 | true=>rfl
 | false =>
  cases hL:(t.at_ i).L with
  | nil=>simp [C8]; intros; rfl
  | cons y r=>simp [Tree.L]
theorem NA {v:Int} {d:Nat} {l:List Fld} {t:Tree} {i:Nat} {x1 x2 x3 x4 x5 x6:Int} {s:List Fld} (h:l[i]? = some (.mk 11 x1 x2 x3 x4 x5 x6 s)):(lst ((C5 v (d + 1) l t).at_ i)).length ≤ 32767:=by
 rw [(Eo h).2,List.length_map]
 split
 ·exact Nat.zero_le _
 simp only [C8,List.length_take]; omega
theorem NB {v:Int} {d:Nat} {l:List Fld} {t:Tree} {i:Nat} {x1 x2 x3 x4 x5 x6:Int} {s:List Fld} {Q:Tree → Prop} (h:l[i]? = some (.mk 11 x1 x2 x3 x4 x5 x6 s))
  (hq:∀ y,Q (N2 (C5 v d) (.mk x6 x1 x2 (-1) (-1) x5 x6 s) (Fld.nul (.mk x6 x1 x2 (-1) (-1) x5 x6 s) v y) y)):∀ x ∈ lst ((C5 v (d + 1) l t).at_ i),Q x:=by
 rw [(Eo h).2]
 intro x hx
 obtain ⟨y,_,rfl⟩:=List.mem_map.1 hx
 exact hq y
def Tree.ranged:Tree → Prop
 | .mk _ _ _ l u=>(∀ x ∈ u,0 ≤ x.1 ∧ x.1 < 4294967296) ∧ rangeds l
where rangeds:List Tree → Prop
 | []=>True
 | t :: r=>t.ranged ∧ rangeds r
abbrev rangeds:=Tree.ranged.rangeds
theorem Ju:∀ {l:List Tree},rangeds l → ∀ x ∈ l,x.ranged
 | [],_,x,h=>by cases h
 | t :: r,hr,x,h=>by
  rcases List.mem_cons.1 h with rfl | h
  ·exact hr.1
  exact Ju (l:=r) hr.2 x h
theorem Ep:∀ {l:List Tree},(∀ x ∈ l,x.ranged) → rangeds l
 | [],_=>trivial
 | t :: r,h=>⟨h t (List.mem_cons_self ..),Ep (l:=r) fun x hx=>h x (List.mem_cons_of_mem _ hx)⟩
theorem Jv:Tree.zero.ranged:=⟨fun x h=>(by cases h),trivial⟩
theorem T6 {t:Tree} (h:t.ranged):∀ x ∈ t.U,0 ≤ x.1 ∧ x.1 < 4294967296:=by cases t; exact h.1
theorem GI {t:Tree} (h:t.ranged):∀ x ∈ t.L,x.ranged:=by cases t; exact Ju h.2
theorem Bl {t:Tree} (h:t.ranged) (i:Nat):(t.at_ i).ranged:=by
 unfold Tree.at_
 rw [List.getD_eq_getElem?_getD]
 cases hx:t.L[i]? with
 | none=>exact Jv
 | some x=>exact GI h x (List.mem_of_getElem? hx)
theorem Er {t:Tree} (h:t.ranged):∀ x ∈ lst t,x.ranged:=fun x hx=>by
 unfold lst at hx
 split at hx
 ·cases hx
 exact GI h x hx
theorem TreeR.ranged {w:World} {F:Nat → Nat → Prop} {cs:List Value} {t:Tree} (h:TreeR w F cs t):t.ranged:=by
 induction h with
 | @mk n s b l u A1 A2 A3 c1 c2 c3 cs h1 h2 h3 h4 ih =>
  refine ⟨fun x hx=>LR h4 x hx,Ep fun x hx=>?_⟩
  obtain ⟨i,hi⟩:=List.mem_iff_getElem?.1 hx
  exact ih i x hi
theorem NC (v:Int):∀ (d:Nat) (l:List Fld) (t:Tree),t.ranged → (C5 v d l t).ranged:=by
 have core:∀ (W:Fld → Tree → Tree) (l:List Fld) (t:Tree),t.ranged → (∀ f x,x.ranged → (W f x).ranged) → (Bx W l t).ranged:=by
  intro W l t ht hW
  refine ⟨fun x hx=>?_,Ep ?_⟩
  ·obtain ⟨y,hy,rfl⟩:=List.mem_map.1 hx
   exact T6 ht y (Ms y hy)
  have:∀ (l:List Fld) (i:Nat),∀ x ∈ Bw W l t i,x.ranged:=by
   intro l
   induction l with
   | nil=>intro i x hx; cases hx
   | cons f r ih =>
    intro i x hx
    rcases List.mem_cons.1 hx with rfl | hx
    ·exact hW f _ (Bl ht i)
    exact ih (i + 1) x hx
  exact this l 0
 have f0:∀ (p:List Fld → Tree → Tree),(∀ l x,x.ranged → (p l x).ranged) → ∀ (f:Fld) (b:Bool) (x:Tree),x.ranged → (N2 p f b x).ranged:=by
  intro p hp f b x hx
  unfold N2
  split
  ·exact ⟨fun x h=>(by cases h),trivial⟩
  split
  ·have:=hp f.sub x hx
   generalize p f.sub x = y at this
   cases y; exact this
  exact ⟨fun x h=>(by cases h),trivial⟩
 intro d
 induction d with
 | zero=>intro l t ht; exact core _ l t ht fun _ _ _=>Jv
 | succ d ih =>
  intro l t ht
  refine core _ l t ht fun f x hx=>?_
  unfold Q0
  split
  ·refine ⟨fun x h=>(by cases h),Ep fun y hy=>?_⟩
   obtain ⟨z,hz,rfl⟩:=List.mem_map.1 hy
   exact f0 _ ih _ _ _ (GI hx z (by unfold C8 at hz; exact List.mem_of_mem_take hz))
  exact f0 _ ih _ _ _ hx
theorem ND {p:Tree → Bs} {f:Fld} {v:Int} {flex:Bool} {t:Tree} (h:f.kind ≠ 10 ∧ f.kind ≠ 11):(M3 p f v flex t).length ≤ 64 * t.size:=by
 have e:M3 p f v flex t = M3 (fun _=>[]) f v flex t:=by
  unfold M3 E3
  simp only [h.1,h.2,if_false,false_and]
 rw [e]
 exact IK (c:=0) (fun t=>by simp) f v flex t
theorem Jw {w:Fld → Tree → Bs} (v:Int) (t:Tree):∀ (l:List Fld) (i:Nat),(∀ f ∈ l,∀ t,(w f t).length ≤ 64 * t.size) → (D0 w l v t i).length ≤ l.length * (64 * t.size)
 | [],i,_=>by simp [D0]
 | f :: r,i,h=>by
  have h1:=Jw v t r (i + 1) fun g hg=>h g (List.mem_cons_of_mem _ hg)
  have h2:64 * (t.at_ i).size ≤ 64 * t.size:=Nat.mul_le_mul_left _ (Ec t i)
  have h3:=h f (List.mem_cons_self ..) (t.at_ i)
  rw [D0,List.length_append,List.length_cons,Nat.add_mul,Nat.one_mul]
  have h4:(if f.tag < 0 ∧ f.has v = true then w f (t.at_ i) else []).length ≤ 64 * t.size:=by
   split
   ·omega
   exact Nat.zero_le _
  omega
theorem NE {d:Nat} {l:List Fld} {v:Int} {flex:Bool} {t:Tree} {k c:Nat} (hl:(l.all fun f=>f.kind != 10 && f.kind != 11) = true) (hn:l.length = k) (hk:(C2 l).toNat = 0) (hc:c = 64 * k + 64):(D4 (d + 1) l v flex t).length ≤ c * t.size:=by
 subst hn
 have h0:=t.size_pos
 have h1:=Jw (w:=fun f t=>M3 (D4 d f.sub v flex) f v flex t) v t l 0 fun f hf t=>ND (by simpa using List.all_eq_true.1 hl f hf)
 have h4:=Ga (C6 l t.U)
 have h5:=IH l t.U
 have h6:=t.size_U
 have h7:=Gd (C6 l t.U)
 have h8:=Ed (C6 l t.U).length
 have e1:c * t.size = l.length * (64 * t.size) + 64 * t.size:=by rw [hc,Nat.add_mul,Nat.mul_comm 64 l.length,Nat.mul_assoc]
 show (N1 _ l v flex t).length ≤ _
 unfold N1
 rw [hk,List.length_append,e1]
 split
 ·rw [List.length_append,List.length_append,D3,C3,Nat.zero_add,List.length_nil]; omega
 simp only [List.length_nil]; omega
theorem NF {d:Nat} {s:List Fld} {v:Int} {flex null:Bool} {c:Nat} {x t:Tree} (h:∀ y,(D4 d s v flex y).length ≤ c * y.size) (hx:x.size ≤ t.size) (hc:c * t.size + 16 < 4294967296) :
  ((if flex = true then uv ((if null = true then [] else C8 x.L).length + 1) else be 4 (if null = true then [] else C8 x.L).length) ++ (if null = true then [] else C8 x.L).flatMap (fun y=>D4 d s v flex y)).length < 4294967296:=by
 have h1:(if null = true then [] else C8 x.L).length ≤ 32767:=by
  split
  ·exact Nat.zero_le _
  exact Z6 _
 have h2:=Z4 ((if null = true then [] else C8 x.L).length + 1) (by omega)
 have h4:=Gc (g:=fun y=>D4 d s v flex y) h (if null = true then [] else C8 x.L)
 have h5:sizes (if null = true then [] else C8 x.L) ≤ t.size:=by
  split
  ·exact Nat.zero_le _
  exact Nat.le_trans (Nat.le_trans (FY _ _) x.size_L) hx
 have h6:c * sizes (if null = true then [] else C8 x.L) ≤ c * t.size:=Nat.mul_le_mul_left _ h5
 rw [List.length_append]
 split
 ·omega
 rw [be_length]; omega
theorem GJ (k x1 x2 x3 x4 x5 x6:Int) (fs:List Fld) (AF:Option Addr) (cF:Nat) (v:Int) (w:World) :
  Calls Tryz.prog 23 #[.agg #[.int .i64 k,.int .i64 x1,.int .i64 x2,.int .i64 x3,.int .i64 x4,.int .i64 x5,.int .i64 x6,.slice AF fs.length cF],.int .i64 v] w (J9 w (.bool (Fld.has (Fld.mk k x1 x2 x3 x4 x5 x6 fs) v))):=by
 refine enter (n:=20) Tryz.func23 rfl Tryz.ntmps23 kz fun a hE=>?_
 have hW:=WOk.start w C7
 refine C1 [0,1] kz ?_
 refine B1 (M2 hW hE (d:=2) (cs:=[.int .i64 k,.int .i64 x1,.int .i64 x2,.int .i64 x3,.int .i64 x4,.int .i64 x5,.int .i64 x6,.slice AF fs.length cF]) kz fun b1 a2 w3 hb4 hz5 hF6 hW7 hE8=>?_)
 let ab:Nat × SV:=(1,.v (.int .i64 v))
 let ac:Nat × SV:=(2,.p 0 0)
 refine B3 [1] [] [ab,ac] hW7 hE8 fun a9 aj=>?_
 refine B4 (A4 ?_)
 refine C1 [0,1,2,3,4,5,6,7,8,9,10,11,12,13,14,15] kz ?_
 refine B3 [0,1,2,3,4] [5,6,7,8,9,10,11,12,13,14,15] [ab,ac,(9,.v (.bool (decide (x1 ≤ v))))] hW7 aj fun az ah=>?_
 refine (Bool.eq_false_or_eq_true (decide (x1 ≤ v))).elim (fun ae=>?_) (fun ae=>?_)
 ·
  have av:=of_decide_eq_true ae
  let ag:Nat × SV:=(9,.v (.bool true))
  have ak:=ah
  rw [ae] at ak
  refine B3 [5,6,7,8] [9,10,11,12,13,14,15] [ab,ac,ag,(13,.v (.bool (decide (x2 < 0))))] hW7 ak fun aA ai=>?_
  refine (Bool.eq_false_or_eq_true (decide (x2 < 0))).elim (fun af=>?_) (fun af=>?_)
  ·
   have aw:=of_decide_eq_true af
   have al:=ai
   rw [af] at al
   refine B3 [9,10,11,12,13,14,15] [] [(4,.v (.bool true))] hW7 al fun aB am=>?_
   refine B4 (A4 ?_)
   refine wp_ret (D1 am hW7.cells (v:=.bool true) kz ?_)
   exact ⟨by simp only [Fld.has,ae,af,Bool.true_and,Bool.and_true,Bool.false_and,Bool.and_false,Bool.true_or,Bool.false_or,Bool.or_true,Bool.or_false],hW7.step⟩
  have ax:=of_decide_eq_false af
  have ao:=ai
  rw [af] at ao
  refine B3 [9,10,11,12,13,14,15] [] [(4,.v (.bool (decide (v ≤ x2))))] hW7 ao fun aC ap=>?_
  refine B4 (A4 ?_)
  refine wp_ret (D1 ap hW7.cells (v:=.bool (decide (v ≤ x2))) kz ?_)
  exact ⟨by simp only [Fld.has,ae,af,Bool.true_and,Bool.and_true,Bool.false_and,Bool.and_false,Bool.true_or,Bool.false_or,Bool.or_true,Bool.or_false],hW7.step⟩
 have ay:=of_decide_eq_false ae
 have ar:=ah
 rw [ae] at ar
 refine B3 [5,6,7,8,9,10,11,12,13,14,15] [] [(4,.v (.bool false))] hW7 ar fun aD au=>?_
 refine B4 (A4 ?_)
 refine wp_ret (D1 au hW7.cells (v:=.bool false) kz ?_)
 exact ⟨by simp only [Fld.has,ae,Bool.true_and,Bool.and_true,Bool.false_and,Bool.and_false,Bool.true_or,Bool.false_or,Bool.or_true,Bool.or_false],hW7.step⟩
abbrev z1 (x0) (x1) (x2) (x3) (x4) (x5) (x6) (x7) (x8) (x9) (x10) (x11) (x12) (x13):=(Fld.nul (Fld.mk x0 x1 x2 x3 x4 x5 x6 x7) x8 (Tree.mk x9 x10 x11 x12 x13))
theorem NG (k x1 x2 x3 x4 x5 x6:Int) (fs:List Fld) (AF:Option Addr) (cF:Nat) (v:Int) (n:Int) (s:Bs) (b:Bool) (l:List Tree) (u:List (Int × Bs)) (A1:Option Addr) (c1:Nat) (A2:Option Addr) (c2:Nat) (A3:Option Addr) (c3:Nat) (w:World) :
  Calls Tryz.prog 50 #[.agg #[.int .i64 k,.int .i64 x1,.int .i64 x2,.int .i64 x3,.int .i64 x4,.int .i64 x5,.int .i64 x6,.slice AF fs.length cF],.int .i64 v,.agg #[.int .i64 n,.slice A1 s.length c1,.bool b,.slice A2 l.length c2,.slice A3 u.length c3]] w (J9 w (.bool (z1 k x1 x2 x3 x4 x5 x6 fs v n s b l u))):=by
 refine enter (n:=20) Tryz.func50 rfl Tryz.ntmps50 kz fun a hE=>?_
 have hW:=WOk.start w C7
 refine C1 [0,1,2] kz ?_
 refine B1 (M2 hW hE (d:=3) (cs:=[.int .i64 k,.int .i64 x1,.int .i64 x2,.int .i64 x3,.int .i64 x4,.int .i64 x5,.int .i64 x6,.slice AF fs.length cF]) kz fun b1 a2 w3 hb4 hz5 hF6 hW7 hE8=>?_)
 refine B1 (M2 hW7 hE8 (d:=5) (cs:=[.int .i64 n,.slice A1 s.length c1,.bool b,.slice A2 l.length c2,.slice A3 u.length c3]) kz fun b9 aB aC aw ax ay ab aj=>?_)
 let ac:Nat × SV:=(1,.v (.int .i64 v))
 let ae:Nat × SV:=(3,.p 0 0)
 refine B3 [2] [] [ac,ae,(5,.p 1 0)] ab aj fun aD ak=>?_
 refine B4 (A4 ?_)
 refine C1 [0,1,2,3,4,5,6,7,8,9,10,11,12,13] kz ?_
 refine B3 [0,1,2] [3,4,5,6,7,8,9,10,11,12,13] [ac,ae,(9,.v (.bool b))] ab ak fun aE ah=>?_
 refine (Bool.eq_false_or_eq_true (b)).elim (fun ag=>?_) (fun ag=>?_)
 ·
  have al:=ah.cast (env':=[ac,ae,(9,.v (.bool true))]) (by rw [ag])
  refine B3 [3,4,5,6,7] [8,9,10,11,12,13] [ac,ae,(14,.v (.bool (decide (x3 ≥ 0))))] ab al fun aF ai=>?_
  refine (Bool.eq_false_or_eq_true (decide (x3 ≥ 0))).elim (fun af=>?_) (fun af=>?_)
  ·
   have az:=of_decide_eq_true af
   have am:=ai
   rw [af] at am
   refine B3 [8,9,10,11,12,13] [] [(6,.v (.bool (decide (v ≥ x3))))] ab am fun aG ao=>?_
   refine B4 (A4 ?_)
   refine wp_ret (D1 ao ab.cells (v:=.bool (decide (v ≥ x3))) kz ?_)
   exact ⟨by simp only [Fld.nul,ag,af,Bool.true_and,Bool.and_true,Bool.false_and,Bool.and_false,Bool.true_or,Bool.false_or,Bool.or_true,Bool.or_false],ab.step⟩
  have aA:=of_decide_eq_false af
  have ap:=ai
  rw [af] at ap
  refine B3 [8,9,10,11,12,13] [] [(6,.v (.bool false))] ab ap fun aH ar=>?_
  refine B4 (A4 ?_)
  refine wp_ret (D1 ar ab.cells (v:=.bool false) kz ?_)
  exact ⟨by simp only [Fld.nul,ag,af,Bool.true_and,Bool.and_true,Bool.false_and,Bool.and_false,Bool.true_or,Bool.false_or,Bool.or_true,Bool.or_false],ab.step⟩
 have au:=ah.cast (env':=[ac,ae,(9,.v (.bool false))]) (by rw [ag])
 refine B3 [3,4,5,6,7,8,9,10,11,12,13] [] [(6,.v (.bool false))] ab au fun aI av=>?_
 refine B4 (A4 ?_)
 refine wp_ret (D1 av ab.cells (v:=.bool false) kz ?_)
 exact ⟨by simp only [Fld.nul,ag,Bool.true_and,Bool.and_true,Bool.false_and,Bool.and_false,Bool.true_or,Bool.false_or,Bool.or_true,Bool.or_false],ab.step⟩
theorem GK (k:Int) (w:World):Calls Tryz.prog 55 #[.int .i64 k] w (J9 w (.int .i64 ((H8 k:Nat):Int))):=by
 refine enter (n:=11) Tryz.func55 rfl Tryz.ntmps55 kz fun a hE=>?_
 have hW:=WOk.start w C7
 refine B9 [(0,.v (.int .i64 k))] hW hE fun a1 hE2=>?_
 refine wp_seq (B9 [(3,.v (.int .i64 k))] hW hE2 fun a3 hE4=>?_)
 refine wp_block (B9 [(3,.v (.int .i64 k)),(4,.v (.bool (k == 1)))] hW hE4 fun a5 hE6=>?_)
 refine E2 hE6 (b:=k == 1) kz (fun hc7=>?_) (fun hc7=>?_)
 ·
  have hf8:k = 1:=by simpa using hc7
  refine B9 [(2,.v (.int .i64 1))] hW hE6 fun a9 ai=>?_
  refine wp_ret (J6 (F5 (D1 ai hW.cells (v:=.int .i64 1) kz ?_)))
  exact ⟨by simp_all [H8],hW.step⟩
 have ao:k ≠ 1:=by simpa using hc7
 refine wp_seq (B9 [(3,.v (.int .i64 k)),(6,.v (.bool (k == 2)))] hW hE6 fun ay ab=>?_)
 refine E2 ab (b:=k == 2) kz (fun ac=>?_) (fun ac=>?_)
 ·
  have ap:k = 2:=by simpa using ac
  refine wp_skip (A4 (N7 ab (b:=k == 2) kz (ac) ?_))
  refine B9 [(2,.v (.int .i64 2))] hW ab fun az aj=>?_
  refine wp_ret (J6 (F5 (D1 aj hW.cells (v:=.int .i64 2) kz ?_)))
  exact ⟨by simp_all [H8],hW.step⟩
 have ar:k ≠ 2:=by simpa using ac
 refine E4 [0,1] kz ?_
 refine B3 [0,1] [] [(3,.v (.int .i64 k)),(6,.v (.bool (k == 5)))] hW ab fun aA ae=>?_
 refine B4 (A4 ?_)
 refine E2 ae (b:=k == 5) kz (fun af=>?_) (fun af=>?_)
 ·
  have au:k = 5:=by simpa using af
  refine B9 [(2,.v (.int .i64 2))] hW ae fun aB ak=>?_
  refine wp_ret (J6 (F5 (D1 ak hW.cells (v:=.int .i64 2) kz ?_)))
  exact ⟨by simp_all [H8],hW.step⟩
 have av:k ≠ 5:=by simpa using af
 refine B9 [(9,.v (.bool (k == 3)))] hW ae fun aC ag=>?_
 refine E2 ag (b:=k == 3) kz (fun ah=>?_) (fun ah=>?_)
 ·
  have aw:k = 3:=by simpa using ah
  refine B9 [(2,.v (.int .i64 4))] hW ag fun aD al=>?_
  refine wp_ret (J6 (F5 (D1 al hW.cells (v:=.int .i64 4) kz ?_)))
  exact ⟨by simp_all [H8],hW.step⟩
 have ax:k ≠ 3:=by simpa using ah
 refine wp_skip (H7 (A4 (B9 [(2,.v (.int .i64 8))] hW ag fun aE am=>?_)))
 refine wp_ret (D1 am hW.cells (v:=.int .i64 8) kz ?_)
 exact ⟨by simp_all [H8],hW.step⟩
theorem GL (A:Option Addr) (c:Nat) (s:Bs) (hc:s.length ≤ c) (w:World) :
  Calls Tryz.prog 30 #[.slice A s.length c] w (J9 w (.slice A (C4 s).length c)):=by
 refine enter (n:=8) Tryz.func30 rfl Tryz.ntmps30 kz fun a hE=>?_
 have hW:=WOk.start w C7
 refine B9 [(0,.v (.slice A s.length c))] hW hE fun a1 hE2=>?_
 refine C1 [0,1,2,3,4,5] kz ?_
 refine B3 [0,1,2,3] [4,5] [(3,.v (.slice A s.length c)),(6,.v (.int .i64 (if 32767 < ((s.length:Nat):Int) then 32767 else ((s.length:Nat):Int))))] hW hE2 fun a3 hE4=>?_
 refine B1 (DA hE4 (t:=22) (A:=A) (m:=s.length) (cp:=c) (q:=(if 32767 < ((s.length:Nat):Int) then 32767 else ((s.length:Nat):Int))) (d:=7) (j:=(C4 s).length) kz (e:=5) (size:=1) (bytes:=1) kz (by simpa [C4] using Fn s.length) (by simp only [C4,List.length_take]; omega) fun a5 hE6=>?_)
 refine B3 [5] [] [(2,.v (.slice A ((C4 s).length) c))] hW hE6 fun a7 hE8=>?_
 refine B4 (A4 ?_)
 refine wp_ret (D1 hE8 hW.cells (v:=.slice A ((C4 s).length) c) kz ?_)
 exact ⟨rfl,hW.step⟩
theorem NH (A:Option Addr) (c:Nat) (s:List Tree) (hc:s.length ≤ c) (w:World) :
  Calls Tryz.prog 51 #[.slice A s.length c] w (J9 w (.slice A (C8 s).length c)):=by
 refine enter (n:=8) Tryz.func51 rfl Tryz.ntmps51 kz fun a hE=>?_
 have hW:=WOk.start w C7
 refine B9 [(0,.v (.slice A s.length c))] hW hE fun a1 hE2=>?_
 refine C1 [0,1,2,3,4,5] kz ?_
 refine B3 [0,1,2,3] [4,5] [(3,.v (.slice A s.length c)),(6,.v (.int .i64 (if 32767 < ((s.length:Nat):Int) then 32767 else ((s.length:Nat):Int))))] hW hE2 fun a3 hE4=>?_
 refine B1 (DA hE4 (t:=23) (A:=A) (m:=s.length) (cp:=c) (q:=(if 32767 < ((s.length:Nat):Int) then 32767 else ((s.length:Nat):Int))) (d:=7) (j:=(C8 s).length) kz (e:=26) (size:=5) (bytes:=88) kz (by simpa [C8] using Fn s.length) (by simp only [C8,List.length_take]; omega) fun a5 hE6=>?_)
 refine B3 [5] [] [(2,.v (.slice A ((C8 s).length) c))] hW hE6 fun a7 hE8=>?_
 refine B4 (A4 ?_)
 refine wp_ret (D1 hE8 hW.cells (v:=.slice A ((C8 s).length) c) kz ?_)
 exact ⟨rfl,hW.step⟩
theorem Jx (A A':Option Addr) (c c':Nat) (s t:Bs) (w:World) (F:Nat → Nat → Prop) (hs:Octs w F A c s) (ht:Octs w F A' c' t) :
  Calls Tryz.prog 10 #[.slice A s.length c,.slice A' t.length c'] w (J9 w (.bool (decide (s = t)))):=by
 refine enter (n:=26) Tryz.func10 rfl Tryz.ntmps10 kz fun a hE=>?_
 have hW:=WOk.start w C7
 have hl:=Slots.small hs
 let ab:Nat × SV:=(0,.v (.slice A s.length c))
 let ac:Nat × SV:=(1,.v (.slice A' t.length c'))
 refine B9 [ab,ac] hW hE fun a1 hE2=>?_
 refine wp_seq (B9 [ab,ac,(10,.v (.bool (((s.length:Nat):Int) != ((t.length:Nat):Int))))] hW hE2 fun a3 hE4=>?_)
 refine E2 hE4 (b:=((s.length:Nat):Int) != ((t.length:Nat):Int)) kz (fun hc5=>?_) (fun hc5=>?_)
 ·
  have hf6:((s.length:Nat):Int) ≠ ((t.length:Nat):Int):=by simpa using hc5
  refine B9 [(4,.v (.bool false))] hW hE4 fun a7 hE8=>?_
  refine wp_ret (F5 (D1 hE8 hW.cells (v:=.bool false) kz ?_))
  exact ⟨by first | rw [← Fs hq (by omega) hlen] | rw [← Fq ‹_›] | rw [← Fo ‹_›],hW.step⟩
 have hf9:((s.length:Nat):Int) = ((t.length:Nat):Int):=by simpa using hc5
 refine wp_skip (A4 (wp_seq ?_))
 let ae:Nat × SV:=(12,.v (.int .i64 ((s.length:Nat):Int)))
 refine B9 [ab,ac,ae,(13,.v (.int .i64 0))] hW hE4 fun aU ar=>?_
 refine wp_block ?_
 have hlen:s.length = t.length:=by omega
 refine wp_loop_ghost (fun n_ a_ w_=>∃ (k:Nat),n_ = s.length - k ∧ k ≤ s.length ∧ (s.take k = t.take k) ∧ J1 hW 26 [] [] [ab,ac,ae,(13,.v (.int .i64 ((k:Nat):Int)))] a_ w_) (s.length) ⟨0,by omega,by omega,rfl,ar.pk,hW,Fr.refl _ _ _⟩ ?_
 rintro aV aW aX ⟨k,aI,aJ,hq,au,ah,av⟩
 let ag:Nat × SV:=(13,.v (.int .i64 ((k:Nat):Int)))
 refine B9 [ab,ac,ae,ag,(14,.v (.bool (decide (((k:Nat):Int) < ((s.length:Nat):Int)))))] ah au fun aY ai=>?_
 refine wp_seq (E2 ai (b:=decide (((k:Nat):Int) < ((s.length:Nat):Int))) kz (fun aj=>?_) (fun aj=>?_))
 ·
  have aK:=of_decide_eq_true aj
  refine wp_skip (A4 (wp_seq (wp_block (B9 [ab,ac,(5,.v (.int .i64 ((k:Nat):Int))),ae,ag] ah ai fun aZ aw=>?_))))
  refine BA kz ah fun ba ax af=>?_
  refine G4 [0,1,4,5] [ab,ac,ae,ag,(16,.v (.slice A s.length c)),(17,.v (.int .i64 ((k:Nat):Int))),(20,.v (.slice A' t.length c')),(21,.v (.int .i64 ((k:Nat):Int)))] 5 (B6 (D8 (B6 (B6 (D8 (B6 E0)))))) (fun _ h=>h ▸ af.cells) rfl aw fun bd ay=>?_
  obtain ⟨aL,aM,az,aN,am⟩:=Slots.get hs (i:=k) (by omega)
  refine P1 ay (i:=2) (t:=22) (A:=A) (m:=s.length) (q:=((k:Nat):Int)) (d:=18) kz (e:=5) (size:=1) (bytes:=1) kz az rfl (by omega) kz kz (B6 (D8 (B6 (B6 (D8 (B6 E0)))))) rfl fun bf aA=>?_
  refine O2 aA (i:=3) (t:=5) (b:=aL) (o:=aM + k * 1) (d:=19) kz (cs:=[.int .u8 ((s.getD k 0).toNat:Int)]) (v:=.int .u8 ((s.getD k 0).toNat:Int)) kz (fun w' h'=>h' ▸ (AtF.move am af.step B2 F3).at_) kz kz (B6 (D8 (B6 (B6 (D8 (B6 E0)))))) rfl fun bg aB=>?_
  obtain ⟨aO,aP,aC,aQ,ao⟩:=Slots.get ht (i:=k) (by omega)
  refine P1 aB (i:=6) (t:=22) (A:=A') (m:=t.length) (q:=((k:Nat):Int)) (d:=22) kz (e:=5) (size:=1) (bytes:=1) kz aC rfl (by omega) kz kz (B6 (D8 (B6 (B6 (D8 (B6 E0)))))) rfl fun bh aD=>?_
  refine O2 aD (i:=7) (t:=5) (b:=aO) (o:=aP + k * 1) (d:=23) kz (cs:=[.int .u8 ((t.getD k 0).toNat:Int)]) (v:=.int .u8 ((t.getD k 0).toNat:Int)) kz (fun w' h'=>h' ▸ (AtF.move ao af.step B2 F3).at_) kz kz (B6 (D8 (B6 (B6 (D8 (B6 E0)))))) rfl fun bj aE=>?_
  refine G4 [8] [ab,ac,ae,ag,(24,.v (.bool (((s.getD k 0).toNat:Int) != ((t.getD k 0).toNat:Int))))] 0 (B6 (D8 (B6 (B6 (D8 (B6 E0)))))) (fun _ h=>h ▸ af.cells) rfl aE fun bk ak=>?_
  refine L6 kz ?_ _
  refine A4 (E2 ak (b:=((s.getD k 0).toNat:Int) != ((t.getD k 0).toNat:Int)) kz (fun al=>?_) (fun al=>?_))
  ·
   have aR:((s.getD k 0).toNat:Int) ≠ ((t.getD k 0).toNat:Int):=by simpa using al
   refine B9 [(4,.v (.bool false))] af ak fun bn aF=>?_
   refine wp_ret (J6 (F5 (F5 (J6 (F5 (D1 aF af.cells (v:=.bool false) kz ?_))))))
   exact ⟨by first | rw [← Fs hq (by omega) hlen] | rw [← Fq ‹_›] | rw [← Fo ‹_›],af.step⟩
  have aS:((s.getD k 0).toNat:Int) = ((t.getD k 0).toNat:Int):=by simpa using al
  refine wp_skip (H7 (A4 (E4 [0,1] kz ?_)))
  refine B3 [0,1] [] [ab,ac,ae,(13,.v (.int .i64 (IntKind.i64.wrap (((k:Nat):Int) + 1))))] af ak fun bo ap=>?_
  refine B4 (A4 ?_)
  have aG:IntKind.i64.wrap (((k:Nat):Int) + 1) = ((k + 1:Nat):Int):=N0 (by omega)
  rw [aG] at ap
  exact ⟨s.length - (k + 1),by omega,k + 1,rfl,by omega,KC hq (by omega) hlen ‹_›,ap.pk,af,(av.trans ax)⟩
 have aT:=of_decide_eq_false aj
 refine wp_exit (F2 (F2 (I7 (A4 (B9 [(4,.v (.bool true))] ah ai fun bp aH=>?_)))))
 refine wp_ret (D1 aH ah.cells (v:=.bool true) kz ?_)
 exact ⟨by first | rw [← Fs hq (by omega) hlen] | rw [← Fq ‹_›] | rw [← Fo ‹_›],ah.step⟩
theorem Es (ct:List Value) (t:Tree) (i:Nat) (w:World) (F:Nat → Nat → Prop) (ht:TreeR w F ct t) :
  Calls Tryz.prog 25 #[.agg ct.toArray,.int .i64 (i:Int)] w (KE w F (t.at_ i)):=by
 obtain ⟨n1,s2,b3,l4,u5,A6,c7,A8,c9,aU,aV,aW,rfl,rfl,aX,aF,aY,bA⟩:=ht.open_
 have aG:=aX.small
 have aH:=aF.small
 refine enter (n:=16) Tryz.func25 rfl Tryz.ntmps25 kz fun a hE=>?_
 have hW:=WOk.start w C7
 refine C1 [0,1] kz ?_
 refine B1 (M2 hW hE (d:=2) (cs:=[.int .i64 n1,.slice A6 s2.length c7,.bool b3,.slice A8 l4.length c9,.slice aU u5.length aV]) kz fun bB bC bD aZ ba bd av aw=>?_)
 let ab:Value:=.slice none 0 0
 refine B1 (N6 av aw (d:=4) (cs:=[.int .i64 0,ab,.bool false,ab,ab]) kz fun bE bF bG bf bg bh ag ax=>?_)
 refine B4 (A4 ?_)
 refine wp_seq (B9 [(1,.v (.int .i64 ((i:Nat):Int))),(2,.p 0 0),(4,.p 1 0),(9,.v (.bool (decide (((i:Nat):Int) < ((l4.length:Nat):Int)))))] ag ax fun bH aj=>?_)
 refine E2 aj (b:=decide (((i:Nat):Int) < ((l4.length:Nat):Int))) kz (fun ak=>?_) (fun ak=>?_)
 ·
  have bj:=of_decide_eq_true ak
  refine C1 [0,1,2,3,4,5] kz ?_
  refine B3 [0,1,2] [3,4,5] [(4,.p 1 0),(11,.v (.slice A8 l4.length c9)),(12,.v (.int .i64 ((i:Nat):Int)))] ag aj fun bI ay=>?_
  obtain ⟨bk,bn,az,bo,ah⟩:=Slots.get aF (i:=i) (by omega)
  obtain ⟨bp,am⟩:∃ x,l4[i]? = some x:=⟨_,List.getElem?_eq_getElem (by omega)⟩
  have al:=aY i bp am
  obtain ⟨ao,aI,ap,aJ,aK,aL,aM,aN,aO,aP,aQ,bq,rfl,ai,bt,bu,bJ,bK⟩:=al.open_
  rw [ai] at al
  have aR:=bt.small
  have aS:=bu.small
  rw [ai] at ah
  refine B1 (J7 ay (t:=23) (A:=A8) (m:=l4.length) (q:=((i:Nat):Int)) (d:=13) kz (e:=26) (size:=5) (bytes:=88) kz az rfl (by omega) fun bL aA=>?_)
  let ac:Value:=.slice aL aI.length aM
  let ae:Value:=.slice aN aJ.length aO
  let af:Value:=.slice aP aK.length aQ
  let aT:Value:=.agg #[.int .i64 ao,.slice aL aI.length aM,.bool ap,.slice aN aJ.length aO,.slice aP aK.length aQ]
  refine B1 (M7 aA (t:=26) (b:=bk) (o:=bn + i * 5) (d:=14) kz (cs:=[.int .i64 ao,ac,.bool ap,ae,af]) (v:=.agg #[.int .i64 ao,ac,.bool ap,ae,af]) kz (AtF.move ah ag.step B2 F3).at_ fun bM aB=>?_)
  refine B1 (I9 ag aB (oi:=1) (cs:=[.int .i64 ao,ac,.bool ap,ae,af]) kz fun bN bw ar aC=>?_)
  refine B4 (A4 ?_)
  refine wp_ret (F5 (D1 aC ar.cells (v:=.agg #[.int .i64 ao,ac,.bool ap,ae,af]) kz ?_))
  exact ⟨_,rfl,by rw [KF am]; exact al,ar.step⟩
 have bx:=of_decide_eq_false ak
 refine wp_skip (A4 (C1 [0,1] kz ?_))
 refine B3 [0] [1] [(4,.p 1 0),(15,.v (.agg #[.int .i64 0,ab,.bool false,ab,ab]))] ag aj fun bO aD=>?_
 refine B1 (I9 ag aD (oi:=1) (cs:=[.int .i64 0,ab,.bool false,ab,ab]) kz fun bP bz au aE=>?_)
 refine B4 (A4 ?_)
 refine wp_ret (D1 aE au.cells (v:=.agg #[.int .i64 0,ab,.bool false,ab,ab]) kz ?_)
 exact ⟨_,rfl,by rw [KG (by omega)]; exact TreeR.zero _ _,au.step⟩
theorem BN (x:Int) (size:Nat) (hsz:size ≤ 8) (w:World) :
  Calls Tryz.prog 54 #[.int .i64 x,.int .i64 ((size:Nat):Int)] w (W2 w 5 (be size x)):=by
 refine enter (n:=22) Tryz.func54 rfl Tryz.ntmps54 kz fun a hE=>?_
 have hW:=WOk.start w C7
 let ab:Nat × SV:=(0,.v (.int .i64 x))
 let ai:Nat × SV:=(1,.v (.int .i64 ((size:Nat):Int)))
 refine B9 [ab,ai] hW hE fun a1 hE2=>?_
 refine B9 [ab,ai,(5,.v (.slice none 0 0))] hW hE2 fun a3 hE4=>?_
 refine wp_seq (B9 [ab,(5,.v (.slice none 0 0)),(6,.v (.int .i64 (IntKind.i64.wrap (((size:Nat):Int) - 1))))] hW hE4 fun a5 hE6=>?_)
 refine wp_block ?_
 have hW7:=hW.addNil 5 1
 have hF8:=hW.frNil 5 1
 have ap:IntKind.i64.wrap (((size:Nat):Int) - 1) = ((size:Nat):Int) - 1 - ((0:Nat):Int):=by rw [wrap_i64 (by omega) (by omega)]; omega
 rw [ap] at hE6
 refine wp_loop_ghost (fun n_ a_ w_=>∃ (k:Nat) (A:Option Addr) (c:Nat),n_ = size - k ∧ k ≤ size ∧ J1 hW7 22 [] [B0 A c 5 ((be size x).take k)] [ab,(5,.v (.slice A (((be size x).take k).length) c)),(6,.v (.int .i64 (((size:Nat):Int) - 1 - ((k:Nat):Int))))] a_ w_) (size) ⟨0,none,0,by omega,by omega,hE6.pk,hW7,Fr.refl _ _ _⟩ ?_
 rintro n9 aP aQ ⟨k,A,c,aL,aM,ar,ae,au⟩
 refine wp_seq ?_
 let ac:Nat × SV:=(6,.v (.int .i64 (((size:Nat):Int) - 1 - ((k:Nat):Int))))
 refine B9 [ab,(5,.v (.slice A (((be size x).take k).length) c)),ac,(10,.v (.bool (decide ((((size:Nat):Int) - 1 - ((k:Nat):Int)) ≥ 0))))] ae ar fun aR aj=>?_
 refine E2 aj (b:=decide ((((size:Nat):Int) - 1 - ((k:Nat):Int)) ≥ 0)) kz (fun ak=>?_) (fun ak=>?_)
 ·
  have aN:=of_decide_eq_true ak
  refine wp_skip (A4 (wp_seq (wp_block (E4 [0,1,2,3,4,5,6,7,8] kz ?_))))
  let af:Nat × SV:=(13,.v (.slice A (((be size x).take k).length) c))
  refine B3 [0,1,2,3] [4,5,6,7,8] [ab,ac,af,(14,.v (.int .i64 x)),(16,.v (.int .i64 (IntKind.i64.wrap (8 * (((size:Nat):Int) - 1 - ((k:Nat):Int))))))] ae aj fun aS av=>?_
  refine B1 (Kz av (k:=.i64) (p:=x) (q:=(IntKind.i64.wrap (8 * (((size:Nat):Int) - 1 - ((k:Nat):Int))))) (d:=17) (j:=8 * (size - 1 - k)) kz (by rw [wrap_i64 (by omega) (by omega)]; omega) (by simp only [IntKind.bits]; omega) fun aT aw=>?_)
  refine B3 [5] [6,7,8] [ab,ac,af,(18,.v (.int .u8 (IntKind.u8.wrap (x / 2 ^ (8 * (size - 1 - k))))))] ae aw fun aU ax=>?_
  refine U4 ae ax (k:=0) (e:=5) (size:=1) (len:=1) (cs:=[.int .u8 (IntKind.u8.wrap (x / 2 ^ (8 * (size - 1 - k))))]) (d1:=19) (d:=20) kz (t:=22) (bytes:=1) kz (fun _=>by kernel_rfl) rfl kz (by first | (have:=hroom; omega) | (simp; done) | (simp; omega)) fun ag ah aV aW ay az ⟨_,aA⟩=>?_
  have aB:(⟨ag,ah,5,1,((be size x).take k).length + 1,bc ((be size x).take k) ++ [.int .u8 (IntKind.u8.wrap (x / 2 ^ (8 * (size - 1 - k))))]⟩:Rw) = B0 ag ah 5 ((be size x).take k ++ [C9 (x / 2 ^ (8 * (size - 1 - k)))]):=K9 (by simp only [bc,List.map,R6]; try rfl) rfl
  obtain ⟨al,aC⟩:=az.rowEq 0 [B0 ag ah 5 ((be size x).take k ++ [C9 (x / 2 ^ (8 * (size - 1 - k)))])] aB
  have aD:=EnvOk.pick aA (ks:=[0,6,13,18,20]) (env':=[ab,ac,af,(18,.v (.int .u8 (IntKind.u8.wrap (x / 2 ^ (8 * (size - 1 - k)))))),(20,.v (.slice ag (((be size x).take k).length + 1) ah))]) kz
  have aE:=aD.cast (env':=[ab,ac,af,(18,.v (.int .u8 (IntKind.u8.wrap (x / 2 ^ (8 * (size - 1 - k)))))),(20,.v (.slice ag (((be size x).take k ++ [C9 (x / 2 ^ (8 * (size - 1 - k)))]).length) ah))]) (by simp only [List.length_append,List.length_cons,List.length_nil,Nat.zero_add])
  refine B3 [8] [] [ab,(5,.v (.slice ag (((be size x).take k ++ [C9 (x / 2 ^ (8 * (size - 1 - k)))]).length) ah)),ac] al aE fun aX aF=>?_
  refine B4 (H7 (A4 (E4 [0,1,2] kz ?_)))
  refine B3 [0,1,2] [] [ab,(5,.v (.slice ag (((be size x).take k ++ [C9 (x / 2 ^ (8 * (size - 1 - k)))]).length) ah)),(6,.v (.int .i64 (IntKind.i64.wrap ((((size:Nat):Int) - 1 - ((k:Nat):Int)) - 1))))] al aF fun aY am=>?_
  refine B4 (A4 ?_)
  have ao:((be size x).take k ++ [C9 (x / 2 ^ (8 * (size - 1 - k)))]) = ((be size x).take (k + 1)):=(KH (by omega)).symm
  have aG:=congrArg (B0 ag ah 5) ao
  obtain ⟨aH,aI⟩:=al.rowEq 0 [B0 ag ah 5 ((be size x).take (k + 1))] aG
  rw [ao] at am
  have aJ:IntKind.i64.wrap ((((size:Nat):Int) - 1 - ((k:Nat):Int)) - 1) = ((size:Nat):Int) - 1 - (((k + 1):Nat):Int):=by rw [wrap_i64 (by omega) (by omega)]; omega
  rw [aJ] at am
  exact ⟨size - (k + 1),by omega,k + 1,ag,ah,rfl,by omega,am.pk,aH,(((au.trans ay).trans aC).trans aI)⟩
 have aO:=of_decide_eq_false ak
 refine wp_exit (F2 (F2 (I7 (A4 (B9 [(4,.v (.slice A (((be size x).take k).length) c))] ae aj fun aZ aK=>?_)))))
 refine wp_ret (D1 aK ae.cells (v:=.slice A (((be size x).take k).length) c) kz ?_)
 exact N3 ae (k:=0) rfl (List.take_of_length_le (by simp; omega))
theorem CD (x:Nat) (hx:x < 18446744073709551616) (w:World) :
  Calls Tryz.prog 28 #[.int .u64 ((x:Nat):Int)] w (W2 w 5 (uv x)):=by
 refine enter (n:=20) Tryz.func28 rfl Tryz.ntmps28 kz fun a hE=>?_
 have hW:=WOk.start w C7
 let ai:Nat × SV:=(0,.v (.int .u64 ((x:Nat):Int)))
 refine B9 [ai] hW hE fun a1 hE2=>?_
 refine B9 [ai,(3,.v (.slice none 0 0))] hW hE2 fun a3 hE4=>?_
 refine wp_seq (wp_block ?_)
 have hW5:=hW.addNil 5 1
 have hF6:=hW.frNil 5 1
 refine wp_loop_ghost (fun n_ a_ w_=>∃ (A:Option Addr) (c:Nat) (pre:Bs) (m:Nat),n_ = m ∧ (pre ++ uv m = uv x) ∧ (m < 18446744073709551616) ∧ J1 hW5 20 [] [B0 A c 5 pre] [(0,.v (.int .u64 ((m:Nat):Int))),(3,.v (.slice A pre.length c))] a_ w_) (x) ⟨none,0,[],x,rfl,rfl,hx,hE4.pk,hW5,Fr.refl _ _ _⟩ ?_
 rintro n7 a8 w9 ⟨A,c,pre,m,aR,hp,hm,av,ac,aw⟩
 refine wp_seq ?_
 let ab:Nat × SV:=(0,.v (.int .u64 ((m:Nat):Int)))
 refine B9 [ab,(3,.v (.slice A pre.length c)),(5,.v (.bool (decide (((m:Nat):Int) > 127))))] ac av fun aW aj=>?_
 refine E2 aj (b:=decide (((m:Nat):Int) > 127)) kz (fun ak=>?_) (fun ak=>?_)
 ·
  have aS:=of_decide_eq_true ak
  refine wp_skip (A4 (wp_block (C1 [0,1,2,3,4,5,6,7] kz ?_)))
  let ae:Nat × SV:=(6,.v (.slice A pre.length c))
  refine B3 [0,1,2,3,4] [5,6,7] [ab,ae,(10,.v (.int .u8 (IntKind.u8.wrap (BitVec.ofInt 8 (IntKind.u8.wrap (IntKind.u64.wrap (BitVec.ofInt 64 ((m:Nat):Int) &&& BitVec.ofInt 64 127).toNat)) ||| BitVec.ofInt 8 128).toNat)))] ac aj fun aX ax=>?_
  refine U4 ac ax (k:=0) (e:=5) (size:=1) (len:=1) (cs:=[.int .u8 (IntKind.u8.wrap (BitVec.ofInt 8 (IntKind.u8.wrap (IntKind.u64.wrap (BitVec.ofInt 64 ((m:Nat):Int) &&& BitVec.ofInt 64 127).toNat)) ||| BitVec.ofInt 8 128).toNat)]) (d1:=11) (d:=12) kz (t:=22) (bytes:=1) kz (fun _=>by kernel_rfl) rfl kz (by have h1_:=Z4 x hx; rw [← hp,List.length_append] at h1_; omega) fun ag ah aY aZ ay az ⟨_,aA⟩=>?_
  have aB:(⟨ag,ah,5,1,pre.length + 1,bc pre ++ [.int .u8 (IntKind.u8.wrap (BitVec.ofInt 8 (IntKind.u8.wrap (IntKind.u64.wrap (BitVec.ofInt 64 ((m:Nat):Int) &&& BitVec.ofInt 64 127).toNat)) ||| BitVec.ofInt 8 128).toNat)]⟩:Rw) = B0 ag ah 5 (pre ++ [C9 (BitVec.ofInt 8 (IntKind.u8.wrap (IntKind.u64.wrap (BitVec.ofInt 64 ((m:Nat):Int) &&& BitVec.ofInt 64 127).toNat)) ||| BitVec.ofInt 8 128).toNat]):=K9 (by simp only [bc,List.map,R6]; try rfl) rfl
  obtain ⟨al,aC⟩:=az.rowEq 0 [B0 ag ah 5 (pre ++ [C9 (BitVec.ofInt 8 (IntKind.u8.wrap (IntKind.u64.wrap (BitVec.ofInt 64 ((m:Nat):Int) &&& BitVec.ofInt 64 127).toNat)) ||| BitVec.ofInt 8 128).toNat])] aB
  have aD:=EnvOk.pick aA (ks:=[0,6,10,12]) (env':=[ab,ae,(10,.v (.int .u8 (IntKind.u8.wrap (BitVec.ofInt 8 (IntKind.u8.wrap (IntKind.u64.wrap (BitVec.ofInt 64 ((m:Nat):Int) &&& BitVec.ofInt 64 127).toNat)) ||| BitVec.ofInt 8 128).toNat))),(12,.v (.slice ag (pre.length + 1) ah))]) kz
  have aE:=aD.cast (env':=[ab,ae,(10,.v (.int .u8 (IntKind.u8.wrap (BitVec.ofInt 8 (IntKind.u8.wrap (IntKind.u64.wrap (BitVec.ofInt 64 ((m:Nat):Int) &&& BitVec.ofInt 64 127).toNat)) ||| BitVec.ofInt 8 128).toNat))),(12,.v (.slice ag ((pre ++ [C9 (BitVec.ofInt 8 (IntKind.u8.wrap (IntKind.u64.wrap (BitVec.ofInt 64 ((m:Nat):Int) &&& BitVec.ofInt 64 127).toNat)) ||| BitVec.ofInt 8 128).toNat]).length) ah))]) (by simp only [List.length_append,List.length_cons,List.length_nil,Nat.zero_add])
  refine B3 [7] [] [ab,(3,.v (.slice ag ((pre ++ [C9 (BitVec.ofInt 8 (IntKind.u8.wrap (IntKind.u64.wrap (BitVec.ofInt 64 ((m:Nat):Int) &&& BitVec.ofInt 64 127).toNat)) ||| BitVec.ofInt 8 128).toNat]).length) ah))] al aE fun ba aF=>?_
  refine B4 (A4 ?_)
  refine E4 [0,1,2] kz ?_
  refine B3 [0,1,2] [] [(0,.v (.int .u64 (Int.fdiv ((m:Nat):Int) 128))),(3,.v (.slice ag ((pre ++ [C9 (BitVec.ofInt 8 (IntKind.u8.wrap (IntKind.u64.wrap (BitVec.ofInt 64 ((m:Nat):Int) &&& BitVec.ofInt 64 127).toNat)) ||| BitVec.ofInt 8 128).toNat]).length) ah))] al aF fun bd am=>?_
  refine B4 (H7 (A4 ?_))
  have au:(pre ++ [C9 (BitVec.ofInt 8 (IntKind.u8.wrap (IntKind.u64.wrap (BitVec.ofInt 64 ((m:Nat):Int) &&& BitVec.ofInt 64 127).toNat)) ||| BitVec.ofInt 8 128).toNat]) = (pre ++ [UInt8.ofNat (m % 128 + 128)]):=by rw [KU m (by omega)]
  have aG:=congrArg (B0 ag ah 5) au
  obtain ⟨aH,aI⟩:=al.rowEq 0 [B0 ag ah 5 (pre ++ [UInt8.ofNat (m % 128 + 128)])] aG
  rw [au] at am
  have aJ:Int.fdiv ((m:Nat):Int) 128 = ((m / 128:Nat):Int):=KW m
  rw [aJ] at am
  exact ⟨m / 128,by omega,ag,ah,pre ++ [UInt8.ofNat (m % 128 + 128)],m / 128,rfl,by rw [← hp,U6 (show 128 ≤ m by omega)]; simp,by omega,am.pk,aH,(((aw.trans ay).trans aC).trans aI)⟩
 have aT:=of_decide_eq_false ak
 refine wp_exit (F2 (F2 (I7 (A4 (C1 [0,1,2,3,4,5] kz ?_)))))
 let af:Nat × SV:=(15,.v (.slice A pre.length c))
 refine B3 [0,1,2] [3,4,5] [af,(17,.v (.int .u8 (IntKind.u8.wrap ((m:Nat):Int))))] ac aj fun bf aK=>?_
 refine U4 ac aK (k:=0) (e:=5) (size:=1) (len:=1) (cs:=[.int .u8 (IntKind.u8.wrap ((m:Nat):Int))]) (d1:=18) (d:=19) kz (t:=22) (bytes:=1) kz (fun _=>by kernel_rfl) rfl kz (by have h1_:=Z4 x hx; rw [← hp,List.length_append] at h1_; omega) fun ao ap bg bh aU aL ⟨_,aM⟩=>?_
 have aN:(⟨ao,ap,5,1,pre.length + 1,bc pre ++ [.int .u8 (IntKind.u8.wrap ((m:Nat):Int))]⟩:Rw) = B0 ao ap 5 (pre ++ [C9 ((m:Nat):Int)]):=K9 (by simp only [bc,List.map,R6]; try rfl) rfl
 obtain ⟨ar,aV⟩:=aL.rowEq 0 [B0 ao ap 5 (pre ++ [C9 ((m:Nat):Int)])] aN
 have aO:=EnvOk.pick aM (ks:=[15,17,19]) (env':=[af,(17,.v (.int .u8 (IntKind.u8.wrap ((m:Nat):Int)))),(19,.v (.slice ao (pre.length + 1) ap))]) kz
 have aP:=aO.cast (env':=[af,(17,.v (.int .u8 (IntKind.u8.wrap ((m:Nat):Int)))),(19,.v (.slice ao ((pre ++ [C9 ((m:Nat):Int)]).length) ap))]) (by simp only [List.length_append,List.length_cons,List.length_nil,Nat.zero_add])
 refine B3 [5] [] [(2,.v (.slice ao ((pre ++ [C9 ((m:Nat):Int)]).length) ap))] ar aP fun bj aQ=>?_
 refine B4 (A4 ?_)
 refine wp_ret (D1 aQ ar.cells (v:=.slice ao ((pre ++ [C9 ((m:Nat):Int)]).length) ap) kz ?_)
 exact N3 ar (k:=0) rfl (by rw [← hp,R2 (show m < 128 by omega),DK])
theorem CE (flex null:Bool) (m sz:Nat) (hm:m ≤ 1099511627776) (hsz:sz ≤ 8) (w:World) :
  Calls Tryz.prog 52 #[.bool flex,.bool null,.int .i64 ((m:Nat):Int),.int .i64 ((sz:Nat):Int)] w (W2 w 5 (D2 flex null m sz)):=by
 refine enter (n:=28) Tryz.func52 rfl Tryz.ntmps52 kz fun a hE=>?_
 have hW:=WOk.start w C7
 let ae:Nat × SV:=(1,.v (.bool null))
 let ab:Nat × SV:=(2,.v (.int .i64 ((m:Nat):Int)))
 let ac:Nat × SV:=(3,.v (.int .i64 ((sz:Nat):Int)))
 refine B9 [(0,.v (.bool flex)),ae,ab,ac] hW hE fun a1 hE2=>?_
 refine wp_seq (wp_block (C1 [0,1,2,3,4] kz ?_))
 refine B3 [0,1] [2,3,4] [(0,.v (.bool flex)),ae,ab,ac,(11,.v (.bool flex))] hW hE2 fun a3 hE4=>?_
 refine (Bool.eq_false_or_eq_true (flex)).elim (fun hc5=>?_) (fun hc5=>?_)
 ·
  let af:Nat × SV:=(0,.v (.bool true))
  have hE7:=hE4.cast (env':=[af,ae,ab,ac,(11,.v (.bool true))]) (by rw [hc5])
  let ag:Nat × SV:=(9,.v (.bool null))
  refine B3 [2,3,4] [] [af,ae,ab,ac,ag] hW hE7 fun a8 hE9=>?_
  refine B4 (A4 ?_)
  refine E2 hE9 (b:=null) kz (fun ah=>?_) (fun ah=>?_)
  ·
   refine C1 [0,1] kz ?_
   refine B1 (X7 hW hE9 (e:=5) (size:=1) (len:=1) (cs:=[.int .u8 0]) (d:=14) kz kz fun ai bo bp bd bf bg aw ax=>?_)
   have ay:(⟨some ⟨ai,0,none⟩,1,5,1,1,[.int .u8 0]⟩:Rw) = B0 (some ⟨ai,0,none⟩) 1 5 [C9 0]:=by first | rfl | (simp only [B0,bc,List.map,R6]; try rfl)
   obtain ⟨aj,bh⟩:=aw.rowEq 0 [B0 (some ⟨ai,0,none⟩) 1 5 [C9 0]] ay
   have az:=EnvOk.pick ax (ks:=[0,1,2,3,9,14]) (env':=[af,ae,ab,ac,ag,(14,.v (.slice (some ⟨ai,0,none⟩) 1 1))]) kz
   have aA:=az.cast (env':=[af,ae,ab,ac,ag,(14,.v (.slice (some ⟨ai,0,none⟩) ([C9 0].length) 1))]) rfl
   refine B3 [1] [] [(8,.v (.slice (some ⟨ai,0,none⟩) ([C9 0].length) 1))] aj aA fun bq aB=>?_
   refine B4 (A4 ?_)
   refine wp_ret (J6 (F5 (D1 aB aj.cells (v:=.slice (some ⟨ai,0,none⟩) ([C9 0].length) 1) kz ?_)))
   exact N3 aj (k:=0) rfl (by simp [D2,hc5,ah]; try rfl)
  refine B9 [ae,ab,ac,(15,.v (.bool true))] hW hE9 fun bt ar=>?_
  refine N7 ar (b:=true) kz rfl ?_
  refine C1 [0,1,2,3,4] kz ?_
  refine B3 [0,1,2] [3,4] [(19,.v (.int .u64 (IntKind.u64.wrap ((IntKind.u64.wrap ((m:Nat):Int)) + 1))))] hW ar fun bu aC=>?_
  have aD:IntKind.u64.wrap ((IntKind.u64.wrap ((m:Nat):Int)) + 1) = ((m + 1:Nat):Int):=by simp only [G1,D5,P9,IntKind.wrap_i64,IntKind.wrap_i32]; omega
  have aE:=EnvOk.pick aC (ks:=[19]) (env':=[(19,.v (.int .u64 (IntKind.u64.wrap ((IntKind.u64.wrap ((m:Nat):Int)) + 1))))]) kz
  have aF:=aE
  rw [aD] at aF
  refine B1 (D6 aF (f:=28) (vs:=[.int .u64 ((m + 1:Nat):Int)]) (d:=20) kz Tryz.call28 (CD (m + 1) (by omega) _) ?_)
  rintro e_ bw ⟨aG,aH,rfl,aI,aJ⟩
  refine ⟨_,rfl,fun bx aK=>?_⟩
  obtain ⟨ak,bj⟩:=hW.frFresh aJ (B0 aG aH 5 (uv (m + 1))) (Nat.le_refl _) aI
  refine B3 [4] [] [(8,.v (.slice aG ((uv (m + 1)).length) aH))] ak aK fun bz aL=>?_
  refine B4 (A4 ?_)
  refine wp_ret (J6 (F5 (D1 aL ak.cells (v:=.slice aG ((uv (m + 1)).length) aH) kz ?_)))
  exact N3 ak (k:=0) rfl (by simp [D2,hc5,ah]; try rfl)
 have aM:=hE4.cast (env':=[(0,.v (.bool false)),ae,ab,ac,(11,.v (.bool false))]) (by rw [hc5])
 refine B3 [2,3,4] [] [(0,.v (.bool false)),ae,ab,ac,(9,.v (.bool false))] hW aM fun bA au=>?_
 refine B4 (A4 ?_)
 refine G6 au (b:=false) kz rfl ?_
 refine B9 [ae,ab,ac,(15,.v (.bool false))] hW au fun bB av=>?_
 refine G6 av (b:=false) kz rfl ?_
 refine B9 [ab,ac,(21,.v (.bool null))] hW av fun bC al=>?_
 refine E2 al (b:=null) kz (fun am=>?_) (fun am=>?_)
 ·
  refine C1 [0,1,2] kz ?_
  refine B3 [0] [1,2] [(23,.v (.int .i64 ((sz:Nat):Int)))] hW al fun bD aN=>?_
  refine B1 (D6 aN (f:=54) (vs:=[.int .i64 (-1),.int .i64 ((sz:Nat):Int)]) (d:=24) kz Tryz.call54 (BN (-1) sz (by first | decide | exact S4 _ | omega) _) ?_)
  rintro e_ bE ⟨aO,aP,rfl,aQ,aR⟩
  refine ⟨_,rfl,fun bF aS=>?_⟩
  obtain ⟨ao,bk⟩:=hW.frFresh aR (B0 aO aP 5 (be sz (-1))) (Nat.le_refl _) aQ
  refine B3 [2] [] [(8,.v (.slice aO ((be sz (-1)).length) aP))] ao aS fun bG aT=>?_
  refine B4 (A4 ?_)
  refine wp_ret (J6 (F5 (D1 aT ao.cells (v:=.slice aO ((be sz (-1)).length) aP) kz ?_)))
  exact N3 ao (k:=0) rfl (by simp [D2,hc5,am]; try rfl)
 refine wp_skip (H7 (A4 (C1 [0,1,2,3] kz ?_)))
 refine B3 [0,1] [2,3] [(25,.v (.int .i64 ((m:Nat):Int))),(26,.v (.int .i64 ((sz:Nat):Int)))] hW al fun bH aU=>?_
 refine B1 (D6 aU (f:=54) (vs:=[.int .i64 ((m:Nat):Int),.int .i64 ((sz:Nat):Int)]) (d:=27) kz Tryz.call54 (BN ((m:Nat):Int) sz (by first | decide | exact S4 _ | omega) _) ?_)
 rintro e_ bI ⟨aV,aW,rfl,aX,aY⟩
 refine ⟨_,rfl,fun bJ aZ=>?_⟩
 obtain ⟨ap,bn⟩:=hW.frFresh aY (B0 aV aW 5 (be sz ((m:Nat):Int))) (Nat.le_refl _) aX
 refine B3 [3] [] [(8,.v (.slice aV ((be sz ((m:Nat):Int)).length) aW))] ap aZ fun bK ba=>?_
 refine B4 (A4 ?_)
 refine wp_ret (D1 ba ap.cells (v:=.slice aV ((be sz ((m:Nat):Int)).length) aW) kz ?_)
 exact N3 ap (k:=0) rfl (by simp [D2,hc5,am]; try rfl)
abbrev z6 (x0) (x1) (x2) (x3) (x4) (x5) (x6) (x7):=([.int .i64 x0,.int .i64 x1,.int .i64 x2,.int .i64 x3,.int .i64 x4,.int .i64 x5,.int .i64 x6,x7]:List Value)
theorem Jy (A:Option Addr) (c:Nat) (l:List Fld) (w:World) (F:Nat → Nat → Prop) (hl:FldsR w F A c l) :
  Calls Tryz.prog 26 #[.slice A l.length c] w (J9 w (.int .u32 (C2 l))):=by
 obtain ⟨xfs,h1,h2⟩:=hl.ex
 have hsm:=h1.small
 refine enter (n:=23) Tryz.func26 rfl Tryz.ntmps26 kz fun a hE=>?_
 have hW:=WOk.start w C7
 refine B9 [(0,.v (.slice A l.length c))] hW hE fun a1 hE2=>?_
 refine B9 [(0,.v (.slice A l.length c)),(3,.v (.int .u32 0))] hW hE2 fun a3 hE4=>?_
 refine wp_seq ?_
 let ab:Nat × SV:=(6,.v (.slice A l.length c))
 let ac:Nat × SV:=(7,.v (.int .i64 ((l.length:Nat):Int)))
 refine B9 [(3,.v (.int .u32 0)),ab,ac,(8,.v (.int .i64 0))] hW hE4 fun a5 hE6=>?_
 refine wp_block (wp_loop_ghost (fun n_ a_ w_=>∃ (k:Nat),n_ = l.length - k ∧ k ≤ l.length ∧ J1 hW 23 [] [] [(3,.v (.int .u32 (C2 (l.take k)))),ab,ac,(8,.v (.int .i64 ((k:Nat):Int)))] a_ w_) (l.length) ⟨0,by omega,by omega,hE6.pk,hW,Fr.refl _ _ _⟩ ?_)
 rintro n7 a8 w9 ⟨k,bg,bh,aB,af,ax⟩
 let ai:Nat × SV:=(8,.v (.int .i64 ((k:Nat):Int)))
 refine B9 [(3,.v (.int .u32 (C2 (l.take k)))),ab,ac,ai,(9,.v (.bool (decide (((k:Nat):Int) < ((l.length:Nat):Int)))))] af aB fun bC am=>?_
 refine wp_seq (E2 am (b:=decide (((k:Nat):Int) < ((l.length:Nat):Int))) kz (fun ao=>?_) (fun ao=>?_))
 ·
  have bj:=of_decide_eq_true ao
  refine wp_skip (A4 (wp_seq (wp_block (C1 [0,1,2,3] kz ?_))))
  obtain ⟨bk,bn,aC,bo,ak⟩:=Slots.get h1 (i:=k) (by omega)
  obtain ⟨bp,ap⟩:∃ x,l[k]? = some x:=⟨_,List.getElem?_eq_getElem (by omega)⟩
  have ay:=h2 k bp ap
  obtain ⟨aD,aE,aF,aG,ag,aH,aI,bq,bt,bu,bw,rfl,al,bx,bD⟩:=ay.open_
  rw [al] at ay
  have bf:=bx.small
  rw [al] at ak
  refine B1 (J7 am (t:=29) (A:=A) (m:=l.length) (q:=((k:Nat):Int)) (d:=10) kz (e:=46) (size:=8) (bytes:=80) kz aC rfl (by omega) fun bE aJ=>?_)
  let aj:Value:=.slice bt bq.length bu
  refine B1 (M7 aJ (t:=46) (b:=bk) (o:=bn + k * 8) (d:=11) kz (cs:=(z6 aD aE aF aG ag aH aI aj)) (v:=.agg #[.int .i64 aD,.int .i64 aE,.int .i64 aF,.int .i64 aG,.int .i64 ag,.int .i64 aH,.int .i64 aI,aj]) kz (AtF.move ak af.step B2 F3).at_ fun bF aK=>?_)
  let ae:Value:=.int .i64 0
  refine B1 (N6 af aK (d:=5) (cs:=[ae,ae,ae,ae,ae,ae,ae,.slice none 0 0]) kz fun bG bH bI bz bA az aL aM=>?_)
  refine B1 (I9 aL aM (oi:=0) (cs:=(z6 aD aE aF aG ag aH aI aj)) kz fun bJ aA ah aN=>?_)
  refine B4 (A4 ?_)
  refine B9 [(3,.v (.int .u32 (C2 (l.take k)))),(5,.p 0 0),ab,ac,ai,(14,.v (.bool (decide (ag ≥ 0))))] ah aN fun bK ar=>?_
  refine E2 ar (b:=decide (ag ≥ 0)) kz (fun au=>?_) (fun au=>?_)
  ·
   have aO:=of_decide_eq_true au
   refine E4 [0,1,2,3,4,5,6] kz ?_
   refine B3 [0,1,2,3,4,5,6] [] [(3,.v (.int .u32 (if IntKind.u32.wrap ((IntKind.u32.wrap ag) + 1) > C2 (l.take k) then IntKind.u32.wrap ((IntKind.u32.wrap ag) + 1) else C2 (l.take k)))),ab,ac,ai] ah ar fun bL aP=>?_
   refine B4 (H7 (A4 (E4 [0,1] kz ?_)))
   refine B3 [0,1] [] [(3,.v (.int .u32 (if IntKind.u32.wrap ((IntKind.u32.wrap ag) + 1) > C2 (l.take k) then IntKind.u32.wrap ((IntKind.u32.wrap ag) + 1) else C2 (l.take k)))),ab,ac,(8,.v (.int .i64 (IntKind.i64.wrap (((k:Nat):Int) + 1))))] ah aP fun bM aQ=>?_
   refine B4 (A4 ?_)
   obtain ⟨av,aR,aS⟩:=ah.cutB aQ 0 [] [(3,.v (.int .u32 (if IntKind.u32.wrap ((IntKind.u32.wrap ag) + 1) > C2 (l.take k) then IntKind.u32.wrap ((IntKind.u32.wrap ag) + 1) else C2 (l.take k)))),ab,ac,(8,.v (.int .i64 (IntKind.i64.wrap (((k:Nat):Int) + 1))))]
   have aT:IntKind.i64.wrap (((k:Nat):Int) + 1) = ((k + 1:Nat):Int):=N0 (by omega)
   rw [aT] at av
   have aU:(if IntKind.u32.wrap ((IntKind.u32.wrap ag) + 1) > C2 (l.take k) then IntKind.u32.wrap ((IntKind.u32.wrap ag) + 1) else C2 (l.take k)) = C2 (l.take (k + 1)):=KY ap aO
   rw [aU] at av
   exact ⟨l.length - (k + 1),by omega,k + 1,rfl,by omega,av.pk,aR,(((ax.trans az).trans aA).trans aS)⟩
  have aV:=of_decide_eq_false au
  refine wp_skip (H7 (A4 (E4 [0,1] kz ?_)))
  refine B3 [0,1] [] [(3,.v (.int .u32 (C2 (l.take k)))),ab,ac,(8,.v (.int .i64 (IntKind.i64.wrap (((k:Nat):Int) + 1))))] ah ar fun bN aW=>?_
  refine B4 (A4 ?_)
  obtain ⟨aw,aX,aY⟩:=ah.cutB aW 0 [] [(3,.v (.int .u32 (C2 (l.take k)))),ab,ac,(8,.v (.int .i64 (IntKind.i64.wrap (((k:Nat):Int) + 1))))]
  have aZ:IntKind.i64.wrap (((k:Nat):Int) + 1) = ((k + 1:Nat):Int):=N0 (by omega)
  rw [aZ] at aw
  have ba:C2 (l.take k) = C2 (l.take (k + 1)):=KZ ap aV
  rw [ba] at aw
  exact ⟨l.length - (k + 1),by omega,k + 1,rfl,by omega,aw.pk,aX,(((ax.trans az).trans aA).trans aY)⟩
 have bB:=of_decide_eq_false ao
 refine wp_exit (F2 (F2 (I7 (A4 (B9 [(2,.v (.int .u32 (C2 (l.take k))))] af am fun bO bd=>?_)))))
 refine wp_ret (D1 bd af.cells (v:=.int .u32 (C2 (l.take k))) kz ?_)
 exact ⟨by rw [List.take_of_length_le (by omega)],af.step⟩
def GM (d:Nat):Prop:=∀ (A:Option Addr) (c:Nat) (l:List Fld) (v:Int) (flex:Bool) (ct:List Value) (t:Tree) (w:World) (F:Nat → Nat → Prop),FldsR w F A c l → depths l ≤ d → TreeR w F ct t → (D4 d l v flex t).length ≤ 1099511627776 →
  Calls Tryz.prog 16 #[.slice A l.length c,.int .i64 v,.bool flex,.agg ct.toArray] w (W2 w 5 (D4 d l v flex t))
theorem GN {d:Nat} (hp:GM d) (kind:Int) (A:Option Addr) (c:Nat) (l:List Fld) (null:Bool) (v:Int) (flex:Bool) (ct:List Value) (t:Tree) (w:World) (F:Nat → Nat → Prop) (hl:FldsR w F A c l) (hd:depths l ≤ d) (ht:TreeR w F ct t) (hroom:(E3 (D4 d l v flex) kind null flex t).length ≤ 1099511627776) :
  Calls Tryz.prog 53 #[.int .i64 kind,.slice A l.length c,.bool null,.int .i64 v,.bool flex,.agg ct.toArray] w (W2 w 5 (E3 (D4 d l v flex) kind null flex t)):=by
 obtain ⟨n1,s2,b3,l4,u5,A6,c7,A8,c9,ey,ez,eB,rfl,rfl,bu,eC,fR,fS⟩:=ht.open_
 have d7:=bu.small
 have d8:=eC.small
 have hl0:=hl
 obtain ⟨xfs,h1,h2⟩:=hl.ex
 have hsm:=h1.small
 refine enter (n:=70) Tryz.func53 rfl Tryz.ntmps53 kz fun a hE=>?_
 have hW:=WOk.start w C7
 refine C1 [0,1] kz ?_
 let av:Value:=.slice A6 s2.length c7
 let aK:Value:=.slice A8 l4.length c9
 let aL:Value:=.slice ey u5.length ez
 refine B1 (M2 hW hE (d:=11) (cs:=[.int .i64 n1,av,.bool b3,aK,aL]) kz fun fT fV fW eD eE eF ab dF=>?_)
 let ai:Nat × SV:=(0,.v (.int .i64 kind))
 let aj:Nat × SV:=(1,.v (.slice A l.length c))
 let ae:Nat × SV:=(2,.v (.bool null))
 let ak:Nat × SV:=(3,.v (.int .i64 v))
 let ac:Nat × SV:=(4,.v (.bool flex))
 let af:Nat × SV:=(11,.p 0 0)
 refine B3 [1] [] [ai,aj,ae,ak,ac,af] ab dF fun fX dG=>?_
 refine B4 (A4 ?_)
 refine wp_seq ?_
 let aw:Nat × SV:=(16,.v (.int .i64 kind))
 refine B9 [ai,aj,ae,ak,ac,af,aw] ab dG fun fY dH=>?_
 refine wp_block (B9 [ai,aj,ae,ak,ac,af,aw,(17,.v (.bool (kind == 0)))] ab dH fun fZ bH=>?_)
 refine E2 bH (b:=kind == 0) kz (fun ah=>?_) (fun ah=>?_)
 ·
  have dI:kind = 0:=by simpa using ah
  refine C1 [0,1,2,3,4,5] kz ?_
  refine B3 [0,1,2,3] [4,5] [(22,.v (.int .u8 (IntKind.u8.wrap (IntKind.i64.wrap (BitVec.ofInt 64 n1 &&& BitVec.ofInt 64 1).toNat))))] ab bH fun f5 dJ=>?_
  refine B1 (X7 ab dJ (e:=5) (size:=1) (len:=1) (cs:=[.int .u8 (IntKind.u8.wrap (IntKind.i64.wrap (BitVec.ofInt 64 n1 &&& BitVec.ofInt 64 1).toNat))]) (d:=23) kz kz fun bI f7 f8 eG eH eI dK dL=>?_)
  have dM:(⟨some ⟨bI,0,none⟩,1,5,1,1,[.int .u8 (IntKind.u8.wrap (IntKind.i64.wrap (BitVec.ofInt 64 n1 &&& BitVec.ofInt 64 1).toNat))]⟩:Rw) = B0 (some ⟨bI,0,none⟩) 1 5 [C9 (IntKind.i64.wrap (BitVec.ofInt 64 n1 &&& BitVec.ofInt 64 1).toNat)]:=by first | rfl | (simp only [B0,bc,List.map,R6]; try rfl)
  obtain ⟨bJ,eJ⟩:=dK.rowEq 0 [B0 (some ⟨bI,0,none⟩) 1 5 [C9 (IntKind.i64.wrap (BitVec.ofInt 64 n1 &&& BitVec.ofInt 64 1).toNat)]] dM
  have dN:=EnvOk.pick dL (ks:=[22,23]) (env':=[(22,.v (.int .u8 (IntKind.u8.wrap (IntKind.i64.wrap (BitVec.ofInt 64 n1 &&& BitVec.ofInt 64 1).toNat)))),(23,.v (.slice (some ⟨bI,0,none⟩) 1 1))]) kz
  have dO:=dN.cast (env':=[(22,.v (.int .u8 (IntKind.u8.wrap (IntKind.i64.wrap (BitVec.ofInt 64 n1 &&& BitVec.ofInt 64 1).toNat)))),(23,.v (.slice (some ⟨bI,0,none⟩) ([C9 (IntKind.i64.wrap (BitVec.ofInt 64 n1 &&& BitVec.ofInt 64 1).toNat)].length) 1))]) rfl
  refine B3 [5] [] [(12,.v (.slice (some ⟨bI,0,none⟩) ([C9 (IntKind.i64.wrap (BitVec.ofInt 64 n1 &&& BitVec.ofInt 64 1).toNat)].length) 1))] bJ dO fun f9 dP=>?_
  refine B4 (A4 ?_)
  refine wp_ret (J6 (F5 (D1 dP bJ.cells (v:=.slice (some ⟨bI,0,none⟩) ([C9 (IntKind.i64.wrap (BitVec.ofInt 64 n1 &&& BitVec.ofInt 64 1).toNat)].length) 1) kz ?_)))
  exact N3 bJ (k:=0) rfl (by (try simp only [I1]); simp [E3,Tree.S,Tree.N,dI,ah])
 have ax:kind ≠ 0:=by simpa using ah
 refine B9 [ai,aj,ae,ak,ac,af,aw,(24,.v (.bool (kind == 7)))] ab bH fun ga bK=>?_
 refine E2 bK (b:=kind == 7) kz (fun al=>?_) (fun al=>?_)
 ·
  have dQ:kind = 7:=by simpa using al
  refine C1 [0,1] kz ?_
  refine B1 (KQ ab bK (d:=26) (j:=16) (t:=22) (e:=5) (bytes:=1) (z:=.int .u8 0) kz kz kz kz (rfl) (rfl) (by omega) fun bt gb gc eK eM eN aM dR=>?_)
  let aN:Nat × SV:=(13,.v (.slice (some ⟨bt,0,none⟩) 16 16))
  refine B3 [1] [] [af,aN] aM dR fun gd dS=>?_
  refine B4 (A4 ?_)
  refine C1 [0,1,2,3] kz ?_
  let bw:Nat × SV:=(27,.v (.slice (some ⟨bt,0,none⟩) 16 16))
  let aO:Nat × SV:=(29,.v (.slice A6 s2.length c7))
  refine B3 [0,1,2] [3] [aN,bw,aO] aM dS fun ge dT=>?_
  refine B1 (KP aM dT (k:=0) (d:=30) (t:=22) (u:=22) (e:=5) (bytes:=1) (A:=(some ⟨bt,0,none⟩)) (As:=A6) (m:=s2.length) (cs:=c7) (m0:=16) (c:=16) (xs:=(List.replicate 16 (.int .u8 0))) (news:=bc s2) kz kz rfl (bu.move aM.step B2 aM.imm).src fun gg gh eO dU dV=>?_)
  have dW:(⟨(some ⟨bt,0,none⟩),16,5,1,16,J5 (List.replicate 16 (.int .u8 0)) 0 ((bc s2).take (min s2.length 16))⟩:Rw) = B0 (some ⟨bt,0,none⟩) 16 5 (R7 s2):=KX _ _ _
  obtain ⟨bL,eP⟩:=dU.rowEq 0 [B0 (some ⟨bt,0,none⟩) 16 5 (R7 s2)] dW
  have dX:=EnvOk.pick dV (ks:=[13,27,29,30]) (env':=[aN,bw,aO,(30,.v (.int .i64 ((min s2.length 16:Nat):Int)))]) kz
  have dY:=dX.cast (env':=[(13,.v (.slice (some ⟨bt,0,none⟩) ((R7 s2).length) 16)),(27,.v (.slice (some ⟨bt,0,none⟩) ((R7 s2).length) 16)),aO,(30,.v (.int .i64 ((min s2.length 16:Nat):Int)))]) (by rw [Z5 _])
  refine B4 (A4 ?_)
  refine B9 [(12,.v (.slice (some ⟨bt,0,none⟩) ((R7 s2).length) 16))] bL dY fun gi dZ=>?_
  refine wp_ret (J6 (F5 (D1 dZ bL.cells (v:=.slice (some ⟨bt,0,none⟩) ((R7 s2).length) 16) kz ?_)))
  exact N3 bL (k:=0) rfl (by (try simp only [I1]); simp [E3,Tree.S,Tree.N,ax,dQ,ah,al])
 have az:kind ≠ 7:=by simpa using al
 refine B9 [ai,aj,ae,ak,ac,af,aw,(32,.v (.bool (kind == 8)))] ab bK fun gj bM=>?_
 refine E2 bM (b:=kind == 8) kz (fun ao=>?_) (fun ao=>?_)
 ·
  have bR:kind = 8:=by simpa using ao
  refine C1 [0,1,2,3] kz ?_
  refine B3 [0,1] [2,3] [ae,ac,(35,.v (.slice A6 s2.length c7))] ab bM fun gk d4=>?_
  have d9:=N4 s2
  refine B1 (D6 d4 (f:=30) (vs:=[av]) (d:=36) kz Tryz.call30 (GL _ _ s2 (bu.move ab.step B2 ab.imm).le _) ?_)
  rintro e_ gl ⟨rfl,bS⟩
  refine ⟨_,rfl,fun gm d5=>?_⟩
  have aA:=ab.next_nil bS
  have eQ:=ab.frN bS
  refine B3 [3] [] [ae,ac,(14,.v (.slice A6 ((C4 s2).length) c7))] aA d5 fun gn bT=>?_
  refine B4 (A4 ?_)
  refine wp_seq (B9 [ae,ac,(14,.v (.slice A6 ((C4 s2).length) c7)),(37,.v (.bool null))] aA bT fun eR aP=>?_)
  refine E2 aP (b:=null) kz (fun aQ=>?_) (fun aQ=>?_)
  ·
   refine E4 [0] kz ?_
   refine B3 [0] [] [ae,ac,(14,.v (.slice none 0 0))] aA aP fun eS bU=>?_
   refine B4 (A4 ?_)
   refine C1 [0,1,2,3,4,5,6,7] kz ?_
   refine B3 [0,1,2,3] [4,5,6,7] [(14,.v (.slice none 0 0)),(38,.v (.bool flex)),(39,.v (.bool null)),(41,.v (.int .i64 0))] aA bU fun eT bV=>?_
   refine B1 (D6 bV (f:=52) (vs:=[.bool flex,.bool null,.int .i64 0,.int .i64 2]) (d:=42) kz Tryz.call52 (CE flex null 0 2 (by first | omega | exact Nat.le_trans (N4 _) (by decide) | exact Nat.le_trans (Z6 _) (by decide) | (simp; done) | (have:=hroom; omega)) (by first | decide | omega) _) ?_)
   rintro e_ eU ⟨aR,aS,rfl,bW,bX⟩
   refine ⟨_,rfl,fun eV bY=>?_⟩
   obtain ⟨bx,ea⟩:=aA.frFresh bX (B0 aR aS 5 (D2 flex null 0 2)) (Nat.le_refl _) bW
   let aT:Nat × SV:=(43,.v (.slice none 0 0))
   refine B3 [5] [6,7] [(42,.v (.slice aR ((D2 flex null 0 2).length) aS)),aT] bx bY fun eW bZ=>?_
   refine B1 (N8 bx bZ (k:=0) (d:=44) (t:=22) (e:=5) (size:=1) (bytes:=1) (A:=aR) (As:=none) (m0:=((D2 flex null 0 2).length)) (c:=aS) (m:=0) (cs:=0) (xs:=(bc (D2 flex null 0 2))) (news:=bc ([]:Bs)) kz kz rfl (Octs.nil _ (fun _ _=>True)).src (fun _=>rfl) (by first | exact Z7 (by omega) (by decide) (by omega) | exact Z7 (Nat.le_trans (N4 _) (by decide)) (by decide) (Nat.le_trans (N4 _) (by decide)) | (simp; done)) fun aB aC eX eY eb b8 cd=>?_)
   have ce:(⟨aB,aC,5,1,(D2 flex null 0 2).length + 0,bc (D2 flex null 0 2) ++ bc ([]:Bs)⟩:Rw) = B0 aB aC 5 (D2 flex null 0 2 ++ ([]:Bs)):=K9 (rfl) rfl
   obtain ⟨aU,ec⟩:=b8.rowEq 0 [B0 aB aC 5 (D2 flex null 0 2 ++ ([]:Bs))] ce
   have cg:=EnvOk.pick cd (ks:=[42,43,44]) (env':=[(42,.v (.slice aR ((D2 flex null 0 2).length) aS)),aT,(44,.v (.slice aB ((D2 flex null 0 2).length + 0) aC))]) kz
   have cm:=cg.cast (env':=[(42,.v (.slice aR ((D2 flex null 0 2).length) aS)),aT,(44,.v (.slice aB ((D2 flex null 0 2 ++ ([]:Bs)).length) aC))]) (by simp only [List.length_append,List.length_cons,List.length_nil,Nat.zero_add])
   refine B3 [7] [] [(12,.v (.slice aB ((D2 flex null 0 2 ++ ([]:Bs)).length) aC))] aU cm fun eZ cq=>?_
   refine B4 (A4 ?_)
   refine wp_ret (J6 (F5 (D1 cq aU.cells (v:=.slice aB ((D2 flex null 0 2 ++ ([]:Bs)).length) aC) kz ?_)))
   exact N3 aU (k:=0) rfl (by (try simp only [I1]); simp [E3,Tree.S,Tree.N,ax,az,bR,ah,al,ao,aQ])
  refine wp_skip (A4 (C1 [0,1,2,3,4,5,6,7] kz ?_))
  refine B3 [0,1,2,3] [4,5,6,7] [(14,.v (.slice A6 ((C4 s2).length) c7)),(38,.v (.bool flex)),(39,.v (.bool null)),(41,.v (.int .i64 (((C4 s2).length:Nat):Int)))] aA aP fun e9 cr=>?_
  refine B1 (D6 cr (f:=52) (vs:=[.bool flex,.bool null,.int .i64 (((C4 s2).length:Nat):Int),.int .i64 2]) (d:=42) kz Tryz.call52 (CE flex null ((C4 s2).length) 2 (by first | omega | exact Nat.le_trans (N4 _) (by decide) | exact Nat.le_trans (Z6 _) (by decide) | (simp; done) | (have:=hroom; omega)) (by first | decide | omega) _) ?_)
  rintro e_ fa ⟨aV,aW,rfl,cu,cv⟩
  refine ⟨_,rfl,fun fb cw=>?_⟩
  obtain ⟨ap,ee⟩:=aA.frFresh cv (B0 aV aW 5 (D2 flex null ((C4 s2).length) 2)) (Nat.le_refl _) cu
  refine B3 [5] [6,7] [(42,.v (.slice aV ((D2 flex null ((C4 s2).length) 2).length) aW)),(43,.v (.slice A6 ((C4 s2).length) c7))] ap cw fun fc cy=>?_
  refine B1 (N8 ap cy (k:=0) (d:=44) (t:=22) (e:=5) (size:=1) (bytes:=1) (A:=aV) (As:=A6) (m0:=((D2 flex null ((C4 s2).length) 2).length)) (c:=aW) (m:=((C4 s2).length)) (cs:=c7) (xs:=(bc (D2 flex null ((C4 s2).length) 2))) (news:=bc (C4 s2)) kz kz rfl ((bu.take 32767).move ap.step B2 ap.imm).src ((bu.take 32767).move ap.step B2 ap.imm).cap (by first | exact Z7 (by omega) (by decide) (by omega) | exact Z7 (Nat.le_trans (N4 _) (by decide)) (by decide) (Nat.le_trans (N4 _) (by decide)) | (simp; done)) fun aD aE fe ff ef cz cA=>?_)
  have cB:(⟨aD,aE,5,1,(D2 flex null ((C4 s2).length) 2).length + (C4 s2).length,bc (D2 flex null ((C4 s2).length) 2) ++ bc (C4 s2)⟩:Rw) = B0 aD aE 5 (D2 flex null ((C4 s2).length) 2 ++ (C4 s2)):=K9 (rfl) rfl
  obtain ⟨aX,eg⟩:=cz.rowEq 0 [B0 aD aE 5 (D2 flex null ((C4 s2).length) 2 ++ (C4 s2))] cB
  have cC:=EnvOk.pick cA (ks:=[42,43,44]) (env':=[(42,.v (.slice aV ((D2 flex null ((C4 s2).length) 2).length) aW)),(43,.v (.slice A6 ((C4 s2).length) c7)),(44,.v (.slice aD ((D2 flex null ((C4 s2).length) 2).length + (C4 s2).length) aE))]) kz
  have cE:=cC.cast (env':=[(42,.v (.slice aV ((D2 flex null ((C4 s2).length) 2).length) aW)),(43,.v (.slice A6 ((C4 s2).length) c7)),(44,.v (.slice aD ((D2 flex null ((C4 s2).length) 2 ++ (C4 s2)).length) aE))]) (by simp only [List.length_append,List.length_cons,List.length_nil,Nat.zero_add])
  refine B3 [7] [] [(12,.v (.slice aD ((D2 flex null ((C4 s2).length) 2 ++ (C4 s2)).length) aE))] aX cE fun fg cG=>?_
  refine B4 (A4 ?_)
  refine wp_ret (J6 (F5 (D1 cG aX.cells (v:=.slice aD ((D2 flex null ((C4 s2).length) 2 ++ (C4 s2)).length) aE) kz ?_)))
  exact N3 aX (k:=0) rfl (by (try simp only [I1]); simp [E3,Tree.S,Tree.N,ax,az,bR,ah,al,ao,aQ])
 have ay:kind ≠ 8:=by simpa using ao
 refine B9 [ai,aj,ae,ak,ac,af,aw,(45,.v (.bool (kind == 9)))] ab bM fun fh aY=>?_
 refine E2 aY (b:=kind == 9) kz (fun ag=>?_) (fun ag=>?_)
 ·
  have bz:kind = 9:=by simpa using ag
  refine C1 [0,1,2,3] kz ?_
  refine B3 [0,1] [2,3] [ae,ac,(48,.v (.slice A6 s2.length c7))] ab aY fun fi cH=>?_
  have d6:=N4 s2
  refine B1 (D6 cH (f:=30) (vs:=[av]) (d:=49) kz Tryz.call30 (GL _ _ s2 (bu.move ab.step B2 ab.imm).le _) ?_)
  rintro e_ fj ⟨rfl,bA⟩
  refine ⟨_,rfl,fun fk cI=>?_⟩
  have am:=ab.next_nil bA
  have eh:=ab.frN bA
  refine B3 [3] [] [ae,ac,(15,.v (.slice A6 ((C4 s2).length) c7))] am cI fun fl cJ=>?_
  refine B4 (A4 ?_)
  refine wp_seq (B9 [ae,ac,(15,.v (.slice A6 ((C4 s2).length) c7)),(50,.v (.bool null))] am cJ fun fm aZ=>?_)
  refine E2 aZ (b:=null) kz (fun ba=>?_) (fun ba=>?_)
  ·
   refine E4 [0] kz ?_
   refine B3 [0] [] [ae,ac,(15,.v (.slice none 0 0))] am aZ fun fo cK=>?_
   refine B4 (A4 ?_)
   refine C1 [0,1,2,3,4,5,6,7] kz ?_
   refine B3 [0,1,2,3] [4,5,6,7] [(15,.v (.slice none 0 0)),(51,.v (.bool flex)),(52,.v (.bool null)),(54,.v (.int .i64 0))] am cK fun fq cL=>?_
   refine B1 (D6 cL (f:=52) (vs:=[.bool flex,.bool null,.int .i64 0,.int .i64 4]) (d:=55) kz Tryz.call52 (CE flex null 0 4 (by first | omega | exact Nat.le_trans (N4 _) (by decide) | exact Nat.le_trans (Z6 _) (by decide) | (simp; done) | (have:=hroom; omega)) (by first | decide | omega) _) ?_)
   rintro e_ fr ⟨bd,bf,rfl,cM,cN⟩
   refine ⟨_,rfl,fun ft cO=>?_⟩
   obtain ⟨bB,ei⟩:=am.frFresh cN (B0 bd bf 5 (D2 flex null 0 4)) (Nat.le_refl _) cM
   let bg:Nat × SV:=(56,.v (.slice none 0 0))
   refine B3 [5] [6,7] [(55,.v (.slice bd ((D2 flex null 0 4).length) bf)),bg] bB cO fun fu cP=>?_
   refine B1 (N8 bB cP (k:=0) (d:=57) (t:=22) (e:=5) (size:=1) (bytes:=1) (A:=bd) (As:=none) (m0:=((D2 flex null 0 4).length)) (c:=bf) (m:=0) (cs:=0) (xs:=(bc (D2 flex null 0 4))) (news:=bc ([]:Bs)) kz kz rfl (Octs.nil _ (fun _ _=>True)).src (fun _=>rfl) (by first | exact Z7 (by omega) (by decide) (by omega) | exact Z7 (Nat.le_trans (N4 _) (by decide)) (by decide) (Nat.le_trans (N4 _) (by decide)) | (simp; done)) fun aF aG fv fw ej cQ cR=>?_)
   have cS:(⟨aF,aG,5,1,(D2 flex null 0 4).length + 0,bc (D2 flex null 0 4) ++ bc ([]:Bs)⟩:Rw) = B0 aF aG 5 (D2 flex null 0 4 ++ ([]:Bs)):=K9 (rfl) rfl
   obtain ⟨bh,ek⟩:=cQ.rowEq 0 [B0 aF aG 5 (D2 flex null 0 4 ++ ([]:Bs))] cS
   have cU:=EnvOk.pick cR (ks:=[55,56,57]) (env':=[(55,.v (.slice bd ((D2 flex null 0 4).length) bf)),bg,(57,.v (.slice aF ((D2 flex null 0 4).length + 0) aG))]) kz
   have cV:=cU.cast (env':=[(55,.v (.slice bd ((D2 flex null 0 4).length) bf)),bg,(57,.v (.slice aF ((D2 flex null 0 4 ++ ([]:Bs)).length) aG))]) (by simp only [List.length_append,List.length_cons,List.length_nil,Nat.zero_add])
   refine B3 [7] [] [(12,.v (.slice aF ((D2 flex null 0 4 ++ ([]:Bs)).length) aG))] bh cV fun fx cW=>?_
   refine B4 (A4 ?_)
   refine wp_ret (J6 (F5 (D1 cW bh.cells (v:=.slice aF ((D2 flex null 0 4 ++ ([]:Bs)).length) aG) kz ?_)))
   exact N3 bh (k:=0) rfl (by (try simp only [I1]); simp [E3,Tree.S,Tree.N,ax,az,ay,bz,ah,al,ao,ag,ba])
  refine wp_skip (A4 (C1 [0,1,2,3,4,5,6,7] kz ?_))
  refine B3 [0,1,2,3] [4,5,6,7] [(15,.v (.slice A6 ((C4 s2).length) c7)),(51,.v (.bool flex)),(52,.v (.bool null)),(54,.v (.int .i64 (((C4 s2).length:Nat):Int)))] am aZ fun fy cX=>?_
  refine B1 (D6 cX (f:=52) (vs:=[.bool flex,.bool null,.int .i64 (((C4 s2).length:Nat):Int),.int .i64 4]) (d:=55) kz Tryz.call52 (CE flex null ((C4 s2).length) 4 (by first | omega | exact Nat.le_trans (N4 _) (by decide) | exact Nat.le_trans (Z6 _) (by decide) | (simp; done) | (have:=hroom; omega)) (by first | decide | omega) _) ?_)
  rintro e_ fz ⟨bj,bk,rfl,cY,cZ⟩
  refine ⟨_,rfl,fun fA da=>?_⟩
  obtain ⟨ar,em⟩:=am.frFresh cZ (B0 bj bk 5 (D2 flex null ((C4 s2).length) 4)) (Nat.le_refl _) cY
  refine B3 [5] [6,7] [(55,.v (.slice bj ((D2 flex null ((C4 s2).length) 4).length) bk)),(56,.v (.slice A6 ((C4 s2).length) c7))] ar da fun fB db=>?_
  refine B1 (N8 ar db (k:=0) (d:=57) (t:=22) (e:=5) (size:=1) (bytes:=1) (A:=bj) (As:=A6) (m0:=((D2 flex null ((C4 s2).length) 4).length)) (c:=bk) (m:=((C4 s2).length)) (cs:=c7) (xs:=(bc (D2 flex null ((C4 s2).length) 4))) (news:=bc (C4 s2)) kz kz rfl ((bu.take 32767).move ar.step B2 ar.imm).src ((bu.take 32767).move ar.step B2 ar.imm).cap (by first | exact Z7 (by omega) (by decide) (by omega) | exact Z7 (Nat.le_trans (N4 _) (by decide)) (by decide) (Nat.le_trans (N4 _) (by decide)) | (simp; done)) fun aH aI fC fD eo dc de=>?_)
  have df:(⟨aH,aI,5,1,(D2 flex null ((C4 s2).length) 4).length + (C4 s2).length,bc (D2 flex null ((C4 s2).length) 4) ++ bc (C4 s2)⟩:Rw) = B0 aH aI 5 (D2 flex null ((C4 s2).length) 4 ++ (C4 s2)):=K9 (rfl) rfl
  obtain ⟨bn,eu⟩:=dc.rowEq 0 [B0 aH aI 5 (D2 flex null ((C4 s2).length) 4 ++ (C4 s2))] df
  have dg:=EnvOk.pick de (ks:=[55,56,57]) (env':=[(55,.v (.slice bj ((D2 flex null ((C4 s2).length) 4).length) bk)),(56,.v (.slice A6 ((C4 s2).length) c7)),(57,.v (.slice aH ((D2 flex null ((C4 s2).length) 4).length + (C4 s2).length) aI))]) kz
  have dh:=dg.cast (env':=[(55,.v (.slice bj ((D2 flex null ((C4 s2).length) 4).length) bk)),(56,.v (.slice A6 ((C4 s2).length) c7)),(57,.v (.slice aH ((D2 flex null ((C4 s2).length) 4 ++ (C4 s2)).length) aI))]) (by simp only [List.length_append,List.length_cons,List.length_nil,Nat.zero_add])
  refine B3 [7] [] [(12,.v (.slice aH ((D2 flex null ((C4 s2).length) 4 ++ (C4 s2)).length) aI))] bn dh fun fE di=>?_
  refine B4 (A4 ?_)
  refine wp_ret (J6 (F5 (D1 di bn.cells (v:=.slice aH ((D2 flex null ((C4 s2).length) 4 ++ (C4 s2)).length) aI) kz ?_)))
  exact N3 bn (k:=0) rfl (by (try simp only [I1]); simp [E3,Tree.S,Tree.N,ax,az,ay,bz,ah,al,ao,ag,ba])
 have bo:kind ≠ 9:=by simpa using ag
 refine B9 [ai,aj,ak,ac,af,(58,.v (.bool (kind == 10)))] ab aY fun fF bp=>?_
 refine E2 bp (b:=kind == 10) kz (fun au=>?_) (fun au=>?_)
 ·
  have bC:kind = 10:=by simpa using au
  refine C1 [0,1,2,3,4,5] kz ?_
  refine B3 [0,1,2,3] [4,5] [(60,.v (.slice A l.length c)),(61,.v (.int .i64 v)),(62,.v (.bool flex)),(63,.v (.agg #[.int .i64 n1,av,.bool b3,aK,aL]))] ab bp fun fG dj=>?_
  refine B1 (D6 dj (f:=16) (vs:=[.slice A l.length c,.int .i64 v,.bool flex,.agg #[.int .i64 n1,av,.bool b3,aK,aL]]) (d:=64) kz Tryz.call16 (hp _ _ l v flex _ (Tree.mk n1 s2 b3 l4 u5) _ _ ⟨xfs,(h1.move ab.step B2 ab.imm),(fun i_ x_ h_=>((h2 i_ x_ h_).move ab.step B2 ab.imm))⟩ hd (ht.move ab.step B2 ab.imm) (by simpa [E3,ax,az,ay,bo,bC,ah,al,ao,ag,au] using hroom)) ?_)
  rintro e_ fH ⟨bN,bO,rfl,dl,dp⟩
  refine ⟨_,rfl,fun fI dq=>?_⟩
  obtain ⟨bq,ev⟩:=ab.frFresh dp (B0 bN bO 5 (D4 d l v flex (Tree.mk n1 s2 b3 l4 u5))) (Nat.le_refl _) dl
  refine B3 [5] [] [(12,.v (.slice bN ((D4 d l v flex (Tree.mk n1 s2 b3 l4 u5)).length) bO))] bq dq fun fJ dr=>?_
  refine B4 (A4 ?_)
  refine wp_ret (J6 (F5 (D1 dr bq.cells (v:=.slice bN ((D4 d l v flex (Tree.mk n1 s2 b3 l4 u5)).length) bO) kz ?_)))
  exact N3 bq (k:=0) rfl (by (try simp only [I1]); simp [E3,Tree.S,Tree.N,ax,az,ay,bo,bC,ah,al,ao,ag,au])
 have dt:kind ≠ 10:=by simpa using au
 refine wp_skip (H7 (A4 (X8 5 kz ab fun fK ew bD du=>?_)))
 refine G4 [0,1,2] [(66,.v (.int .i64 n1)),(67,.v (.int .i64 kind))] 3 (B6 E0) (fun _ h=>h.cells) du bp fun fL dv=>?_
 refine H6 (i:=3) kz (D6 dv (f:=55) (vs:=[.int .i64 kind]) (d:=68) kz Tryz.call55 (GK kind _) ?_)
 rintro e_ fM ⟨rfl,bE⟩
 refine ⟨_,rfl,fun fN dw=>?_⟩
 have bF:=bD.next_nil bE
 have bG:=bD.frN bE
 have dx:=TT.ofW bG bF
 refine ⟨fun _=>dx,?_⟩
 refine H6 (i:=4) kz (D6 dw (f:=54) (vs:=[.int .i64 n1,.int .i64 ((H8 kind:Nat):Int)]) (d:=69) kz Tryz.call54 (BN n1 (H8 kind) (by first | decide | exact S4 _ | omega) _) ?_)
 rintro e_ fO ⟨bP,bQ,rfl,dy,dA⟩
 refine ⟨_,rfl,fun fP dB=>?_⟩
 obtain ⟨aJ,dC⟩:=bF.frFresh dA (B0 bP bQ 5 (be (H8 kind) n1)) (Nat.le_refl _) dy
 have dD:=TT.ofW (bG.trans dC) aJ
 refine ⟨fun _=>dD,?_⟩
 refine H6 (i:=5) kz (W1 [12] aJ.cells dB (env':=[(12,.v (.slice bP ((be (H8 kind) n1).length) bQ))]) kz fun fQ dE=>?_)
 refine ⟨fun h=>absurd rfl h,?_⟩
 refine L6 kz ?_ _
 refine A4 (wp_ret (D1 dE aJ.cells (v:=.slice bP ((be (H8 kind) n1).length) bQ) kz ?_))
 exact N3 aJ (k:=0) rfl (by (try simp only [I1]); simp [E3,Tree.S,Tree.N,ax,az,ay,bo,dt,ah,al,ao,ag,au])
theorem NI {d:Nat} (hp:GM d) (cf:List Value) (f:Fld) (v:Int) (flex:Bool) (ct:List Value) (t:Tree) (w:World) (F:Nat → Nat → Prop) (hf:FldR w F cf f) (hd:depths f.sub ≤ d) (ht:TreeR w F ct t) (hroom:(Q9 d f v flex t).length ≤ 1099511627776) :
  Calls Tryz.prog 24 #[.agg cf.toArray,.int .i64 v,.bool flex,.agg ct.toArray] w (W2 w 5 (Q9 d f v flex t)):=by
 obtain ⟨n1,s2,b3,l4,u5,A6,c7,A8,c9,eU,eV,fY,rfl,rfl,fZ,eW,f5,im⟩:=ht.open_
 have fw:=fZ.small
 have fx:=eW.small
 obtain ⟨ah,aj,ak,ai,al,am,ac,ab,eR,eS,bZ,rfl,rfl,cY,eT⟩:=hf.open_
 have fy:=cY.small
 refine enter (n:=76) Tryz.func24 rfl Tryz.ntmps24 kz fun a hE=>?_
 have hW:=WOk.start w C7
 refine C1 [0,1,2] kz ?_
 let aJ:Value:=.int .i64 ah
 let aU:Value:=.int .i64 aj
 let aV:Value:=.int .i64 ak
 let aW:Value:=.int .i64 ai
 let aX:Value:=.int .i64 al
 let aY:Value:=.int .i64 am
 let aO:Value:=.int .i64 ac
 let aE:Value:=.slice eR ab.length eS
 refine B1 (M2 hW hE (d:=4) (cs:=[aJ,aU,aV,aW,aX,aY,aO,aE]) kz fun f7 io ip f8 f9 ga eX eY=>?_)
 let aA:Value:=.int .i64 n1
 let aB:Value:=.slice A6 s2.length c7
 let aC:Value:=.bool b3
 let ay:Value:=.slice A8 l4.length c9
 let aD:Value:=.slice eU u5.length eV
 refine B1 (M2 eX eY (d:=7) (cs:=[aA,aB,aC,ay,aD]) kz fun gb iq ir gc gd ge b8 eZ=>?_)
 let ae:Nat × SV:=(1,.v (.int .i64 v))
 let af:Nat × SV:=(2,.v (.bool flex))
 let ag:Nat × SV:=(4,.p 0 0)
 let az:Nat × SV:=(7,.p 1 0)
 refine B3 [2] [] [ae,af,ag,az] b8 eZ fun iu e9=>?_
 refine B4 (A4 ?_)
 refine C1 [0,1,2,3,4] kz ?_
 let fz:Value:=(.agg #[.int .i64 n1,.slice A6 s2.length c7,.bool b3,.slice A8 l4.length c9,.slice eU u5.length eV])
 refine B3 [0,1,2] [3,4] [ae,af,ag,az,(13,.v (.agg #[aJ,aU,aV,aW,aX,aY,aO,aE])),(14,.v (.int .i64 v)),(15,.v (.agg #[aA,aB,aC,ay,aD]))] b8 e9 fun iv fa=>?_
 let aP:Value:=.int .i64 v
 let fA:Value:=.agg #[.int .i64 n1,.slice A6 s2.length c7,.bool b3,.slice A8 l4.length c9,.slice eU u5.length eV]
 refine B1 (D6 fa (f:=50) (vs:=[.agg #[aJ,aU,aV,aW,aX,aY,aO,aE],aP,.agg #[aA,aB,aC,ay,aD]]) (d:=16) kz Tryz.call50 (NG ah aj ak ai al am ac ab _ _ v n1 s2 b3 l4 u5 _ _ _ _ _ _ _) ?_)
 rintro e_ iw ⟨rfl,cZ⟩
 refine ⟨_,rfl,fun ix fb=>?_⟩
 have ao:=b8.next_nil cZ
 have gg:=b8.frN cZ
 let ax:Nat × SV:=(9,.v (.bool (z1 ah aj ak ai al am ac ab v n1 s2 b3 l4 u5)))
 refine B3 [4] [] [ae,af,ag,az,ax] ao fb fun iy fc=>?_
 refine B4 (A4 ?_)
 refine wp_seq (B9 [ae,af,ag,az,ax,(19,.v (.bool (ah == 11)))] ao fc fun iz cJ=>?_)
 let aK:Value:=.bool flex
 let aZ:Value:=.bool (z1 ah aj ak ai al am ac ab v n1 s2 b3 l4 u5)
 refine E2 cJ (b:=ah == 11) kz (fun cK=>?_) (fun cK=>?_)
 ·
  have gh:ah = 11:=by simpa using cK
  refine C1 [0,1,2,3] kz ?_
  refine B3 [0,1] [2,3] [ae,af,ag,ax,(21,.v (.slice A8 l4.length c9))] ao cJ fun iA fe=>?_
  refine B1 (D6 fe (f:=51) (vs:=[ay]) (d:=22) kz Tryz.call51 (NH _ _ l4 (eW.move ao.step B2 ao.imm).le _) ?_)
  rintro e_ iB ⟨rfl,da⟩
  refine ⟨_,rfl,fun iC ff=>?_⟩
  have aR:=ao.next_nil da
  have gi:=ao.frN da
  refine B3 [3] [] [ae,af,ag,ax,(10,.v (.slice A8 ((C8 l4).length) c9))] aR ff fun iD fg=>?_
  refine B4 (A4 ?_)
  refine wp_seq (B9 [ae,af,ag,ax,(10,.v (.slice A8 ((C8 l4).length) c9)),(23,.v (.bool (z1 ah aj ak ai al am ac ab v n1 s2 b3 l4 u5)))] aR fg fun iE cL=>?_)
  let cd:Ob:=⟨f7,0,[aJ,aU,aV,aW,aX,aY,aO,aE],true⟩
  let ce:Ob:=⟨gb,0,[aA,aB,aC,ay,aD],true⟩
  let cg:Nat × SV:=(25,.v (.bool (z1 ah aj ak ai al am ac ab v n1 s2 b3 l4 u5)))
  refine E2 cL (b:=Fld.nul (Fld.mk ah aj ak ai al am ac ab) v (Tree.mk n1 s2 b3 l4 u5)) kz (fun fh=>?_) (fun fh=>?_)
  ·
   refine E4 [0] kz ?_
   let aL:Nat × SV:=(10,.v (.slice none 0 0))
   refine B3 [0] [] [ae,af,ag,ax,aL] aR cL fun iF fi=>?_
   refine B4 (A4 ?_)
   refine C1 [0,1,2,3,4,5] kz ?_
   refine B3 [0,1,2,3] [4,5] [ae,af,ag,aL,(24,.v (.bool flex)),cg,(27,.v (.int .i64 0))] aR fi fun iG fj=>?_
   refine B1 (D6 fj (f:=52) (vs:=[aK,aZ,.int .i64 0,.int .i64 4]) (d:=28) kz Tryz.call52 (CE flex (Fld.nul (Fld.mk ah aj ak ai al am ac ab) v (Tree.mk n1 s2 b3 l4 u5)) 0 4 (by first | omega | exact Nat.le_trans (N4 _) (by decide) | exact Nat.le_trans (Z6 _) (by decide) | (simp; done) | (have:=hroom; omega)) (by first | decide | omega) _) ?_)
   rintro e_ iH ⟨cW,cX,rfl,fk,fl⟩
   refine ⟨_,rfl,fun iI fm=>?_⟩
   obtain ⟨cM,gj⟩:=aR.frFresh fl (B0 cW cX 5 (D2 flex (z1 ah aj ak ai al am ac ab v n1 s2 b3 l4 u5) 0 4)) (Nat.le_refl _) fk
   refine B3 [5] [] [ae,af,ag,aL,(11,.v (.slice cW ((D2 flex (z1 ah aj ak ai al am ac ab v n1 s2 b3 l4 u5) 0 4).length) cX))] cM fm fun iJ fo=>?_
   refine B4 (A4 ?_)
   refine wp_seq ?_
   let bu:Nat × SV:=(30,.v (.int .i64 0))
   refine B9 [ae,af,ag,aL,(11,.v (.slice cW ((D2 flex (z1 ah aj ak ai al am ac ab v n1 s2 b3 l4 u5) 0 4).length) cX)),bu,(31,.v (.int .i64 0))] cM fo fun iK db=>?_
   refine wp_block ?_
   have hr2:(D2 flex (Fld.nul (Fld.mk ah aj ak ai al am ac ab) v (Tree.mk n1 s2 b3 l4 u5)) 0 4 ++ ([]:List Tree).flatMap (E3 (D4 d ab v flex) ac false flex)).length ≤ 1099511627776:=by have h_:=hroom; rw [HK ‹_› ‹_›] at h_; exact h_
   rw [List.length_append] at hr2
   have hr3:=DM ([]:List Tree) (E3 (D4 d ab v flex) ac false flex)
   have dc:(D2 flex (Fld.nul (Fld.mk ah aj ak ai al am ac ab) v (Tree.mk n1 s2 b3 l4 u5)) 0 4) = (D2 flex (Fld.nul (Fld.mk ah aj ak ai al am ac ab) v (Tree.mk n1 s2 b3 l4 u5)) 0 4 ++ (([]:List Tree).take 0).flatMap (E3 (D4 d ab v flex) ac false flex)):=by simp
   have de:=congrArg (B0 cW cX 5) dc
   obtain ⟨cm,fB⟩:=cM.rowEq 0 [B0 cW cX 5 (D2 flex (z1 ah aj ak ai al am ac ab v n1 s2 b3 l4 u5) 0 4 ++ (([]:List Tree).take 0).flatMap (E3 (D4 d ab v flex) ac false flex))] de
   rw [dc] at db
   refine wp_loop_ghost (fun n_ a_ w_=>∃ (k:Nat) (A_:Option Addr) (c_:Nat),n_ = 0 - k ∧ k ≤ 0 ∧ J1 cm 76 [cd,ce] [B0 A_ c_ 5 (D2 flex (Fld.nul (Fld.mk ah aj ak ai al am ac ab) v (Tree.mk n1 s2 b3 l4 u5)) 0 4 ++ (([]:List Tree).take k).flatMap (E3 (D4 d ab v flex) ac false flex))] [ae,af,ag,aL,(11,.v (.slice A_ ((D2 flex (Fld.nul (Fld.mk ah aj ak ai al am ac ab) v (Tree.mk n1 s2 b3 l4 u5)) 0 4 ++ (([]:List Tree).take k).flatMap (E3 (D4 d ab v flex) ac false flex)).length) c_)),bu,(31,.v (.int .i64 ((k:Nat):Int)))] a_ w_) (0) ⟨0,cW,cX,by omega,by omega,db.pk,cm,Fr.refl _ _ _⟩ ?_
   rintro gk gl gm ⟨k,A_,c_,fC,fD,df,ba,fE⟩
   refine B9 [ae,af,ag,aL,(11,.v (.slice A_ ((D2 flex (z1 ah aj ak ai al am ac ab v n1 s2 b3 l4 u5) 0 4 ++ (([]:List Tree).take k).flatMap (E3 (D4 d ab v flex) ac false flex)).length) c_)),bu,(31,.v (.int .i64 ((k:Nat):Int))),(32,.v (.bool (decide (((k:Nat):Int) < 0))))] ba df fun gn cq=>?_
   refine wp_seq (G6 cq (b:=decide (((k:Nat):Int) < 0)) kz (decide_eq_false (by omega)) ?_)
   refine wp_exit (F2 (F2 (I7 (A4 (B9 [(8,.v (.slice A_ ((D2 flex (z1 ah aj ak ai al am ac ab v n1 s2 b3 l4 u5) 0 4 ++ (([]:List Tree).take k).flatMap (E3 (D4 d ab v flex) ac false flex)).length) c_))] ba cq fun gp dg=>?_)))))
   refine wp_ret (F5 (D1 dg ba.cells (v:=.slice A_ ((D2 flex (z1 ah aj ak ai al am ac ab v n1 s2 b3 l4 u5) 0 4 ++ (([]:List Tree).take k).flatMap (E3 (D4 d ab v flex) ac false flex)).length) c_) kz ?_))
   exact N3 ba (k:=0) rfl (by rw [HK ‹_› ‹_›]; simp)
  refine wp_skip (A4 (C1 [0,1,2,3,4,5] kz ?_))
  refine B3 [0,1,2,3] [4,5] [ae,af,ag,(10,.v (.slice A8 ((C8 l4).length) c9)),(24,.v (.bool flex)),cg,(27,.v (.int .i64 (((C8 l4).length:Nat):Int)))] aR cL fun gq dh=>?_
  refine B1 (D6 dh (f:=52) (vs:=[aK,aZ,.int .i64 (((C8 l4).length:Nat):Int),.int .i64 4]) (d:=28) kz Tryz.call52 (CE flex (Fld.nul (Fld.mk ah aj ak ai al am ac ab) v (Tree.mk n1 s2 b3 l4 u5)) ((C8 l4).length) 4 (by first | omega | exact Nat.le_trans (N4 _) (by decide) | exact Nat.le_trans (Z6 _) (by decide) | (simp; done) | (have:=hroom; omega)) (by first | decide | omega) _) ?_)
  rintro e_ gt ⟨bq,bt,rfl,di,dj⟩
  refine ⟨_,rfl,fun gu dl=>?_⟩
  obtain ⟨bw,fF⟩:=aR.frFresh dj (B0 bq bt 5 (D2 flex (z1 ah aj ak ai al am ac ab v n1 s2 b3 l4 u5) ((C8 l4).length) 4)) (Nat.le_refl _) di
  refine B3 [5] [] [ae,af,ag,(10,.v (.slice A8 ((C8 l4).length) c9)),(11,.v (.slice bq ((D2 flex (z1 ah aj ak ai al am ac ab v n1 s2 b3 l4 u5) ((C8 l4).length) 4).length) bt))] bw dl fun gv dp=>?_
  refine B4 (A4 ?_)
  refine wp_seq (B9 [ae,af,ag,(10,.v (.slice A8 ((C8 l4).length) c9)),(11,.v (.slice bq ((D2 flex (z1 ah aj ak ai al am ac ab v n1 s2 b3 l4 u5) ((C8 l4).length) 4).length) bt)),(30,.v (.int .i64 (((C8 l4).length:Nat):Int))),(31,.v (.int .i64 0))] bw dp fun gw cr=>?_)
  refine wp_block ?_
  have hr2:(D2 flex (Fld.nul (Fld.mk ah aj ak ai al am ac ab) v (Tree.mk n1 s2 b3 l4 u5)) ((C8 l4).length) 4 ++ (C8 l4).flatMap (E3 (D4 d ab v flex) ac false flex)).length ≤ 1099511627776:=by have h_:=hroom; rw [HL ‹_› ‹_›] at h_; exact h_
  rw [List.length_append] at hr2
  have hr3:=DM (C8 l4) (E3 (D4 d ab v flex) ac false flex)
  have hsm3:(C8 l4).length ≤ 32767:=by simp only [C8,List.length_take]; omega
  have cu:(D2 flex (Fld.nul (Fld.mk ah aj ak ai al am ac ab) v (Tree.mk n1 s2 b3 l4 u5)) ((C8 l4).length) 4) = (D2 flex (Fld.nul (Fld.mk ah aj ak ai al am ac ab) v (Tree.mk n1 s2 b3 l4 u5)) ((C8 l4).length) 4 ++ ((C8 l4).take 0).flatMap (E3 (D4 d ab v flex) ac false flex)):=by simp
  have dq:=congrArg (B0 bq bt 5) cu
  obtain ⟨cv,fG⟩:=bw.rowEq 0 [B0 bq bt 5 (D2 flex (z1 ah aj ak ai al am ac ab v n1 s2 b3 l4 u5) ((C8 l4).length) 4 ++ ((C8 l4).take 0).flatMap (E3 (D4 d ab v flex) ac false flex))] dq
  rw [cu] at cr
  refine wp_loop_ghost (fun n_ a_ w_=>∃ (k:Nat) (A_:Option Addr) (c_:Nat),n_ = (C8 l4).length - k ∧ k ≤ (C8 l4).length ∧ J1 cv 76 [cd,ce] [B0 A_ c_ 5 (D2 flex (Fld.nul (Fld.mk ah aj ak ai al am ac ab) v (Tree.mk n1 s2 b3 l4 u5)) ((C8 l4).length) 4 ++ ((C8 l4).take k).flatMap (E3 (D4 d ab v flex) ac false flex))] [ae,af,ag,(10,.v (.slice A8 ((C8 l4).length) c9)),(11,.v (.slice A_ ((D2 flex (Fld.nul (Fld.mk ah aj ak ai al am ac ab) v (Tree.mk n1 s2 b3 l4 u5)) ((C8 l4).length) 4 ++ ((C8 l4).take k).flatMap (E3 (D4 d ab v flex) ac false flex)).length) c_)),(30,.v (.int .i64 (((C8 l4).length:Nat):Int))),(31,.v (.int .i64 ((k:Nat):Int)))] a_ w_) ((C8 l4).length) ⟨0,bq,bt,by omega,by omega,cr.pk,cv,Fr.refl _ _ _⟩ ?_
  rintro gx gy gz ⟨k,A_,c_,fH,fI,dr,aM,dt⟩
  let aN:Nat × SV:=(31,.v (.int .i64 ((k:Nat):Int)))
  refine B9 [ae,af,ag,(10,.v (.slice A8 ((C8 l4).length) c9)),(11,.v (.slice A_ ((D2 flex (z1 ah aj ak ai al am ac ab v n1 s2 b3 l4 u5) ((C8 l4).length) 4 ++ ((C8 l4).take k).flatMap (E3 (D4 d ab v flex) ac false flex)).length) c_)),(30,.v (.int .i64 (((C8 l4).length:Nat):Int))),aN,(32,.v (.bool (decide (((k:Nat):Int) < (((C8 l4).length:Nat):Int)))))] aM dr fun gA bx=>?_
  refine wp_seq (E2 bx (b:=decide (((k:Nat):Int) < (((C8 l4).length:Nat):Int))) kz (fun bz=>?_) (fun bz=>?_))
  ·
   have fJ:=of_decide_eq_true bz
   refine wp_skip (A4 (wp_seq (wp_block (B9 [ae,af,ag,(10,.v (.slice A8 ((C8 l4).length) c9)),(11,.v (.slice A_ ((D2 flex (z1 ah aj ak ai al am ac ab v n1 s2 b3 l4 u5) ((C8 l4).length) 4 ++ ((C8 l4).take k).flatMap (E3 (D4 d ab v flex) ac false flex)).length) c_)),(12,.v (.int .i64 ((k:Nat):Int))),(30,.v (.int .i64 (((C8 l4).length:Nat):Int))),aN] aM bx fun gB du=>?_))))
   refine DB 13 kz aM fun gC dv aF bA=>?_
   let bB:Nat × SV:=(36,.v (.int .i64 ac))
   let bC:Nat × SV:=(38,.v (.slice eR ab.length eS))
   let bD:Nat × SV:=(39,.v (.int .i64 v))
   let bE:Nat × SV:=(40,.v (.bool flex))
   let bF:Nat × SV:=(42,.v (.int .i64 ((k:Nat):Int)))
   refine G4 [0,1,2,3,4,5,6,7,8] [ae,af,ag,(10,.v (.slice A8 ((C8 l4).length) c9)),(11,.v (.slice A_ ((D2 flex (z1 ah aj ak ai al am ac ab v n1 s2 b3 l4 u5) ((C8 l4).length) 4 ++ ((C8 l4).take k).flatMap (E3 (D4 d ab v flex) ac false flex)).length) c_)),(30,.v (.int .i64 (((C8 l4).length:Nat):Int))),aN,(34,.v (.slice A_ ((D2 flex (z1 ah aj ak ai al am ac ab v n1 s2 b3 l4 u5) ((C8 l4).length) 4 ++ ((C8 l4).take k).flatMap (E3 (D4 d ab v flex) ac false flex)).length) c_)),bB,bC,bD,bE,(41,.v (.slice A8 ((C8 l4).length) c9)),bF] 5 (D8 (B6 (B6 (D8 (B6 (B6 E0)))))) (fun _ h=>h.cells) bA du fun gD dw=>?_
   obtain ⟨dx,dy,dA,fK,bG⟩:=Slots.get (KI eW) (i:=k) (by omega)
   obtain ⟨fq,bd⟩:∃ x,(C8 l4)[k]? = some x:=⟨_,List.getElem?_eq_getElem (by omega)⟩
   have bH:=(KJ f5) k fq bd
   obtain ⟨ar,au,ap,av,aw,dB,dC,dD,dE,dF,dG,fL,rfl,bI,fr,ft,gE,gF⟩:=bH.open_
   rw [bI] at bH
   have fu:=fr.small
   have fv:=ft.small
   rw [bI] at bG
   refine P1 dw (i:=9) (t:=23) (A:=A8) (m:=((C8 l4).length)) (q:=((k:Nat):Int)) (d:=43) kz (e:=26) (size:=5) (bytes:=88) kz dA rfl (by omega) kz kz (D8 (B6 (B6 (D8 (B6 (B6 E0)))))) bA fun gG dH=>?_
   let bf:Value:=.int .i64 ar
   let bg:Value:=.slice dB au.length dC
   let bh:Value:=.slice dD av.length dE
   let bj:Value:=.slice dF aw.length dG
   let fM:Value:=.agg #[.int .i64 ar,.slice dB au.length dC,.bool ap,.slice dD av.length dE,.slice dF aw.length dG]
   refine O2 dH (i:=10) (t:=26) (b:=dx) (o:=dy + k * 5) (d:=44) kz (cs:=[bf,bg,.bool ap,bh,bj]) (v:=.agg #[bf,bg,.bool ap,bh,bj]) kz (fun w' h'=>(AtF.move bG (TT.step0 aF h') B2 F3).at_) kz kz (D8 (B6 (B6 (D8 (B6 (B6 E0)))))) bA fun gH dI=>?_
   refine H6 (i:=11) kz (D6 dI (f:=53) (vs:=[aO,aE,.bool false,aP,aK,.agg #[bf,bg,.bool ap,bh,bj]]) (d:=45) kz Tryz.call53 (GN hp ac _ _ ab false v flex _ (Tree.mk ar au ap av aw) _ _ ⟨bZ,(cY.move aF.step B2 aF.imm),(fun i_ x_ h_=>((eT i_ x_ h_).move aF.step B2 aF.imm))⟩ hd (bH.move aF.step B2 aF.imm) (by have:=HJ (g:=E3 (D4 d ab v flex) ac false flex) bd; omega)) ?_)
   rintro e_ gI ⟨bJ,bK,rfl,dJ,dK⟩
   refine ⟨_,rfl,fun gJ dL=>?_⟩
   obtain ⟨bk,bL⟩:=aF.frFresh dK (B0 bJ bK 5 (E3 (D4 d ab v flex) ac false flex (Tree.mk ar au ap av aw))) (Nat.le_refl _) dJ
   have dM:=TT.ofW bL bk
   refine ⟨fun _=>dM,?_⟩
   refine H6 (i:=12) kz (N8 bk dL (k:=0) (d:=46) (t:=22) (e:=5) (size:=1) (bytes:=1) (A:=A_) (As:=bJ) (m0:=((D2 flex (Fld.nul (Fld.mk ah aj ak ai al am ac ab) v (Tree.mk n1 s2 b3 l4 u5)) ((C8 l4).length) 4 ++ ((C8 l4).take k).flatMap (E3 (D4 d ab v flex) ac false flex)).length)) (c:=c_) (m:=((E3 (D4 d ab v flex) ac false flex (Tree.mk ar au ap av aw)).length)) (cs:=bK) (xs:=(bc (D2 flex (Fld.nul (Fld.mk ah aj ak ai al am ac ab) v (Tree.mk n1 s2 b3 l4 u5)) ((C8 l4).length) 4 ++ ((C8 l4).take k).flatMap (E3 (D4 d ab v flex) ac false flex)))) (news:=bc (E3 (D4 d ab v flex) ac false flex (Tree.mk ar au ap av aw))) kz kz rfl (S3 (bk.own 1 _ rfl) (Q8 _)) (U5 (bk.own 1 _ rfl)) (by rw [List.length_append]; have h8_:=hr3 k; have h9_:=HJ (g:=E3 (D4 d ab v flex) ac false flex) bd; omega) fun aH aI gK gL cw dN dO=>?_)
   have dP:(⟨aH,aI,5,1,(D2 flex (z1 ah aj ak ai al am ac ab v n1 s2 b3 l4 u5) ((C8 l4).length) 4 ++ ((C8 l4).take k).flatMap (E3 (D4 d ab v flex) ac false flex)).length + (E3 (D4 d ab v flex) ac false flex (Tree.mk ar au ap av aw)).length,bc (D2 flex (z1 ah aj ak ai al am ac ab v n1 s2 b3 l4 u5) ((C8 l4).length) 4 ++ ((C8 l4).take k).flatMap (E3 (D4 d ab v flex) ac false flex)) ++ bc (E3 (D4 d ab v flex) ac false flex (Tree.mk ar au ap av aw))⟩:Rw) = B0 aH aI 5 (D2 flex (z1 ah aj ak ai al am ac ab v n1 s2 b3 l4 u5) ((C8 l4).length) 4 ++ ((C8 l4).take k).flatMap (E3 (D4 d ab v flex) ac false flex) ++ (E3 (D4 d ab v flex) ac false flex (Tree.mk ar au ap av aw))):=K9 (rfl) rfl
   obtain ⟨bn,cy⟩:=dN.rowEq 0 [B0 aH aI 5 (D2 flex (z1 ah aj ak ai al am ac ab v n1 s2 b3 l4 u5) ((C8 l4).length) 4 ++ ((C8 l4).take k).flatMap (E3 (D4 d ab v flex) ac false flex) ++ (E3 (D4 d ab v flex) ac false flex (Tree.mk ar au ap av aw))),B0 bJ bK 5 (E3 (D4 d ab v flex) ac false flex (Tree.mk ar au ap av aw))] dP
   let cz:Nat × SV:=(43,.v (.pointer (some ⟨dx,dy + k * 5,none⟩)))
   let cA:Nat × SV:=(44,.v (.agg #[bf,bg,.bool ap,bh,bj]))
   have dQ:=EnvOk.pick dO (ks:=[1,2,4,10,11,30,31,34,36,38,39,40,41,42,43,44,45,46]) (env':=[ae,af,ag,(10,.v (.slice A8 ((C8 l4).length) c9)),(11,.v (.slice A_ ((D2 flex (z1 ah aj ak ai al am ac ab v n1 s2 b3 l4 u5) ((C8 l4).length) 4 ++ ((C8 l4).take k).flatMap (E3 (D4 d ab v flex) ac false flex)).length) c_)),(30,.v (.int .i64 (((C8 l4).length:Nat):Int))),aN,(34,.v (.slice A_ ((D2 flex (z1 ah aj ak ai al am ac ab v n1 s2 b3 l4 u5) ((C8 l4).length) 4 ++ ((C8 l4).take k).flatMap (E3 (D4 d ab v flex) ac false flex)).length) c_)),bB,bC,bD,bE,(41,.v (.slice A8 ((C8 l4).length) c9)),bF,cz,cA,(45,.v (.slice bJ ((E3 (D4 d ab v flex) ac false flex (Tree.mk ar au ap av aw)).length) bK)),(46,.v (.slice aH ((D2 flex (z1 ah aj ak ai al am ac ab v n1 s2 b3 l4 u5) ((C8 l4).length) 4 ++ ((C8 l4).take k).flatMap (E3 (D4 d ab v flex) ac false flex)).length + (E3 (D4 d ab v flex) ac false flex (Tree.mk ar au ap av aw)).length) aI))]) kz
   have dR:=dQ.cast (env':=[ae,af,ag,(10,.v (.slice A8 ((C8 l4).length) c9)),(11,.v (.slice A_ ((D2 flex (Fld.nul (Fld.mk ah aj ak ai al am ac ab) v (Tree.mk n1 s2 b3 l4 u5)) ((C8 l4).length) 4 ++ ((C8 l4).take k).flatMap (E3 (D4 d ab v flex) ac false flex)).length) c_)),(30,.v (.int .i64 (((C8 l4).length:Nat):Int))),aN,(34,.v (.slice A_ ((D2 flex (Fld.nul (Fld.mk ah aj ak ai al am ac ab) v (Tree.mk n1 s2 b3 l4 u5)) ((C8 l4).length) 4 ++ ((C8 l4).take k).flatMap (E3 (D4 d ab v flex) ac false flex)).length) c_)),bB,bC,bD,bE,(41,.v (.slice A8 ((C8 l4).length) c9)),bF,cz,cA,(45,.v (.slice bJ ((E3 (D4 d ab v flex) ac false flex (Tree.mk ar au ap av aw)).length) bK)),(46,.v (.slice aH ((D2 flex (Fld.nul (Fld.mk ah aj ak ai al am ac ab) v (Tree.mk n1 s2 b3 l4 u5)) ((C8 l4).length) 4 ++ ((C8 l4).take k).flatMap (E3 (D4 d ab v flex) ac false flex) ++ (E3 (D4 d ab v flex) ac false flex (Tree.mk ar au ap av aw))).length) aI))]) (by simp only [List.length_append,List.length_cons,List.length_nil,Nat.zero_add])
   have dS:=TT.ofW ((bL.trans cw).trans cy) bn
   refine ⟨fun _=>dS,?_⟩
   refine H6 (i:=13) kz (W1 [1,2,4,10,11,30,31] bn.cells dR (env':=[ae,af,ag,(10,.v (.slice A8 ((C8 l4).length) c9)),(11,.v (.slice aH ((D2 flex (z1 ah aj ak ai al am ac ab v n1 s2 b3 l4 u5) ((C8 l4).length) 4 ++ ((C8 l4).take k).flatMap (E3 (D4 d ab v flex) ac false flex) ++ (E3 (D4 d ab v flex) ac false flex (Tree.mk ar au ap av aw))).length) aI)),(30,.v (.int .i64 (((C8 l4).length:Nat):Int))),aN]) kz fun gM dT=>?_)
   refine ⟨fun h=>absurd rfl h,?_⟩
   refine L6 kz ?_ _
   refine H7 (A4 (E4 [0,1] kz ?_))
   refine B3 [0,1] [] [ae,af,ag,(10,.v (.slice A8 ((C8 l4).length) c9)),(11,.v (.slice aH ((D2 flex (z1 ah aj ak ai al am ac ab v n1 s2 b3 l4 u5) ((C8 l4).length) 4 ++ ((C8 l4).take k).flatMap (E3 (D4 d ab v flex) ac false flex) ++ (E3 (D4 d ab v flex) ac false flex (Tree.mk ar au ap av aw))).length) aI)),(30,.v (.int .i64 (((C8 l4).length:Nat):Int))),(31,.v (.int .i64 (IntKind.i64.wrap (((k:Nat):Int) + 1))))] bn dT fun gN bM=>?_
   refine B4 (A4 ?_)
   obtain ⟨dU,dV⟩:=bn.cutR 1 [B0 aH aI 5 (D2 flex (z1 ah aj ak ai al am ac ab v n1 s2 b3 l4 u5) ((C8 l4).length) 4 ++ ((C8 l4).take k).flatMap (E3 (D4 d ab v flex) ac false flex) ++ (E3 (D4 d ab v flex) ac false flex (Tree.mk ar au ap av aw)))]
   have cB:(D2 flex (Fld.nul (Fld.mk ah aj ak ai al am ac ab) v (Tree.mk n1 s2 b3 l4 u5)) ((C8 l4).length) 4 ++ ((C8 l4).take k).flatMap (E3 (D4 d ab v flex) ac false flex) ++ (E3 (D4 d ab v flex) ac false flex (Tree.mk ar au ap av aw))) = (D2 flex (Fld.nul (Fld.mk ah aj ak ai al am ac ab) v (Tree.mk n1 s2 b3 l4 u5)) ((C8 l4).length) 4 ++ ((C8 l4).take (k + 1)).flatMap (E3 (D4 d ab v flex) ac false flex)):=by rw [FC bd,List.append_assoc]
   have dW:=congrArg (B0 aH aI 5) cB
   obtain ⟨dX,dY⟩:=dU.rowEq 0 [B0 aH aI 5 (D2 flex (z1 ah aj ak ai al am ac ab v n1 s2 b3 l4 u5) ((C8 l4).length) 4 ++ ((C8 l4).take (k + 1)).flatMap (E3 (D4 d ab v flex) ac false flex))] dW
   rw [cB] at bM
   have dZ:IntKind.i64.wrap (((k:Nat):Int) + 1) = ((k + 1:Nat):Int):=N0 (by omega)
   rw [dZ] at bM
   exact ⟨(C8 l4).length - (k + 1),by omega,k + 1,aH,aI,rfl,by omega,bM.pk,dX,((((((dt.trans dv).trans bL).trans cw).trans cy).trans dV).trans dY)⟩
  have fN:=of_decide_eq_false bz
  refine wp_exit (F2 (F2 (I7 (A4 (B9 [(8,.v (.slice A_ ((D2 flex (z1 ah aj ak ai al am ac ab v n1 s2 b3 l4 u5) ((C8 l4).length) 4 ++ ((C8 l4).take k).flatMap (E3 (D4 d ab v flex) ac false flex)).length) c_))] aM bx fun gO d4=>?_)))))
  refine wp_ret (F5 (D1 d4 aM.cells (v:=.slice A_ ((D2 flex (z1 ah aj ak ai al am ac ab v n1 s2 b3 l4 u5) ((C8 l4).length) 4 ++ ((C8 l4).take k).flatMap (E3 (D4 d ab v flex) ac false flex)).length) c_) kz ?_))
  have hkk:(C8 l4).take k = C8 l4:=List.take_of_length_le (by omega)
  exact N3 aM (k:=0) rfl (by rw [hkk,HL ‹_› ‹_›]; rfl)
 have fO:ah ≠ 11:=by simpa using cK
 refine wp_skip (A4 (wp_seq (C1 [0,1,2,3,4,5,6,7] kz ?_)))
 refine B3 [0,1,2,3] [4,5,6,7] [ae,af,ag,az,ax,(52,.v (.bool (ah == 10)))] ao cJ fun gP cC=>?_
 let cE:B8:=[(68,.v (.int .i64 ah)),(70,.v (.slice eR ab.length eS)),(71,.v (.bool (z1 ah aj ak ai al am ac ab v n1 s2 b3 l4 u5))),(72,.v (.int .i64 v)),(73,.v (.bool flex)),(74,.v (.agg #[aA,aB,aC,ay,aD]))]
 refine (Bool.eq_false_or_eq_true (ah == 10)).elim (fun aQ=>?_) (fun aQ=>?_)
 ·
  have fP:ah = 10:=by simpa using aQ
  have d5:=cC
  rw [aQ] at d5
  refine B3 [4,5,6,7] [] [ae,af,ag,az,ax,(56,.v (.bool (decide (ai ≥ 0))))] ao d5 fun gQ bN=>?_
  refine B4 (A4 ?_)
  refine E2 bN (b:=decide (ai ≥ 0)) kz (fun bO=>?_) (fun bO=>?_)
  ·
   have fQ:=of_decide_eq_true bO
   refine wp_seq (B9 [ae,af,ag,az,(57,.v (.bool (z1 ah aj ak ai al am ac ab v n1 s2 b3 l4 u5)))] ao bN fun gR bP=>?_)
   refine E2 bP (b:=Fld.nul (Fld.mk ah aj ak ai al am ac ab) v (Tree.mk n1 s2 b3 l4 u5)) kz (fun d6=>?_) (fun d6=>?_)
   ·
    refine C1 [0,1] kz ?_
    refine B1 (D6 bP (f:=54) (vs:=[.int .i64 (-1),.int .i64 1]) (d:=58) kz Tryz.call54 (BN (-1) 1 (by first | decide | exact S4 _ | omega) _) ?_)
    rintro e_ gS ⟨cN,cO,rfl,d7,d8⟩
    refine ⟨_,rfl,fun gT d9=>?_⟩
    obtain ⟨bQ,fR⟩:=ao.frFresh d8 (B0 cN cO 5 (be 1 (-1))) (Nat.le_refl _) d7
    refine B3 [1] [] [(8,.v (.slice cN ((be 1 (-1)).length) cO))] bQ d9 fun gU ea=>?_
    refine B4 (A4 ?_)
    refine wp_ret (F5 (F5 (D1 ea bQ.cells (v:=.slice cN ((be 1 (-1)).length) cO) kz ?_)))
    exact N3 bQ (k:=0) rfl (by first | rw [Cl ‹_› ‹_›] | rw [Ck ‹_› ‹_› ‹_›] | rw [Cj ‹_› ‹_› ‹_› ‹_›] | rw [DN ‹_› ‹_› ‹_› ‹_›])
   refine wp_skip (A4 (X8 8 kz ao fun gV fS eb ec=>?_))
   let bR:Nat × SV:=(61,.v (.slice eR ab.length eS))
   let bS:Nat × SV:=(62,.v (.int .i64 v))
   let bT:Nat × SV:=(64,.v (.agg #[aA,aB,aC,ay,aD]))
   refine G4 [1,2,3,4,5] [bR,bS,(63,.v (.bool flex)),bT] 4 (B6 (B6 E0)) (fun _ h=>h.cells) ec bP fun gW ee=>?_
   refine H6 (i:=0) kz (D6 ee (f:=54) (vs:=[.int .i64 1,.int .i64 1]) (d:=59) kz Tryz.call54 (BN 1 1 (by first | decide | exact S4 _ | omega) _) ?_)
   rintro e_ gX ⟨cP,cQ,rfl,ef,eg⟩
   refine ⟨_,rfl,fun gY eh=>?_⟩
   obtain ⟨aG,bU⟩:=eb.frFresh eg (B0 cP cQ 5 (be 1 1)) (Nat.le_refl _) ef
   have ei:=TT.ofW bU aG
   refine ⟨fun _=>ei,?_⟩
   refine H6 (i:=6) kz (D6 eh (f:=16) (vs:=[aE,aP,aK,.agg #[aA,aB,aC,ay,aD]]) (d:=65) kz Tryz.call16 (hp _ _ ab v flex _ (Tree.mk n1 s2 b3 l4 u5) _ _ ⟨bZ,(cY.move aG.step B2 aG.imm),(fun i_ x_ h_=>((eT i_ x_ h_).move aG.step B2 aG.imm))⟩ hd (ht.move aG.step B2 aG.imm) (by have h9_:=hroom; rw [Cj ‹_› ‹_› ‹_› ‹_›,List.length_append] at h9_; omega)) ?_)
   rintro e_ gZ ⟨bV,bW,rfl,ej,ek⟩
   refine ⟨_,rfl,fun hC em=>?_⟩
   obtain ⟨bo,cG⟩:=aG.frFresh ek (B0 bV bW 5 (D4 d ab v flex (Tree.mk n1 s2 b3 l4 u5))) (Nat.le_refl _) ej
   have eo:=TT.ofW (bU.trans cG) bo
   refine ⟨fun _=>eo,?_⟩
   refine H6 (i:=7) kz (N8 bo em (k:=0) (d:=66) (t:=22) (e:=5) (size:=1) (bytes:=1) (A:=cP) (As:=bV) (m0:=((be 1 1).length)) (c:=cQ) (m:=((D4 d ab v flex (Tree.mk n1 s2 b3 l4 u5)).length)) (cs:=bW) (xs:=(bc (be 1 1))) (news:=bc (D4 d ab v flex (Tree.mk n1 s2 b3 l4 u5))) kz kz rfl (S3 (bo.own 1 _ rfl) (Q8 _)) (U5 (bo.own 1 _ rfl)) (by have h9_:=hroom; rw [Cj ‹_› ‹_› ‹_› ‹_›,List.length_append] at h9_; omega) fun aS aT hJ hK eu ev ew=>?_)
   have ey:(⟨aS,aT,5,1,(be 1 1).length + (D4 d ab v flex (Tree.mk n1 s2 b3 l4 u5)).length,bc (be 1 1) ++ bc (D4 d ab v flex (Tree.mk n1 s2 b3 l4 u5))⟩:Rw) = B0 aS aT 5 (be 1 1 ++ (D4 d ab v flex (Tree.mk n1 s2 b3 l4 u5))):=K9 (rfl) rfl
   obtain ⟨bp,ez⟩:=ev.rowEq 0 [B0 aS aT 5 (be 1 1 ++ (D4 d ab v flex (Tree.mk n1 s2 b3 l4 u5))),B0 bV bW 5 (D4 d ab v flex (Tree.mk n1 s2 b3 l4 u5))] ey
   let cH:Nat × SV:=(59,.v (.slice cP ((be 1 1).length) cQ))
   have eB:=EnvOk.pick ew (ks:=[61,62,63,64,59,65,66]) (env':=[bR,bS,(63,.v (.bool flex)),bT,cH,(65,.v (.slice bV ((D4 d ab v flex (Tree.mk n1 s2 b3 l4 u5)).length) bW)),(66,.v (.slice aS ((be 1 1).length + (D4 d ab v flex (Tree.mk n1 s2 b3 l4 u5)).length) aT))]) kz
   have eC:=eB.cast (env':=[bR,bS,(63,.v (.bool flex)),bT,cH,(65,.v (.slice bV ((D4 d ab v flex (Tree.mk n1 s2 b3 l4 u5)).length) bW)),(66,.v (.slice aS ((be 1 1 ++ (D4 d ab v flex (Tree.mk n1 s2 b3 l4 u5))).length) aT))]) (by simp only [List.length_append,List.length_cons,List.length_nil,Nat.zero_add])
   have eD:=TT.ofW (((bU.trans cG).trans eu).trans ez) bp
   refine ⟨fun _=>eD,?_⟩
   refine H6 (i:=8) kz (W1 [8] bp.cells eC (env':=[(8,.v (.slice aS ((be 1 1 ++ (D4 d ab v flex (Tree.mk n1 s2 b3 l4 u5))).length) aT))]) kz fun hY eE=>?_)
   refine ⟨fun h=>absurd rfl h,?_⟩
   refine L6 kz ?_ _
   refine A4 (wp_ret (F5 (D1 eE bp.cells (v:=.slice aS ((be 1 1 ++ (D4 d ab v flex (Tree.mk n1 s2 b3 l4 u5))).length) aT) kz ?_)))
   exact N3 bp (k:=0) rfl (by first | rw [Cl ‹_› ‹_›] | rw [Ck ‹_› ‹_› ‹_›] | rw [Cj ‹_› ‹_› ‹_› ‹_›] | rw [DN ‹_› ‹_› ‹_› ‹_›])
  have fT:=of_decide_eq_false bO
  refine wp_skip (A4 (C1 [0,1,2,3,4,5,6,7,8,9] kz ?_))
  refine B3 [0,1,2,3,4,5,6,7] [8,9] cE ao bN fun hZ eF=>?_
  refine B1 (D6 eF (f:=53) (vs:=[aJ,aE,aZ,aP,aK,.agg #[aA,aB,aC,ay,aD]]) (d:=75) kz Tryz.call53 (GN hp ah _ _ ab (Fld.nul (Fld.mk ah aj ak ai al am ac ab) v (Tree.mk n1 s2 b3 l4 u5)) v flex _ (Tree.mk n1 s2 b3 l4 u5) _ _ ⟨bZ,(cY.move ao.step B2 ao.imm),(fun i_ x_ h_=>((eT i_ x_ h_).move ao.step B2 ao.imm))⟩ hd (ht.move ao.step B2 ao.imm) (by have h_:=hroom; (first | rw [Cl ‹_› ‹_›] at h_ | rw [Ck ‹_› ‹_› ‹_›] at h_); exact h_)) ?_)
  rintro e_ ia ⟨cR,cS,rfl,eG,eH⟩
  refine ⟨_,rfl,fun ib eI=>?_⟩
  obtain ⟨bX,fV⟩:=ao.frFresh eH (B0 cR cS 5 (E3 (D4 d ab v flex) ah (z1 ah aj ak ai al am ac ab v n1 s2 b3 l4 u5) flex (Tree.mk n1 s2 b3 l4 u5))) (Nat.le_refl _) eG
  refine B3 [9] [] [(8,.v (.slice cR ((E3 (D4 d ab v flex) ah (z1 ah aj ak ai al am ac ab v n1 s2 b3 l4 u5) flex (Tree.mk n1 s2 b3 l4 u5)).length) cS))] bX eI fun ic eJ=>?_
  refine B4 (A4 ?_)
  refine wp_ret (D1 eJ bX.cells (v:=.slice cR ((E3 (D4 d ab v flex) ah (z1 ah aj ak ai al am ac ab v n1 s2 b3 l4 u5) flex (Tree.mk n1 s2 b3 l4 u5)).length) cS) kz ?_)
  exact N3 bX (k:=0) rfl (by first | rw [Cl ‹_› ‹_›] | rw [Ck ‹_› ‹_› ‹_›] | rw [Cj ‹_› ‹_› ‹_› ‹_›] | rw [DN ‹_› ‹_› ‹_› ‹_›])
 have fW:ah ≠ 10:=by simpa using aQ
 have eK:=cC.cast (env':=[ae,af,ag,az,ax,(52,.v (.bool false))]) (by rw [aQ])
 refine B3 [4,5,6,7] [] [ae,af,ag,az,ax,(56,.v (.bool false))] ao eK fun ig cI=>?_
 refine B4 (A4 ?_)
 refine G6 cI (b:=false) kz rfl ?_
 refine wp_skip (A4 (C1 [0,1,2,3,4,5,6,7,8,9] kz ?_))
 refine B3 [0,1,2,3,4,5,6,7] [8,9] cE ao cI fun ii eM=>?_
 refine B1 (D6 eM (f:=53) (vs:=[aJ,aE,aZ,aP,aK,.agg #[aA,aB,aC,ay,aD]]) (d:=75) kz Tryz.call53 (GN hp ah _ _ ab (Fld.nul (Fld.mk ah aj ak ai al am ac ab) v (Tree.mk n1 s2 b3 l4 u5)) v flex _ (Tree.mk n1 s2 b3 l4 u5) _ _ ⟨bZ,(cY.move ao.step B2 ao.imm),(fun i_ x_ h_=>((eT i_ x_ h_).move ao.step B2 ao.imm))⟩ hd (ht.move ao.step B2 ao.imm) (by have h_:=hroom; (first | rw [Cl ‹_› ‹_›] at h_ | rw [Ck ‹_› ‹_› ‹_›] at h_); exact h_)) ?_)
 rintro e_ ij ⟨cU,cV,rfl,eN,eO⟩
 refine ⟨_,rfl,fun ik eP=>?_⟩
 obtain ⟨bY,fX⟩:=ao.frFresh eO (B0 cU cV 5 (E3 (D4 d ab v flex) ah (z1 ah aj ak ai al am ac ab v n1 s2 b3 l4 u5) flex (Tree.mk n1 s2 b3 l4 u5))) (Nat.le_refl _) eN
 refine B3 [9] [] [(8,.v (.slice cU ((E3 (D4 d ab v flex) ah (z1 ah aj ak ai al am ac ab v n1 s2 b3 l4 u5) flex (Tree.mk n1 s2 b3 l4 u5)).length) cV))] bY eP fun il eQ=>?_
 refine B4 (A4 ?_)
 refine wp_ret (D1 eQ bY.cells (v:=.slice cU ((E3 (D4 d ab v flex) ah (z1 ah aj ak ai al am ac ab v n1 s2 b3 l4 u5) flex (Tree.mk n1 s2 b3 l4 u5)).length) cV) kz ?_)
 exact N3 bY (k:=0) rfl (by first | rw [Cl ‹_› ‹_›] | rw [Ck ‹_› ‹_› ‹_›] | rw [Cj ‹_› ‹_› ‹_› ‹_›] | rw [DN ‹_› ‹_› ‹_› ‹_›])
theorem Jz (Af:Option Addr) (cf:Nat) (l:List Fld) (A:Option Addr) (c:Nat) (u:List (Int × Bs)) (w:World) (F:Nat → Nat → Prop) (hl:FldsR w F Af cf l) (hu:TagsR w F A c u) :
  Calls Tryz.prog 29 #[.slice Af l.length cf,.slice A u.length c] w (Hy w F (C6 l u)):=by
 obtain ⟨xf,hf1,hf2⟩:=hl.ex
 obtain ⟨xu,hu1,hu2⟩:=hu.ex
 have hsmu:=hu1.small
 have hule:(u.take 32767).length ≤ 32767:=by rw [List.length_take]; omega
 refine enter (n:=85) Tryz.func29 rfl Tryz.ntmps29 kz fun a hE=>?_
 have hW:=WOk.start w C7
 let bd:Nat × SV:=(1,.v (.slice A u.length c))
 refine B9 [(0,.v (.slice Af l.length cf)),bd] hW hE fun a1 hE2=>?_
 refine C1 [0,1,2] kz ?_
 refine B3 [0] [1,2] [bd,(11,.v (.slice Af l.length cf))] hW hE2 fun a3 hE4=>?_
 refine B1 (D6 hE4 (f:=26) (vs:=[.slice Af l.length cf]) (d:=12) kz Tryz.call26 (Jy _ _ l _ _ ⟨xf,(hf1.move hW.step B2 hW.imm),(fun i_ x_ h_=>((hf2 i_ x_ h_).move hW.step B2 hW.imm))⟩) ?_)
 rintro e_ w6 ⟨rfl,hs5⟩
 refine ⟨_,rfl,fun a7 hE8=>?_⟩
 have hW9:=hW.next_nil hs5
 have f7:=hW.frN hs5
 refine B3 [2] [] [bd,(5,.v (.int .u32 (C2 l)))] hW9 hE8 fun iI fh=>?_
 refine B4 (A4 ?_)
 let bj:Nat × SV:=(6,.v (.slice none 0 0))
 refine B9 [bd,(5,.v (.int .u32 (C2 l))),bj] hW9 fh fun iJ fi=>?_
 refine wp_seq (C1 [0,1,2,3,4,5,6] kz ?_)
 refine B3 [0,1,2,3] [4,5,6] [(5,.v (.int .u32 (C2 l))),bj,(13,.v (.slice A u.length c)),(16,.v (.int .i64 (if 32767 < ((u.length:Nat):Int) then 32767 else ((u.length:Nat):Int))))] hW9 fi fun iK fj=>?_
 refine B1 (DA fj (t:=24) (A:=A) (m:=u.length) (cp:=c) (q:=(if 32767 < ((u.length:Nat):Int) then 32767 else ((u.length:Nat):Int))) (d:=17) (j:=(u.take 32767).length) kz (e:=55) (size:=2) (bytes:=32) kz (by simpa using Fn u.length) (by rw [List.length_take]; have:=hu1.le; omega) fun iL fk=>?_)
 let ab:Nat × SV:=(17,.v (.slice A ((u.take 32767).length) c))
 let ac:Nat × SV:=(18,.v (.int .i64 (((u.take 32767).length:Nat):Int)))
 refine B3 [5,6] [] [(5,.v (.int .u32 (C2 l))),bj,ab,ac,(19,.v (.int .i64 0))] hW9 fk fun iM fl=>?_
 refine B4 (A4 ?_)
 refine wp_block ?_
 have dc:=hW9.addNil 55 2
 have f8:=hW9.frNil 55 2
 refine wp_loop_ghost (fun n_ a_ w_=>∃ (k:Nat) (A_:Option Addr) (c_:Nat) (out:List (Int × Bs)) (css:List (List Value)),n_ = (u.take 32767).length - k ∧ k ≤ (u.take 32767).length ∧ (TagsE w_ (H1 F w w_ [] [⟨A_,c_,55,2,out.length,css.flatten⟩]) out css) ∧ (out = ((u.take 32767).take k).foldl (L2 (C2 l)) []) ∧ (out.length ≤ k) ∧ J1 dc 85 [] [⟨A_,c_,55,2,out.length,css.flatten⟩] [(5,.v (.int .u32 (C2 l))),(6,.v (.slice A_ out.length c_)),ab,ac,(19,.v (.int .i64 ((k:Nat):Int)))] a_ w_) ((u.take 32767).length) ⟨0,none,0,[],[],by omega,by omega,TagsE.nil _ _,rfl,Nat.zero_le _,fl.pk,dc,Fr.refl _ _ _⟩ ?_
 rintro iN iO iP ⟨k,A_,c_,out,css,f9,ga,hT,hout,hlen,fm,bf,bk⟩
 let ah:Nat × SV:=(6,.v (.slice A_ out.length c_))
 let ae:Nat × SV:=(19,.v (.int .i64 ((k:Nat):Int)))
 refine B9 [(5,.v (.int .u32 (C2 l))),ah,ab,ac,ae,(20,.v (.bool (decide (((k:Nat):Int) < (((u.take 32767).length:Nat):Int)))))] bf fm fun iQ cS=>?_
 refine wp_seq (E2 cS (b:=decide (((k:Nat):Int) < (((u.take 32767).length:Nat):Int))) kz (fun cU=>?_) (fun cU=>?_))
 ·
  have gb:=of_decide_eq_true cU
  refine wp_skip (A4 (wp_seq (wp_block (C1 [0,1,2,3] kz ?_))))
  obtain ⟨gc,gd,fo,ge,bT⟩:=Slots.get (LX hu1 32767) (i:=k) (by omega)
  obtain ⟨⟨aF,aW⟩,bg⟩:∃ x,(u.take 32767)[k]? = some x:=⟨_,List.getElem?_eq_getElem (by omega)⟩
  obtain ⟨⟨cV,cW,de,df⟩,fF,fG⟩:=(LY hu2 32767) k aF aW bg
  rw [de] at bT
  refine B1 (J7 cS (t:=24) (A:=A) (m:=((u.take 32767).length)) (q:=((k:Nat):Int)) (d:=21) kz (e:=55) (size:=2) (bytes:=32) kz fo rfl (by omega) fun iR fq=>?_)
  let aG:Value:=.int .u32 aF
  let aH:Value:=.slice cV aW.length cW
  refine B1 (M7 fq (t:=55) (b:=gc) (o:=gd + k * 2) (d:=22) kz (cs:=[aG,aH]) (v:=.agg #[aG,aH]) kz (AtF.move bT bf.step B2 F3).at_ fun iS fr=>?_)
  let ap:Value:=.int .u32 0
  let ar:Value:=.slice none 0 0
  refine B1 (N6 bf fr (d:=8) (cs:=[ap,ar]) kz fun gg iT iU gh gi ak ft fu=>?_)
  refine B1 (I9 ft fu (oi:=0) (cs:=[aG,aH]) kz fun iV al cX fv=>?_)
  refine B4 (A4 ?_)
  let af:Nat × SV:=(8,.p 0 0)
  refine B9 [(5,.v (.int .u32 (C2 l))),ah,af,(9,.v (.int .i64 0)),ab,ac,ae] cX fv fun iW fw=>?_
  refine wp_seq (wp_block ?_)
  let bn:Ob:=⟨gg,0,[aG,aH],true⟩
  refine wp_loop_ghost (fun n_ a_ w_=>∃ (i:Nat),n_ = out.length - i ∧ (i ≤ out.length) ∧ (∀ q,q < i → (out.getD q (0,[])).1 < aF) ∧ J1 cX 85 [bn] [⟨A_,c_,55,2,out.length,css.flatten⟩] [(5,.v (.int .u32 (C2 l))),ah,af,(9,.v (.int .i64 ((i:Nat):Int))),ab,ac,ae] a_ w_) (out.length - 0) ⟨0,rfl,Nat.zero_le _,fun q h_=>absurd h_ (Nat.not_lt_zero q),fw.pk,cX,Fr.refl _ _ _⟩ ?_
  rintro iX iY iZ ⟨i,gj,hi,hlt,fx,fy,ai⟩
  refine wp_seq (BA kz fy fun i6 aj aP=>?_)
  let ag:Nat × SV:=(9,.v (.int .i64 ((i:Nat):Int)))
  refine G4 [0,1,2,3,4] [(5,.v (.int .u32 (C2 l))),ah,af,ag,ab,ac,ae,(27,.v (.bool (decide (((i:Nat):Int) < ((out.length:Nat):Int)))))] 9 (B6 (B6 (B6 (D8 (B6 (D8 (B6 (B6 (D8 (B6 E0)))))))))) (fun _ h=>h ▸ aP.cells) rfl fx fun i7 dg=>?_
  let aK:Nat × SV:=(43,.v (.bool false))
  let aL:Nat × SV:=(48,.v (.bool (decide (((i:Nat):Int) < ((out.length:Nat):Int)))))
  let bU:Nat × SV:=(60,.v (.agg #[ap,ar]))
  let bV:Nat × SV:=(80,.v (.int .i64 ((i:Nat):Int)))
  let bW:Nat × SV:=(81,.v (.agg #[aG,aH]))
  refine (Bool.eq_false_or_eq_true (decide (((i:Nat):Int) < ((out.length:Nat):Int)))).elim (fun ba=>?_) (fun ba=>?_)
  ·
   have gk:=of_decide_eq_true ba
   let bo:Nat × SV:=(27,.v (.bool true))
   have fz:=dg.cast (env':=[(5,.v (.int .u32 (C2 l))),ah,af,ag,ab,ac,ae,bo]) (by simp only [aL,ba]; try rfl)
   refine G4 [5,6,10,11] [(5,.v (.int .u32 (C2 l))),ah,af,ag,ab,ac,ae,bo,(28,.v (.slice A_ out.length c_)),(29,.v (.int .i64 ((i:Nat):Int))),(34,.v (.int .u32 aF))] 5 (B6 (B6 (B6 (D8 (B6 (D8 (B6 (B6 (D8 (B6 E0)))))))))) (fun _ h=>h ▸ aP.cells) rfl fz fun ja fA=>?_
   obtain ⟨fB,dh⟩:=W3 (aP.own 0 _ rfl) (show 0 < out.length by omega)
   obtain ⟨⟨fg,jb⟩,bQ⟩:∃ x,out[i]? = some x:=⟨_,List.getElem?_eq_getElem (by omega)⟩
   obtain ⟨jc,jd,fC,gl,je,jf⟩:=TagsE.get2 (hT.move (((ak.trans al).trans ai).trans aj).step immM (((ak.trans al).trans ai).trans aj).to') bQ
   have di:=DI (aP.own 0 _ rfl) dh (DW (hT.move (((ak.trans al).trans ai).trans aj).step immM (((ak.trans al).trans ai).trans aj).to').two fC)
   refine P1 fA (i:=7) (t:=24) (A:=A_) (m:=out.length) (q:=((i:Nat):Int)) (d:=30) kz (e:=55) (size:=2) (bytes:=32) kz (b:=fB) (o:=0) (j:=i) dh (rfl) (by omega) kz kz (B6 (B6 (B6 (D8 (B6 (D8 (B6 (B6 (D8 (B6 E0)))))))))) rfl fun jg fD=>?_
   refine G4 [8] [(5,.v (.int .u32 (C2 l))),ah,af,ag,ab,ac,ae,bo,(31,.v (.pointer (some ⟨fB,0 + i * 2,none⟩))),(34,.v (.int .u32 aF))] 3 (B6 (B6 (B6 (D8 (B6 (D8 (B6 (B6 (D8 (B6 E0)))))))))) (fun _ h=>h ▸ aP.cells) rfl fD fun jh fE=>?_
   refine O2 fE (i:=9) (t:=53) (b:=fB) (o:=0 + i * 2) (d:=32) kz (cs:=[.int .u32 fg]) (v:=.int .u32 fg) kz (fun w' h'=>h' ▸ (At.drop di 0 1)) kz kz (B6 (B6 (B6 (D8 (B6 (D8 (B6 (B6 (D8 (B6 E0)))))))))) rfl fun gm dj=>?_
   refine G4 [12,13] [(5,.v (.int .u32 (C2 l))),ah,af,ag,ab,ac,ae,(36,.v (.bool (decide (fg < aF))))] 0 (B6 (B6 (B6 (D8 (B6 (D8 (B6 (B6 (D8 (B6 E0)))))))))) (fun _ h=>h ▸ aP.cells) rfl dj fun gn bp=>?_
   refine L6 kz ?_ _
   refine A4 (E2 bp (b:=decide (fg < aF)) kz (fun bq=>?_) (fun bq=>?_))
   ·
    have fH:=of_decide_eq_true bq
    refine wp_skip (A4 (wp_block (E4 [0,1,2] kz ?_)))
    refine B3 [0,1,2] [] [(5,.v (.int .u32 (C2 l))),ah,af,(9,.v (.int .i64 (IntKind.i64.wrap (((i:Nat):Int) + 1)))),ab,ac,ae] aP bp fun gp bX=>?_
    refine B4 (H7 (A4 ?_))
    have dl:IntKind.i64.wrap (((i:Nat):Int) + 1) = ((i + 1:Nat):Int):=N0 (by omega)
    rw [dl] at bX
    exact ⟨out.length - (i + 1),by omega,(i + 1),rfl,by omega,fun q hq=>by rcases Nat.lt_succ_iff_lt_or_eq.1 hq with h_ | h_; exact hlt q h_; rw [h_,Ik bQ]; assumption,bX.pk,aP,(ai.trans aj)⟩
   have fI:=of_decide_eq_false bq
   refine wp_exit (F2 (F2 (I7 (A4 (wp_seq (BA kz aP fun gq am ay=>?_))))))
   refine G4 [0,1,2,3,4] [(5,.v (.int .u32 (C2 l))),ah,af,ag,ab,ac,ae,(43,.v (.bool (decide (aF < (C2 l)))))] 15 (B6 (B6 (D8 (B6 (B6 (D8 (B6 E0))))))) (fun _ h=>h ▸ ay.cells) rfl bp fun gt bY=>?_
   refine (Bool.eq_false_or_eq_true (decide (aF < (C2 l)))).elim (fun aX=>?_) (fun aX=>?_)
   ·
    have fJ:=of_decide_eq_true aX
    have dp:=bY
    rw [aX] at dp
    refine G4 [5,6,7,8,9,10,11,12,13,14,15,16,17,18,19] [(5,.v (.int .u32 (C2 l))),ah,af,ag,ab,ac,ae,(58,.v (.bool true))] 0 (B6 (B6 (D8 (B6 (B6 (D8 (B6 E0))))))) (fun _ h=>h ▸ ay.cells) rfl dp fun gu bZ=>?_
    refine L6 kz ?_ _
    refine A4 (N7 bZ (b:=true) kz rfl ?_)
    refine wp_exit (F2 (I7 (A4 (E4 [0,1] kz ?_))))
    refine B3 [0,1] [] [(5,.v (.int .u32 (C2 l))),ah,ab,ac,(19,.v (.int .i64 (IntKind.i64.wrap (((k:Nat):Int) + 1))))] ay bZ fun gv dq=>?_
    refine B4 (A4 ?_)
    obtain ⟨b8,dr,bt⟩:=ay.cutB dq 0 [] [(5,.v (.int .u32 (C2 l))),ah,ab,ac,(19,.v (.int .i64 (IntKind.i64.wrap (((k:Nat):Int) + 1))))]
    have dt:IntKind.i64.wrap (((k:Nat):Int) + 1) = ((k + 1:Nat):Int):=N0 (by omega)
    rw [dt] at b8
    exact ⟨(u.take 32767).length - (k + 1),by omega,k + 1,A_,c_,out,css,rfl,by omega,(hT.move (((((ak.trans al).trans ai).trans aj).trans am).trans bt).step immM (((((ak.trans al).trans ai).trans aj).trans am).trans bt).to'),by rw [Dc bg,← hout]; exact (Il ‹_›).symm,by omega,b8.pk,dr,((((((bk.trans ak).trans al).trans ai).trans aj).trans am).trans bt)⟩
   have fK:=of_decide_eq_false aX
   have du:=bY
   rw [aX] at du
   refine G4 [5,6,7,8,9] [(5,.v (.int .u32 (C2 l))),ah,af,ag,ab,ac,ae,aK,aL] 10 (B6 (B6 (D8 (B6 (B6 (D8 (B6 E0))))))) (fun _ h=>h ▸ ay.cells) rfl du fun gw dv=>?_
   have dw:(decide (((i:Nat):Int) < ((out.length:Nat):Int))) = true:=ba
   have dx:=dv.cast (env':=[(5,.v (.int .u32 (C2 l))),ah,af,ag,ab,ac,ae,aK,(48,.v (.bool true))]) (by simp only [aL,dw]; try rfl)
   refine G4 [10,11,15,16] [(5,.v (.int .u32 (C2 l))),ah,af,ag,ab,ac,ae,aK,(48,.v (.bool true)),(49,.v (.slice A_ out.length c_)),(50,.v (.int .i64 ((i:Nat):Int))),(55,.v (.int .u32 aF))] 6 (B6 (B6 (D8 (B6 (B6 (D8 (B6 E0))))))) (fun _ h=>h ▸ ay.cells) rfl dx fun gx dy=>?_
   obtain ⟨cY,cd⟩:=W3 (ay.own 0 _ rfl) (show 0 < out.length by omega)
   obtain ⟨⟨bh,gy⟩,aY⟩:∃ x,out[i]? = some x:=⟨_,List.getElem?_eq_getElem (by omega)⟩
   obtain ⟨gz,gA,dA,fL,gB,gC⟩:=TagsE.get2 (hT.move ((((ak.trans al).trans ai).trans aj).trans am).step immM ((((ak.trans al).trans ai).trans aj).trans am).to') aY
   have cZ:=DI (ay.own 0 _ rfl) cd (DW (hT.move ((((ak.trans al).trans ai).trans aj).trans am).step immM ((((ak.trans al).trans ai).trans aj).trans am).to').two dA)
   refine P1 dy (i:=12) (t:=24) (A:=A_) (m:=out.length) (q:=((i:Nat):Int)) (d:=51) kz (e:=55) (size:=2) (bytes:=32) kz (b:=cY) (o:=0) (j:=i) cd (rfl) (by omega) kz kz (B6 (B6 (D8 (B6 (B6 (D8 (B6 E0))))))) rfl fun gD dB=>?_
   refine G4 [13] [(5,.v (.int .u32 (C2 l))),ah,af,ag,ab,ac,ae,aK,(48,.v (.bool true)),(52,.v (.pointer (some ⟨cY,0 + i * 2,none⟩))),(55,.v (.int .u32 aF))] 4 (B6 (B6 (D8 (B6 (B6 (D8 (B6 E0))))))) (fun _ h=>h ▸ ay.cells) rfl dB fun gE dC=>?_
   refine O2 dC (i:=14) (t:=53) (b:=cY) (o:=0 + i * 2) (d:=53) kz (cs:=[.int .u32 bh]) (v:=.int .u32 bh) kz (fun w' h'=>h' ▸ (At.drop cZ 0 1)) kz kz (B6 (B6 (D8 (B6 (B6 (D8 (B6 E0))))))) rfl fun gF dD=>?_
   refine G4 [17,18,19] [(5,.v (.int .u32 (C2 l))),ah,af,ag,ab,ac,ae,(58,.v (.bool (bh == aF)))] 0 (B6 (B6 (D8 (B6 (B6 (D8 (B6 E0))))))) (fun _ h=>h ▸ ay.cells) rfl dD fun gG bu=>?_
   refine L6 kz ?_ _
   refine A4 (E2 bu (b:=bh == aF) kz (fun bw=>?_) (fun bw=>?_))
   ·
    have fM:bh = aF:=by simpa using bw
    refine wp_exit (F2 (I7 (A4 (E4 [0,1] kz ?_))))
    refine B3 [0,1] [] [(5,.v (.int .u32 (C2 l))),ah,ab,ac,(19,.v (.int .i64 (IntKind.i64.wrap (((k:Nat):Int) + 1))))] ay bu fun gH dE=>?_
    refine B4 (A4 ?_)
    obtain ⟨ce,dF,bx⟩:=ay.cutB dE 0 [] [(5,.v (.int .u32 (C2 l))),ah,ab,ac,(19,.v (.int .i64 (IntKind.i64.wrap (((k:Nat):Int) + 1))))]
    have dG:IntKind.i64.wrap (((k:Nat):Int) + 1) = ((k + 1:Nat):Int):=N0 (by omega)
    rw [dG] at ce
    exact ⟨(u.take 32767).length - (k + 1),by omega,k + 1,A_,c_,out,css,rfl,by omega,(hT.move (((((ak.trans al).trans ai).trans aj).trans am).trans bx).step immM (((((ak.trans al).trans ai).trans aj).trans am).trans bx).to'),by rw [Dc bg,← hout]; exact (LV (FT hi hlt (fun _=>by rw [Cq aY]; omega)) (by omega) (by rw [Cq aY]; omega)).symm,by omega,ce.pk,dF,((((((bk.trans ak).trans al).trans ai).trans aj).trans am).trans bx)⟩
   have fN:bh ≠ aF:=by simpa using bw
   refine wp_skip (A4 (C1 [0,1,2,3,4] kz ?_))
   refine B3 [0,1] [2,3,4] [(5,.v (.int .u32 (C2 l))),af,ag,ab,ac,ae,(59,.v (.slice A_ out.length c_)),bU] ay bu fun gI dH=>?_
   refine U4 ay dH (k:=0) (e:=55) (size:=2) (len:=1) (cs:=[ap,ar]) (d1:=61) (d:=62) kz (t:=24) (bytes:=32) kz (fun _=>by kernel_rfl) rfl kz (by omega) fun au aB gJ gK av bz ⟨_,dI⟩=>?_
   let aI:Nat × SV:=(6,.v (.slice au (out.length + 1) aB))
   refine B3 [4] [] [(5,.v (.int .u32 (C2 l))),aI,af,ag,ab,ac,ae] bz dI fun gL dJ=>?_
   refine B4 (A4 ?_)
   refine wp_seq (B9 [(5,.v (.int .u32 (C2 l))),aI,af,ag,(10,.v (.int .i64 (IntKind.i64.wrap (((out.length + 1:Nat):Int) - 1)))),ab,ac,ae] bz dJ fun gM cg=>?_)
   refine wp_block ?_
   have hcl0:=(hT.move (((((ak.trans al).trans ai).trans aj).trans am).trans av).step immM (((((ak.trans al).trans ai).trans aj).trans am).trans av).to').len
   have dK:(⟨au,aB,55,2,out.length + 1,css.flatten ++ [.int .u32 0,.slice none 0 0]⟩:Rw) = ⟨au,aB,55,2,out.length + 1,(I0 css [.int .u32 0,.slice none 0 0] out.length).flatten⟩:=by rw [Ij hcl0]
   obtain ⟨cm,aC⟩:=bz.rowEq 0 [⟨au,aB,55,2,out.length + 1,(I0 css [ap,ar] out.length).flatten⟩] dK
   have dL:IntKind.i64.wrap (((out.length + 1:Nat):Int) - 1) = ((out.length:Nat):Int):=by rw [wrap_i64 (by omega) (by omega)]; omega
   simp only [aL,dL] at cg
   refine wp_loop_ghost (fun n_ a_ w_=>∃ (j:Nat),n_ = j ∧ (i ≤ j) ∧ (j ≤ out.length) ∧ J1 cm 85 [bn] [⟨au,aB,55,2,out.length + 1,(I0 css [ap,ar] j).flatten⟩] [(5,.v (.int .u32 (C2 l))),aI,af,ag,(10,.v (.int .i64 ((j:Nat):Int))),ab,ac,ae] a_ w_) (out.length) ⟨out.length,rfl,hi,Nat.le_refl _,cg.pk,cm,Fr.refl _ _ _⟩ ?_
   rintro gN gO gP ⟨j,fO,hij,hjl,dM,aM,az⟩
   refine wp_seq (B9 [(5,.v (.int .u32 (C2 l))),aI,af,ag,(10,.v (.int .i64 ((j:Nat):Int))),ab,ac,ae,(68,.v (.bool (decide (((j:Nat):Int) > ((i:Nat):Int)))))] aM dM fun gQ bA=>?_)
   refine E2 bA (b:=decide (((j:Nat):Int) > ((i:Nat):Int))) kz (fun bB=>?_) (fun bB=>?_)
   ·
    have fP:=of_decide_eq_true bB
    refine wp_skip (A4 (wp_seq (wp_block (E4 [0,1,2,3,4,5,6,7,8] kz ?_))))
    refine B3 [0,1,2,3,4] [5,6,7,8] [(5,.v (.int .u32 (C2 l))),aI,af,ag,(10,.v (.int .i64 ((j:Nat):Int))),ab,ac,ae,(71,.v (.slice au (out.length + 1) aB)),(72,.v (.int .i64 ((j:Nat):Int))),(73,.v (.slice au (out.length + 1) aB)),(75,.v (.int .i64 (IntKind.i64.wrap (((j:Nat):Int) - 1))))] aM bA fun gR dN=>?_
    obtain ⟨dO,cq⟩:=W3 (aM.own 0 _ rfl) (show 0 < out.length + 1 by omega)
    obtain ⟨⟨bR,dP⟩,dQ⟩:∃ x,out[j - 1]? = some x:=⟨_,List.getElem?_eq_getElem (by omega)⟩
    obtain ⟨dR,dS,cr,fQ,gS,gT⟩:=TagsE.get2 (hT.move (((((((ak.trans al).trans ai).trans aj).trans am).trans av).trans aC).trans az).step immM (((((((ak.trans al).trans ai).trans aj).trans am).trans av).trans aC).trans az).to') dQ
    have da:=DI (aM.own 0 _ rfl) cq (DW (DX (hT.move (((((((ak.trans al).trans ai).trans aj).trans am).trans av).trans aC).trans az).step immM (((((((ak.trans al).trans ai).trans aj).trans am).trans av).trans aC).trans az).to').two rfl j) (Ig (show j - 1 < j by omega) cr))
    refine B1 (J7 dN (t:=24) (A:=au) (m:=(out.length + 1)) (q:=(IntKind.i64.wrap (((j:Nat):Int) - 1))) (d:=76) kz (e:=55) (size:=2) (bytes:=32) kz (b:=dO) (o:=0) (j:=(j - 1)) cq (by rw [wrap_i64 (by omega) (by omega)]; omega) (by omega) fun gU dT=>?_)
    let bC:Value:=.slice dR dP.length dS
    refine B1 (M7 dT (t:=55) (b:=dO) (o:=0 + (j - 1) * 2) (d:=77) kz (cs:=[.int .u32 bR,bC]) (v:=.agg #[.int .u32 bR,bC]) kz da fun gV dU=>?_)
    obtain ⟨dV,cu⟩:=W3 (aM.own 0 _ rfl) (show 0 < out.length + 1 by omega)
    refine B1 (J7 dU (t:=24) (A:=au) (m:=(out.length + 1)) (q:=((j:Nat):Int)) (d:=78) kz (e:=55) (size:=2) (bytes:=32) kz (b:=dV) (o:=0) (j:=j) cu (rfl) (by omega) fun gW dW=>?_)
    refine B1 (DF aM dW (k:=0) (g:=dV) (o:=j * 2) (c:=aB) (m:=(out.length + 1)) (size:=2) (e:=55) (A:=au) (xs:=((I0 css [ap,ar] j).flatten)) (vs:=[.int .u32 bR,bC]) kz rfl cu (by simp only [List.length_cons,List.length_nil]; omega) fun gX bD cv dX=>?_)
    refine B4 (H7 (A4 (E4 [0,1,2] kz ?_)))
    refine B3 [0,1,2] [] [(5,.v (.int .u32 (C2 l))),aI,af,ag,(10,.v (.int .i64 (IntKind.i64.wrap (((j:Nat):Int) - 1)))),ab,ac,ae] cv dX fun gY cw=>?_
    refine B4 (A4 ?_)
    have dY:(⟨au,aB,55,2,out.length + 1,J5 ((I0 css [.int .u32 0,.slice none 0 0] j).flatten) (j * 2) [.int .u32 bR,.slice dR dP.length dS]⟩:Rw) = ⟨au,aB,55,2,out.length + 1,(I0 css [.int .u32 0,.slice none 0 0] (j - 1)).flatten⟩:=by rw [Ih (hT.move ((((((((ak.trans al).trans ai).trans aj).trans am).trans av).trans aC).trans az).trans bD).step immM ((((((((ak.trans al).trans ai).trans aj).trans am).trans av).trans aC).trans az).trans bD).to').two rfl (by omega) (by omega) cr]
    obtain ⟨dZ,d4⟩:=cv.rowEq 0 [⟨au,aB,55,2,out.length + 1,(I0 css [ap,ar] (j - 1)).flatten⟩] dY
    have d5:IntKind.i64.wrap (((j:Nat):Int) - 1) = ((j - 1:Nat):Int):=by rw [wrap_i64 (by omega) (by omega)]; omega
    rw [d5] at cw
    exact ⟨(j - 1),by omega,(j - 1),rfl,by omega,by omega,cw.pk,dZ,((az.trans bD).trans d4)⟩
   have fR:=of_decide_eq_false bB
   refine wp_exit (F2 (F2 (I7 (A4 (E4 [0,1,2,3,4] kz ?_)))))
   refine B3 [0,1,2] [3,4] [(5,.v (.int .u32 (C2 l))),aI,ab,ac,ae,(79,.v (.slice au (out.length + 1) aB)),bV,bW] aM bA fun gZ d6=>?_
   have hji:j = i:=by omega
   have d7:(⟨au,aB,55,2,out.length + 1,(I0 css [.int .u32 0,.slice none 0 0] j).flatten⟩:Rw) = ⟨au,aB,55,2,out.length + 1,(I0 css [.int .u32 0,.slice none 0 0] i).flatten⟩:=by rw [hji]
   obtain ⟨cy,aQ⟩:=aM.rowEq 0 [⟨au,aB,55,2,out.length + 1,(I0 css [ap,ar] i).flatten⟩] d7
   obtain ⟨d8,cz⟩:=W3 (cy.own 0 _ rfl) (show 0 < out.length + 1 by omega)
   refine B1 (J7 d6 (t:=24) (A:=au) (m:=(out.length + 1)) (q:=((i:Nat):Int)) (d:=82) kz (e:=55) (size:=2) (bytes:=32) kz (b:=d8) (o:=0) (j:=i) cz (rfl) (by omega) fun hC d9=>?_)
   refine B1 (DF cy d9 (k:=0) (g:=d8) (o:=i * 2) (c:=aB) (m:=(out.length + 1)) (size:=2) (e:=55) (A:=au) (xs:=((I0 css [ap,ar] i).flatten)) (vs:=[aG,aH]) kz rfl cz (by simp only [List.length_cons,List.length_nil]; omega) fun hJ aR cA ea=>?_)
   refine B4 (H7 (A4 (E4 [0,1] kz ?_)))
   refine B3 [0,1] [] [(5,.v (.int .u32 (C2 l))),aI,ab,ac,(19,.v (.int .i64 (IntKind.i64.wrap (((k:Nat):Int) + 1))))] cA ea fun hK eb=>?_
   refine B4 (A4 ?_)
   obtain ⟨bE,ec,aS⟩:=cA.cutB eb 0 [] [(5,.v (.int .u32 (C2 l))),aI,ab,ac,(19,.v (.int .i64 (IntKind.i64.wrap (((k:Nat):Int) + 1))))]
   have hcl:=(hT.move ((((((((((ak.trans al).trans ai).trans aj).trans am).trans av).trans aC).trans az).trans aQ).trans aR).trans aS).step immM ((((((((((ak.trans al).trans ai).trans aj).trans am).trans av).trans aC).trans az).trans aQ).trans aR).trans aS).to').len
   have ee:(⟨au,aB,55,2,out.length + 1,J5 ((I0 css [.int .u32 0,.slice none 0 0] i).flatten) (i * 2) [.int .u32 aF,.slice cV aW.length cW]⟩:Rw) = ⟨au,aB,55,2,(out.take i ++ (aF,aW) :: out.drop i).length,(css.take i ++ [.int .u32 aF,.slice cV aW.length cW] :: css.drop i).flatten⟩:=by rw [Ii (hT.move ((((((((((ak.trans al).trans ai).trans aj).trans am).trans av).trans aC).trans az).trans aQ).trans aR).trans aS).step immM ((((((((((ak.trans al).trans ai).trans aj).trans am).trans av).trans aC).trans az).trans aQ).trans aR).trans aS).to').two rfl (by omega) rfl,Cp (aF,aW) hi]
   obtain ⟨bF,bG⟩:=ec.rowEq 0 [⟨au,aB,55,2,(out.take i ++ (aF,aW) :: out.drop i).length,(css.take i ++ [aG,aH] :: css.drop i).flatten⟩] ee
   have ef:IntKind.i64.wrap (((k:Nat):Int) + 1) = ((k + 1:Nat):Int):=N0 (by omega)
   rw [ef] at bE
   have eg:out.length + 1 = (out.take i ++ (aF,aW) :: out.drop i).length:=Cp (aF,aW) hi
   simp only [aI,eg] at bE
   exact ⟨(u.take 32767).length - (k + 1),by omega,k + 1,au,aB,(out.take i ++ (aF,aW) :: out.drop i),(css.take i ++ [aG,aH] :: css.drop i),rfl,by omega,(hT.move (((((((((((ak.trans al).trans ai).trans aj).trans am).trans av).trans aC).trans az).trans aQ).trans aR).trans aS).trans bG).step immM (((((((((((ak.trans al).trans ai).trans aj).trans am).trans av).trans aC).trans az).trans aQ).trans aR).trans aS).trans bG).to').ins ⟨⟨cV,cW,rfl,(df.move bF.step B2 bF.imm)⟩,fF,fG⟩ hi,by rw [Dc bg,← hout]; exact (Im (FT hi hlt (fun _=>by first | (rw [Cq bQ]; omega) | (rw [Cq aY]; omega))) ‹_› (fun _=>by first | (rw [Cq bQ]; omega) | (rw [Cq aY]; omega))).symm,by rw [← Cp (aF,aW) hi]; omega,bE.pk,bF,((((((((((((bk.trans ak).trans al).trans ai).trans aj).trans am).trans av).trans aC).trans az).trans aQ).trans aR).trans aS).trans bG)⟩
  have fS:=of_decide_eq_false ba
  have eh:=dg.cast (env':=[(5,.v (.int .u32 (C2 l))),ah,af,ag,ab,ac,ae,(27,.v (.bool false))]) (by simp only [aL,ba]; try rfl)
  refine G4 [5,6,7,8,9,10,11,12,13] [(5,.v (.int .u32 (C2 l))),ah,af,ag,ab,ac,ae,(36,.v (.bool false))] 0 (B6 (B6 (B6 (D8 (B6 (D8 (B6 (B6 (D8 (B6 E0)))))))))) (fun _ h=>h ▸ aP.cells) rfl eh fun hY cB=>?_
  refine L6 kz ?_ _
  refine A4 (G6 cB (b:=false) kz rfl ?_)
  refine wp_exit (F2 (F2 (I7 (A4 (wp_seq (BA kz aP fun hZ ao aN=>?_))))))
  refine G4 [0,1,2,3,4] [(5,.v (.int .u32 (C2 l))),ah,af,ag,ab,ac,ae,(43,.v (.bool (decide (aF < (C2 l)))))] 15 (B6 (B6 (D8 (B6 (B6 (D8 (B6 E0))))))) (fun _ h=>h ▸ aN.cells) rfl cB fun ia cC=>?_
  refine (Bool.eq_false_or_eq_true (decide (aF < (C2 l)))).elim (fun aZ=>?_) (fun aZ=>?_)
  ·
   have fT:=of_decide_eq_true aZ
   have ei:=cC
   rw [aZ] at ei
   refine G4 [5,6,7,8,9,10,11,12,13,14,15,16,17,18,19] [(5,.v (.int .u32 (C2 l))),ah,af,ag,ab,ac,ae,(58,.v (.bool true))] 0 (B6 (B6 (D8 (B6 (B6 (D8 (B6 E0))))))) (fun _ h=>h ▸ aN.cells) rfl ei fun ib cE=>?_
   refine L6 kz ?_ _
   refine A4 (N7 cE (b:=true) kz rfl ?_)
   refine wp_exit (F2 (I7 (A4 (E4 [0,1] kz ?_))))
   refine B3 [0,1] [] [(5,.v (.int .u32 (C2 l))),ah,ab,ac,(19,.v (.int .i64 (IntKind.i64.wrap (((k:Nat):Int) + 1))))] aN cE fun ic ej=>?_
   refine B4 (A4 ?_)
   obtain ⟨cG,ek,bH⟩:=aN.cutB ej 0 [] [(5,.v (.int .u32 (C2 l))),ah,ab,ac,(19,.v (.int .i64 (IntKind.i64.wrap (((k:Nat):Int) + 1))))]
   have em:IntKind.i64.wrap (((k:Nat):Int) + 1) = ((k + 1:Nat):Int):=N0 (by omega)
   rw [em] at cG
   exact ⟨(u.take 32767).length - (k + 1),by omega,k + 1,A_,c_,out,css,rfl,by omega,(hT.move (((((ak.trans al).trans ai).trans aj).trans ao).trans bH).step immM (((((ak.trans al).trans ai).trans aj).trans ao).trans bH).to'),by rw [Dc bg,← hout]; exact (Il ‹_›).symm,by omega,cG.pk,ek,((((((bk.trans ak).trans al).trans ai).trans aj).trans ao).trans bH)⟩
  have fV:=of_decide_eq_false aZ
  have eo:=cC
  rw [aZ] at eo
  refine G4 [5,6,7,8,9] [(5,.v (.int .u32 (C2 l))),ah,af,ag,ab,ac,ae,aK,aL] 10 (B6 (B6 (D8 (B6 (B6 (D8 (B6 E0))))))) (fun _ h=>h ▸ aN.cells) rfl eo fun ig eu=>?_
  have ev:(decide (((i:Nat):Int) < ((out.length:Nat):Int))) = false:=ba
  have ew:=eu.cast (env':=[(5,.v (.int .u32 (C2 l))),ah,af,ag,ab,ac,ae,aK,(48,.v (.bool false))]) (by simp only [aL,ev]; try rfl)
  refine G4 [10,11,12,13,14,15,16,17,18,19] [(5,.v (.int .u32 (C2 l))),ah,af,ag,ab,ac,ae,(58,.v (.bool false))] 0 (B6 (B6 (D8 (B6 (B6 (D8 (B6 E0))))))) (fun _ h=>h ▸ aN.cells) rfl ew fun ii cH=>?_
  refine L6 kz ?_ _
  refine A4 (G6 cH (b:=false) kz rfl ?_)
  refine wp_skip (A4 (C1 [0,1,2,3,4] kz ?_))
  refine B3 [0,1] [2,3,4] [(5,.v (.int .u32 (C2 l))),af,ag,ab,ac,ae,(59,.v (.slice A_ out.length c_)),bU] aN cH fun ij ey=>?_
  refine U4 aN ey (k:=0) (e:=55) (size:=2) (len:=1) (cs:=[ap,ar]) (d1:=61) (d:=62) kz (t:=24) (bytes:=32) kz (fun _=>by kernel_rfl) rfl kz (by omega) fun aw aD ik il ax bI ⟨_,ez⟩=>?_
  let aJ:Nat × SV:=(6,.v (.slice aw (out.length + 1) aD))
  refine B3 [4] [] [(5,.v (.int .u32 (C2 l))),aJ,af,ag,ab,ac,ae] bI ez fun im eB=>?_
  refine B4 (A4 ?_)
  refine wp_seq (B9 [(5,.v (.int .u32 (C2 l))),aJ,af,ag,(10,.v (.int .i64 (IntKind.i64.wrap (((out.length + 1:Nat):Int) - 1)))),ab,ac,ae] bI eB fun io cI=>?_)
  refine wp_block ?_
  have hcl0:=(hT.move (((((ak.trans al).trans ai).trans aj).trans ao).trans ax).step immM (((((ak.trans al).trans ai).trans aj).trans ao).trans ax).to').len
  have eC:(⟨aw,aD,55,2,out.length + 1,css.flatten ++ [.int .u32 0,.slice none 0 0]⟩:Rw) = ⟨aw,aD,55,2,out.length + 1,(I0 css [.int .u32 0,.slice none 0 0] out.length).flatten⟩:=by rw [Ij hcl0]
  obtain ⟨cJ,aE⟩:=bI.rowEq 0 [⟨aw,aD,55,2,out.length + 1,(I0 css [ap,ar] out.length).flatten⟩] eC
  have eD:IntKind.i64.wrap (((out.length + 1:Nat):Int) - 1) = ((out.length:Nat):Int):=by rw [wrap_i64 (by omega) (by omega)]; omega
  simp only [aL,eD] at cI
  refine wp_loop_ghost (fun n_ a_ w_=>∃ (j:Nat),n_ = j ∧ (i ≤ j) ∧ (j ≤ out.length) ∧ J1 cJ 85 [bn] [⟨aw,aD,55,2,out.length + 1,(I0 css [ap,ar] j).flatten⟩] [(5,.v (.int .u32 (C2 l))),aJ,af,ag,(10,.v (.int .i64 ((j:Nat):Int))),ab,ac,ae] a_ w_) (out.length) ⟨out.length,rfl,hi,Nat.le_refl _,cI.pk,cJ,Fr.refl _ _ _⟩ ?_
  rintro ip iq ir ⟨j,fW,hij,hjl,eE,aO,aA⟩
  refine wp_seq (B9 [(5,.v (.int .u32 (C2 l))),aJ,af,ag,(10,.v (.int .i64 ((j:Nat):Int))),ab,ac,ae,(68,.v (.bool (decide (((j:Nat):Int) > ((i:Nat):Int)))))] aO eE fun iu bJ=>?_)
  refine E2 bJ (b:=decide (((j:Nat):Int) > ((i:Nat):Int))) kz (fun bK=>?_) (fun bK=>?_)
  ·
   have fX:=of_decide_eq_true bK
   refine wp_skip (A4 (wp_seq (wp_block (E4 [0,1,2,3,4,5,6,7,8] kz ?_))))
   refine B3 [0,1,2,3,4] [5,6,7,8] [(5,.v (.int .u32 (C2 l))),aJ,af,ag,(10,.v (.int .i64 ((j:Nat):Int))),ab,ac,ae,(71,.v (.slice aw (out.length + 1) aD)),(72,.v (.int .i64 ((j:Nat):Int))),(73,.v (.slice aw (out.length + 1) aD)),(75,.v (.int .i64 (IntKind.i64.wrap (((j:Nat):Int) - 1))))] aO bJ fun iv eF=>?_
   obtain ⟨eG,cK⟩:=W3 (aO.own 0 _ rfl) (show 0 < out.length + 1 by omega)
   obtain ⟨⟨bS,eH⟩,eI⟩:∃ x,out[j - 1]? = some x:=⟨_,List.getElem?_eq_getElem (by omega)⟩
   obtain ⟨eJ,eK,cL,fY,iw,ix⟩:=TagsE.get2 (hT.move (((((((ak.trans al).trans ai).trans aj).trans ao).trans ax).trans aE).trans aA).step immM (((((((ak.trans al).trans ai).trans aj).trans ao).trans ax).trans aE).trans aA).to') eI
   have db:=DI (aO.own 0 _ rfl) cK (DW (DX (hT.move (((((((ak.trans al).trans ai).trans aj).trans ao).trans ax).trans aE).trans aA).step immM (((((((ak.trans al).trans ai).trans aj).trans ao).trans ax).trans aE).trans aA).to').two rfl j) (Ig (show j - 1 < j by omega) cL))
   refine B1 (J7 eF (t:=24) (A:=aw) (m:=(out.length + 1)) (q:=(IntKind.i64.wrap (((j:Nat):Int) - 1))) (d:=76) kz (e:=55) (size:=2) (bytes:=32) kz (b:=eG) (o:=0) (j:=(j - 1)) cK (by rw [wrap_i64 (by omega) (by omega)]; omega) (by omega) fun iy eM=>?_)
   let bL:Value:=.slice eJ eH.length eK
   refine B1 (M7 eM (t:=55) (b:=eG) (o:=0 + (j - 1) * 2) (d:=77) kz (cs:=[.int .u32 bS,bL]) (v:=.agg #[.int .u32 bS,bL]) kz db fun iz eN=>?_)
   obtain ⟨eO,cM⟩:=W3 (aO.own 0 _ rfl) (show 0 < out.length + 1 by omega)
   refine B1 (J7 eN (t:=24) (A:=aw) (m:=(out.length + 1)) (q:=((j:Nat):Int)) (d:=78) kz (e:=55) (size:=2) (bytes:=32) kz (b:=eO) (o:=0) (j:=j) cM (rfl) (by omega) fun iA eP=>?_)
   refine B1 (DF aO eP (k:=0) (g:=eO) (o:=j * 2) (c:=aD) (m:=(out.length + 1)) (size:=2) (e:=55) (A:=aw) (xs:=((I0 css [ap,ar] j).flatten)) (vs:=[.int .u32 bS,bL]) kz rfl cM (by simp only [List.length_cons,List.length_nil]; omega) fun iB bM cN eQ=>?_)
   refine B4 (H7 (A4 (E4 [0,1,2] kz ?_)))
   refine B3 [0,1,2] [] [(5,.v (.int .u32 (C2 l))),aJ,af,ag,(10,.v (.int .i64 (IntKind.i64.wrap (((j:Nat):Int) - 1)))),ab,ac,ae] cN eQ fun iC cO=>?_
   refine B4 (A4 ?_)
   have eR:(⟨aw,aD,55,2,out.length + 1,J5 ((I0 css [.int .u32 0,.slice none 0 0] j).flatten) (j * 2) [.int .u32 bS,.slice eJ eH.length eK]⟩:Rw) = ⟨aw,aD,55,2,out.length + 1,(I0 css [.int .u32 0,.slice none 0 0] (j - 1)).flatten⟩:=by rw [Ih (hT.move ((((((((ak.trans al).trans ai).trans aj).trans ao).trans ax).trans aE).trans aA).trans bM).step immM ((((((((ak.trans al).trans ai).trans aj).trans ao).trans ax).trans aE).trans aA).trans bM).to').two rfl (by omega) (by omega) cL]
   obtain ⟨eS,eT⟩:=cN.rowEq 0 [⟨aw,aD,55,2,out.length + 1,(I0 css [ap,ar] (j - 1)).flatten⟩] eR
   have eU:IntKind.i64.wrap (((j:Nat):Int) - 1) = ((j - 1:Nat):Int):=by rw [wrap_i64 (by omega) (by omega)]; omega
   rw [eU] at cO
   exact ⟨(j - 1),by omega,(j - 1),rfl,by omega,by omega,cO.pk,eS,((aA.trans bM).trans eT)⟩
  have fZ:=of_decide_eq_false bK
  refine wp_exit (F2 (F2 (I7 (A4 (E4 [0,1,2,3,4] kz ?_)))))
  refine B3 [0,1,2] [3,4] [(5,.v (.int .u32 (C2 l))),aJ,ab,ac,ae,(79,.v (.slice aw (out.length + 1) aD)),bV,bW] aO bJ fun iD eV=>?_
  have hji:j = i:=by omega
  have eW:(⟨aw,aD,55,2,out.length + 1,(I0 css [.int .u32 0,.slice none 0 0] j).flatten⟩:Rw) = ⟨aw,aD,55,2,out.length + 1,(I0 css [.int .u32 0,.slice none 0 0] i).flatten⟩:=by rw [hji]
  obtain ⟨cP,aT⟩:=aO.rowEq 0 [⟨aw,aD,55,2,out.length + 1,(I0 css [ap,ar] i).flatten⟩] eW
  obtain ⟨eX,cQ⟩:=W3 (cP.own 0 _ rfl) (show 0 < out.length + 1 by omega)
  refine B1 (J7 eV (t:=24) (A:=aw) (m:=(out.length + 1)) (q:=((i:Nat):Int)) (d:=82) kz (e:=55) (size:=2) (bytes:=32) kz (b:=eX) (o:=0) (j:=i) cQ (rfl) (by omega) fun iE eY=>?_)
  refine B1 (DF cP eY (k:=0) (g:=eX) (o:=i * 2) (c:=aD) (m:=(out.length + 1)) (size:=2) (e:=55) (A:=aw) (xs:=((I0 css [ap,ar] i).flatten)) (vs:=[aG,aH]) kz rfl cQ (by simp only [List.length_cons,List.length_nil]; omega) fun iF aU cR eZ=>?_)
  refine B4 (H7 (A4 (E4 [0,1] kz ?_)))
  refine B3 [0,1] [] [(5,.v (.int .u32 (C2 l))),aJ,ab,ac,(19,.v (.int .i64 (IntKind.i64.wrap (((k:Nat):Int) + 1))))] cR eZ fun iG e9=>?_
  refine B4 (A4 ?_)
  obtain ⟨bN,fa,aV⟩:=cR.cutB e9 0 [] [(5,.v (.int .u32 (C2 l))),aJ,ab,ac,(19,.v (.int .i64 (IntKind.i64.wrap (((k:Nat):Int) + 1))))]
  have hcl:=(hT.move ((((((((((ak.trans al).trans ai).trans aj).trans ao).trans ax).trans aE).trans aA).trans aT).trans aU).trans aV).step immM ((((((((((ak.trans al).trans ai).trans aj).trans ao).trans ax).trans aE).trans aA).trans aT).trans aU).trans aV).to').len
  have fb:(⟨aw,aD,55,2,out.length + 1,J5 ((I0 css [.int .u32 0,.slice none 0 0] i).flatten) (i * 2) [.int .u32 aF,.slice cV aW.length cW]⟩:Rw) = ⟨aw,aD,55,2,(out.take i ++ (aF,aW) :: out.drop i).length,(css.take i ++ [.int .u32 aF,.slice cV aW.length cW] :: css.drop i).flatten⟩:=by rw [Ii (hT.move ((((((((((ak.trans al).trans ai).trans aj).trans ao).trans ax).trans aE).trans aA).trans aT).trans aU).trans aV).step immM ((((((((((ak.trans al).trans ai).trans aj).trans ao).trans ax).trans aE).trans aA).trans aT).trans aU).trans aV).to').two rfl (by omega) rfl,Cp (aF,aW) hi]
  obtain ⟨bO,bP⟩:=fa.rowEq 0 [⟨aw,aD,55,2,(out.take i ++ (aF,aW) :: out.drop i).length,(css.take i ++ [aG,aH] :: css.drop i).flatten⟩] fb
  have fc:IntKind.i64.wrap (((k:Nat):Int) + 1) = ((k + 1:Nat):Int):=N0 (by omega)
  rw [fc] at bN
  have fe:out.length + 1 = (out.take i ++ (aF,aW) :: out.drop i).length:=Cp (aF,aW) hi
  simp only [aJ,fe] at bN
  exact ⟨(u.take 32767).length - (k + 1),by omega,k + 1,aw,aD,(out.take i ++ (aF,aW) :: out.drop i),(css.take i ++ [aG,aH] :: css.drop i),rfl,by omega,(hT.move (((((((((((ak.trans al).trans ai).trans aj).trans ao).trans ax).trans aE).trans aA).trans aT).trans aU).trans aV).trans bP).step immM (((((((((((ak.trans al).trans ai).trans aj).trans ao).trans ax).trans aE).trans aA).trans aT).trans aU).trans aV).trans bP).to').ins ⟨⟨cV,cW,rfl,(df.move bO.step B2 bO.imm)⟩,fF,fG⟩ hi,by rw [Dc bg,← hout]; exact (Im (FT hi hlt (fun h_=>absurd h_ (by omega))) ‹_› (fun h_=>absurd h_ (by omega))).symm,by rw [← Cp (aF,aW) hi]; omega,bN.pk,bO,((((((((((((bk.trans ak).trans al).trans ai).trans aj).trans ao).trans ax).trans aE).trans aA).trans aT).trans aU).trans aV).trans bP)⟩
 have f5:=of_decide_eq_false cU
 refine wp_exit (F2 (F2 (I7 (A4 (B9 [(4,.v (.slice A_ out.length c_))] bf cS fun iH ff=>?_)))))
 refine wp_ret (D1 ff bf.cells (v:=.slice A_ out.length c_) kz ?_)
 exact LZ bf (k:=0) rfl rfl rfl hT (by omega) (by rw [hout,List.take_of_length_le (by omega)]; rfl)
end Go.Proofs.YtoclgihkbmaolacGreatDoor.ME