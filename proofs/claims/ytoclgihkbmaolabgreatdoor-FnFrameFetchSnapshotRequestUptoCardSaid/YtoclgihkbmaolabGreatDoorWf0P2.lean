/- The texts of a claim, put together: the engine, the contracts, the law. Own work. -/
import Derived.Test.YtoclgihkbmaolabGreatDoorWf0P1
import Derived.ScopeJumps
import Derived.ChangeKeysEq
import Derived.Test.YtoclgihkbmaolabGreatDoorProg
namespace Go.Proofs.YtoclgihkbmaolabGreatDoor.ME
open Go
open Go.RowKit
set_option linter.unusedVariables false
set_option linter.unusedSimpArgs false
set_option maxRecDepth 20000
theorem WOk.layRowR {w0 w:World} {M:Nat → Nat → Prop} {tb:Tb} {rs:List Rw} {g c e size n k:Nat} {xs:List Value} (hW:WOk w0 M w tb rs) (hk:rs[k]? = some ⟨some ⟨g,0,none⟩,c,e,size,n,xs⟩) (hl:k + 1 = rs.length) (rs':List Rw) (hr:rs.take k = rs':=by rfl):WOk w0 M w (tb ++ [⟨g,0,xs,false⟩]) rs':=by
 subst hr
 have ho:=hW.own k _ hk
 have hlive:=qbJ ho (g:=g) rfl
 have hlt:∀ (j:Nat) (r:Rw),(rs.take k)[j]? = some r → j ≠ k ∧ rs[j]? = some r:=fun j r hj=>by
  rw [List.getElem?_take] at hj
  split at hj
  ·exact ⟨by omega,hj⟩
  cases hj
 refine (hW.rows k).add ⟨g,0,xs,false⟩ hlive (fun j v hj=>?_) (fun h=>by cases h) (fun i q hi _=>.inl (hW.rtb k _ hk g rfl i q hi)) (fun i r hi he=>?_)
 ·have:=ho.cells (g:=g) rfl j v hj
  rw [qbN] at this
  dsimp only
  exact this
 obtain ⟨h1,h2⟩:=hlt i r hi
 exact hW.rr k i _ r (fun e=>h1 e.symm) hk h2 g rfl he
theorem qmg {w:World} {base e n m c:Nat} {A:Option Addr} {xs:List Value} (h:w.ownsRow base e 1 (.slice A n c) n xs) (hm:m ≤ n):w.ownsRow base e 1 (.slice A m c) m (xs.take m):=by
 obtain ⟨hl,h⟩:=h
 refine ⟨by rw [List.length_take]; omega,?_⟩
 rcases h with ⟨hv,rfl⟩ | ⟨g,cap,cur,hv,h1,h2,h3,h4,h5,h6⟩
 ·obtain rfl:m = 0:=by omega
  exact .inl ⟨hv,rfl⟩
 simp only [Value.slice.injEq] at hv
 obtain ⟨rfl,_,rfl⟩:=hv
 exact .inr ⟨g,c,cur,rfl,h1,h2,by omega,h4,h5,by rw [← h6,List.take_take]; congr 1; omega⟩
theorem qmh (s t:Bs):(bc (s ++ t)).take s.length = bc s:=by
 rw [qfT]
 exact List.take_left' (by simp [bc])
section
variable {P:Program} {n:Nat} {w0:World} {A0:Option Addr} {e8 d:Nat} {tb:Tb} {env e1 env':Env} {c c1 c2:Code} {x x1 x2 y:Bs}
theorem qgv {r1:Code} {id:Nat} {ops:Array Oper} {o:Operand} {b:Bool} (keys:List Nat) (p d1 d2 t e4 bytes:Nat) {v:Value} {e2:Nat → Nat → Env}
  (hr1:Ch P n w0 A0 e8 d tb env e1 r1 []) (hb:∀ A m cp,opd ((d,.v (.slice A m cp)) :: e1) o = some (.v (.bool b))) (hs:Nat.beq ops.size 4 = true)
  (h0:∀ A m cp,runs P ops n tb [0] ((d,.v (.slice A m cp)) :: e1) = some ((p,.v (.slice none 0 0)) :: (d,.v (.slice A m cp)) :: e1))
  (h1:∀ A m cp,litE P tb ((p,.v (.slice none 0 0)) :: (d,.v (.slice A m cp)) :: e1) ops n 1 = some (e4,1,1,[v],d1))
  (h2:∀ A m cp q,appE tb ((d1,.v (.slice (some ⟨q,0,none⟩) 1 1)) :: (p,.v (.slice none 0 0)) :: (d,.v (.slice A m cp)) :: e1) ops n 2 = some (t,t,.slice none 0 0,.slice (some ⟨q,0,none⟩) 1 1,d2))
  (h3:∀ A m cp q g c',qbT P ops n tb [3] (d :: keys) ((d2,.v (.slice (some ⟨g,0,none⟩) 1 c')) :: (d1,.v (.slice (some ⟨q,0,none⟩) 1 1)) :: (p,.v (.slice none 0 0)) :: (d,.v (.slice A m cp)) :: e1) = some ((d,.v (.slice A m cp)) :: e2 g c'))
  (ht:qch P t = some (e4,1,bytes)) (hby:Nat.ble bytes 64 = true) (hone:qeD [v] = true) (hp:qdm tb.length env' = true)
  (hy:b = true → ∀ g c',Ch P n w0 A0 e8 d (tb ++ [⟨g,0,[v],false⟩]) (e2 g c') env' c2 x) (hn:b = false → Ch P n w0 A0 e8 d tb e1 env' c2 x) :
  Ch P n w0 A0 e8 d tb env env' (.seq (.seq r1 (.cond o (.region id ops false) .skip)) c2) x:=fun Q A cp s a w hE hW hr k=>by
 refine wp_seq (wp_seq (hr1 _ A cp s a w hE hW (by simp; omega) fun A1 cp1 a1 w1 hE1 hW1=>qaa ?_))
 rw [List.append_nil] at hE1 hW1
 refine qaA hE1 (hb _ _ _) (fun hb'=>?_) (fun hb'=>wp_skip (qaa (hn hb' Q A1 cp1 s a1 w1 hE1 hW1 hr k)))
 have hs':ops.size = 4:=Nat.eq_of_beq_eq_true hs
 have hby':bytes ≤ 64:=Nat.le_of_ble_eq_true hby
 have hW2:=hW1.addNil e4 1
 refine qaq ([0] ++ [1,2,3]) (by rw [hs']; rfl) (qbs hW2.cells hE1 (h0 _ _ _) fun a2 hE2=>qby (rest:=[3]) (k:=1) hW2 hE2 (h1 _ _ _) ht (fun q=>h2 _ _ _ q) rfl hone (by simp; omega) fun A' c' a3 w3 hF3 hW3 hb3=>?_)
 obtain ⟨q,hE3⟩:=hb3
 have hown:w3.ownsRow 0 e4 1 (.slice A' (0 + 1) c') (0 + 1) ([] ++ [v]):=hW3.own 1 _ rfl
 obtain ⟨g,rfl⟩:=qcE hown (by omega)
 refine qaP [3] [] (d :: keys) hW3 hE3 (h3 _ _ _ q g c') (List.append_nil _).symm fun a4 hE4=>qae (qaa ?_)
 have hW4:WOk w0 (Blk A0) w3 (tb ++ [⟨g,0,[v],false⟩]) [brow A1 cp1 e8 s]:=hW3.layRowR (k:=1) (xs:=[v]) rfl rfl _ rfl
 refine hy hb' g c' Q A1 cp1 s a4 w3 (hE4.grow _) hW4 hr fun A5 cp5 a5 w5 hE5 hW5=>?_
 have g1:=EnvOk.cutTb tb.length hE5 (by simpa [qdm] using hp)
 have g2:=hW5.cutTb tb.length
 rw [List.take_left' rfl] at g1 g2
 exact k A5 cp5 a5 w5 g1 g2
theorem qiU {id:Nat} {ops:Array Oper} (q:Nat) (keys:List Nat) {t e:TypeId} {size bytes dd:Nat} {b:Nat}
  (h:∀ A m cp,idxE tb ((d,.v (.slice A m cp)) :: env) ops n 0 = some (t,some ⟨b,0,none⟩,1,0,dd)) (ht:qch P t = some (e,size,bytes)) (hq:q < tb.length) (hb:(obAt tb q).blk = b) (ho:(obAt tb q).off = 0) (hs:Nat.blt 0 ops.size = true)
  (h2:∀ A m cp,qbT P ops n tb (upto 1 ops.size) (d :: keys) ((dd,.p q 0) :: (dd,.v (.pointer (some ⟨b,0 + 0 * size,none⟩))) :: (d,.v (.slice A m cp)) :: env) = some ((d,.v (.slice A m cp)) :: e1))
  (hc:Ch P n w0 A0 e8 d tb e1 env' c2 x):Ch P n w0 A0 e8 d tb env env' (.seq (.region id ops false) c2) x:=fun Q A cp s a w hE hW hr k=>by
 have hs':0 < ops.size:=by simpa [Nat.blt_eq] using hs
 refine qad (0 :: upto 1 ops.size) (by
  have:=qbR hs'
  unfold upto at this ⊢
  rw [List.drop_zero] at this
  rw [this]; rfl) (qam (qaz hE (h _ _ _) ht rfl (j:=0) rfl (by omega) fun a1 hE1=>?_))
 have hE2:EnvOk n tb ((dd,.p q 0) :: (dd,.v (.pointer (some ⟨b,0 + 0 * size,none⟩))) :: (d,.v (.slice A s.length cp)) :: env) a1 :=
  hE1.recast dd (.v (.pointer (some ⟨b,0 + 0 * size,none⟩))) (.p q 0) (by simp [lk]) (by simp [SV.val,hb,ho]) hq
 exact qaP (upto 1 ops.size) [] (d :: keys) hW hE2 (h2 _ _ _) (List.append_nil _).symm fun a2 hE3=>qae (qaa (hc Q A cp s a2 w hE3 hW hr k))
theorem qiV {id:Nat} (h:Ch P n w0 A0 e8 d tb env env' c x):Ch P n w0 A0 e8 d tb env env' (.block id c) x:=fun Q A cp s a w hE hW hr k =>
 wp_block (h _ A cp s a w hE hW hr fun A' cp' a' w' hE' hW'=>qaw (k A' cp' a' w' hE' hW'))
theorem qio (s:Bs):((qas s).all fun b_=>b_ == 0) = ((s.take 16).all fun b_=>b_ == 0):=by
 rw [qc1]
 unfold qeK
 rw [List.all_append]
 have:((List.replicate (16 - s.length) (0:UInt8)).all fun b_=>b_ == 0) = true:=by
  rw [List.all_eq_true]
  intro x hx
  rw [List.eq_of_mem_replicate hx]; rfl
 rw [this,Bool.and_true]
theorem qkx {cD cT:Bool} {k:Nat} {ED ET:Bs} {u u':List (Int × Bs)} (hu:u = u') (h:cD = cT ∧ (cT = true → ED = ET)):uv (tagC cD + u.length) ++ (tagP cD k ED ++ qbp u) = uv (tagC cT + u'.length) ++ (tagP cT k ET ++ qbp u'):=by
 obtain ⟨rfl,h2⟩:=h
 subst hu
 cases cD with
 | false=>rw [qfs rfl,qfs rfl]
 | true=>rw [h2 rfl]
theorem qm0 (X:Bs):(List.range 1).flatMap (fun _=>X) = X:=by simp [List.range_succ]
theorem qnq {b q:Bool} {t:ByteArray} (h:t.size ≤ 1000000):(if b = true then (if q = true then uv 0 else uv (t.size + 1) ++ sb t) else (if q = true then be 2 (-1) else be 2 t.size ++ sb t)).length < 4294967296:=by
 have h1:=qdC (t.size + 1) (by omega)
 have h2:=qdC 0 (by omega)
 have h3:(sb t).length = t.size:=qd1 t
 split <;> split <;> first | omega | (simp only [List.length_append,be_length]; omega)
def ChK (P:Program) (n:Nat) (w0:World) (A0:Option Addr) (e8 d:Nat) (tb:Tb) (env env':Env) (tail c:Code) (x:Bs):Prop :=
 ∀ (Q:Exit → Act → World → Prop) (A:Option Addr) (cp:Nat) (s:Bs) (a:Act) (w:World),
  EnvOk n tb ((d,.v (.slice A s.length cp)) :: env) a → WOk w0 (Blk A0) w tb [brow A cp e8 s] → s.length + x.length + 16 ≤ 1099511627776 →
  (∀ A' cp' a' w',EnvOk n tb ((d,.v (.slice A' (s ++ x).length cp')) :: env') a' → WOk w0 (Blk A0) w' tb [brow A' cp' e8 (s ++ x)] → tail.wp P Q a' w') → c.wp P Q a w
theorem qmi:ChK P n w0 A0 e8 d tb env env c c []:=fun Q A cp s a w hE hW hr k=>k A cp a w (by simpa using hE) (by simpa using hW)
theorem qmj {tail:Code} (h1:Ch P n w0 A0 e8 d tb env e1 c1 x1) (h2:ChK P n w0 A0 e8 d tb e1 env' tail c2 x2):ChK P n w0 A0 e8 d tb env env' tail (.seq c1 c2) (x1 ++ x2):=fun Q A cp s a w hE hW hr k=>by
 rw [List.length_append] at hr
 refine wp_seq (h1 _ A cp s a w hE hW (by omega) fun A' cp' a' w' hE' hW'=>qaa (h2 Q A' cp' (s ++ x1) a' w' hE' hW' (by simp only [List.length_append]; omega) fun A2 cp2 a2 w2 hE2 hW2=>?_))
 rw [List.append_assoc] at hE2 hW2
 exact k A2 cp2 a2 w2 hE2 hW2
theorem qm1 {tail:Code} (h:ChK P n w0 A0 e8 d tb env env' tail c x) (e:x = y):ChK P n w0 A0 e8 d tb env env' tail c y:=e ▸ h
theorem qhJ {ops:Array Oper} {Q:Exit → Act → World → Prop} {T:World → Prop} {cc:Nat} {a:Act} {w:World} {i d' j fuel:Nat} {t e:TypeId} {size bytes m cp:Nat} {A:Option Addr} {q:Int} {listed:Array Bool} (hE:EnvOk n tb env a) (h:cutE tb env ops n i = some (t,.slice A m cp,none,some q,d')) (ht:qch P t = some (e,size,bytes)) (hq:q = (j:Int)) (hj:j ≤ cp)
  (hns:Region.noSelect ops = true) (hk:qdY ops cc [i] listed = true) (hQ:qbZ Q) (hT:T w)
  (K:∀ a',EnvOk n tb ((d',.v (.slice A j cp)) :: env) a' → qbS P ops Q T cc fuel (listed.setIfInBounds i true) a' w):qbS P ops Q T cc (fuel + 1) listed a w:=by
 have h0:0 ≤ q:=by omega
 have h1:q ≤ cp:=by omega
 obtain rfl:j = q.toNat:=by omega
 unfold cutE at h
 split at h
 ·rename_i t' x lo hi d2 ho
  have hd:d2 < n:=(qbn hE ho).choose_spec.2.2.2.1
  split at h
  ·simp at h
  ·split at h <;> simp at h
  ·rename_i s hh hs
   split at h
   ·rename_i k q' hs2
    simp only [Option.some.injEq,Prod.mk.injEq,true_and] at h
    obtain ⟨rfl,hsv,rfl,rfl⟩:=h
    have e1:=(qaT hE hs).1
    have e2:=(qaT hE hs2).1
    obtain ⟨o',g1,g2,g3,g4,g5⟩:=qbn hE ho
    simp only [qdY,Bool.and_eq_true,and_true] at hk
    refine qdt g1 hns hk.1.1 hk.1.2 hk.2 hQ (v:=.slice A q'.toNat cp) (.inl ⟨g2,fun w' _=>?_⟩) hT ?_
    ·unfold execOp
     rw [g5]
     rw [hsv] at e1
     simp only [SV.val] at e2
     simp only [e1,e2,Option.map_none,Option.map_some,Sem.run_bind,qgj ht h0 h1,Result.andThen_ok,Sem.run_pure]
    rw [g3]
    exact K _ (hE.put hd (.v _) trivial)
   cases h
  ·split at h <;> simp at h
  cases h
 cases h
theorem qhK {ops:Array Oper} {Q:Exit → Act → World → Prop} {T:World → Prop} {cc:Nat} {a:Act} {w:World} {i d' j fuel:Nat} {t e:TypeId} {bytes m cp:Nat} {A:Option Addr} {q:Int} {listed:Array Bool} (hE:EnvOk n tb env a) (h:cutE tb env ops n i = some (t,.slice A m cp,some q,none,d')) (ht:qch P t = some (e,1,bytes)) (hq:q = (j:Int)) (hj:j ≤ m)
  (hns:Region.noSelect ops = true) (hk:qdY ops cc [i] listed = true) (hQ:qbZ Q) (hT:T w)
  (K:∀ a',EnvOk n tb ((d',.v (.slice (cutA A cp j) (m - j) (cp - j))) :: env) a' → qbS P ops Q T cc fuel (listed.setIfInBounds i true) a' w):qbS P ops Q T cc (fuel + 1) listed a w:=by
 have h0:0 ≤ q:=by omega
 have h1:q ≤ m:=by omega
 obtain rfl:j = q.toNat:=by omega
 unfold cutE at h
 split at h
 ·rename_i t' x lo hi d2 ho
  have hd:d2 < n:=(qbn hE ho).choose_spec.2.2.2.1
  split at h
  ·simp at h
  ·rename_i s l hs
   split at h
   ·rename_i k q' hs2
    simp only [Option.some.injEq,Prod.mk.injEq,true_and] at h
    obtain ⟨rfl,hsv,rfl,rfl⟩:=h
    have e1:=(qaT hE hs).1
    have e2:=(qaT hE hs2).1
    obtain ⟨o',g1,g2,g3,g4,g5⟩:=qbn hE ho
    simp only [qdY,Bool.and_eq_true,and_true] at hk
    refine qdt g1 hns hk.1.1 hk.1.2 hk.2 hQ (v:=.slice (cutA A cp q'.toNat) (m - q'.toNat) (cp - q'.toNat)) (.inl ⟨g2,fun w' _=>?_⟩) hT ?_
    ·unfold execOp
     rw [g5]
     rw [hsv] at e1
     simp only [SV.val] at e2
     simp only [e1,e2,Option.map_none,Option.map_some,Sem.run_bind,qgu ht h0 h1,Result.andThen_ok,Sem.run_pure]
    rw [g3]
    exact K _ (hE.put hd (.v _) trivial)
   cases h
  ·split at h <;> simp at h
  ·split at h <;> simp at h
  cases h
 cases h
def qky (o:Bs):Array Value:=#[qag (o.getD 0 0),qag (o.getD 1 0),qag (o.getD 2 0),qag (o.getD 3 0),qag (o.getD 4 0),qag (o.getD 5 0),qag (o.getD 6 0),qag (o.getD 7 0),qag (o.getD 8 0),qag (o.getD 9 0),qag (o.getD 10 0),qag (o.getD 11 0),qag (o.getD 12 0),qag (o.getD 13 0),qag (o.getD 14 0),qag (o.getD 15 0)]
def qhL:Array Value:=#[.int .u8 0,.int .u8 0,.int .u8 0,.int .u8 0,.int .u8 0,.int .u8 0,.int .u8 0,.int .u8 0,.int .u8 0,.int .u8 0,.int .u8 0,.int .u8 0,.int .u8 0,.int .u8 0,.int .u8 0,.int .u8 0]
theorem qf5 {w:World} (d:Nat) {e:TypeId} (hp:P.plainKey e = true) (hu:P.underlying e = some (.int .u8)) (o:Bs):∀ (is:List Nat),(∀ j ∈ is,j < 16) →
    (Op.eqItems (d + 1) e 1 (qky o) qhL is).run P w = .ok (decide (∀ j ∈ is,o.getD j 0 = 0)) w
  | [],_=>by simp [Op.eqItems]
  | j :: is,hj=>by
    have h16:j < 16:=hj j (List.mem_cons_self ..)
    have ih:=qf5 (w:=w) d hp hu o is fun i hi=>hj i (List.mem_cons_of_mem _ hi)
    have e1:(qky o)[j * 1]? = some (.int .u8 ((o.getD j 0).toNat:Int)):=by
      rw [Nat.mul_one]
      match j,h16 with
      | 0,_ | 1,_ | 2,_ | 3,_ | 4,_ | 5,_ | 6,_ | 7,_ | 8,_ | 9,_ | 10,_ | 11,_ | 12,_ | 13,_ | 14,_ | 15,_=>rfl
      | n + 16,h=>omega
    have e2:qhL[j * 1]? = some (.int .u8 0):=by
      rw [Nat.mul_one]
      match j,h16 with
      | 0,_ | 1,_ | 2,_ | 3,_ | 4,_ | 5,_ | 6,_ | 7,_ | 8,_ | 9,_ | 10,_ | 11,_ | 12,_ | 13,_ | 14,_ | 15,_=>rfl
      | n + 16,h=>omega
    have e3:(((o.getD j 0).toNat:Int) == 0) = decide (o.getD j 0 = 0):=by
      rw [Bool.eq_iff_iff,beq_iff_eq,decide_eq_true_iff]
      constructor
      · intro h; exact UInt8.toNat.inj (by have:(o.getD j 0).toNat = 0:=by omega
                                           rw [this]; rfl)
      intro h; rw [h]; rfl
    simp only [Op.eqItems,Sem.run_bind,run_part_plain w hp e1,run_part_plain w hp e2,Result.andThen_ok,run_equalIn_int w d e .u8 .u8 _ _ hu,e3]
    by_cases hz:o.getD j 0 = 0
    · simp only [hz,decide_true,Bool.not_true,Bool.false_eq_true,if_false,ih,List.forall_mem_cons,true_and]
    simp only [hz,decide_false,Bool.not_false,if_true,Sem.run_pure,List.forall_mem_cons,false_and]
theorem qjp {o:Bs} (h:o.length = 16):decide (∀ j ∈ List.range 16,o.getD j 0 = 0) = o.all fun b_=>b_ == 0:=by
 rw [Bool.eq_iff_iff,decide_eq_true_iff,List.all_eq_true]
 constructor
 ·intro g x hx
  obtain ⟨i,hi,rfl⟩:=List.mem_iff_getElem.1 hx
  have:=g i (List.mem_range.2 (by omega))
  rw [List.getD_eq_getElem?_getD,List.getElem?_eq_getElem hi] at this
  simpa using this
 intro g j hj
 have hj':j < o.length:=by rw [h]; exact List.mem_range.1 hj
 have:=g (o[j]) (List.getElem_mem hj')
 rw [List.getD_eq_getElem?_getD,List.getElem?_eq_getElem hj']
 simpa using this
def neE (tb:Tb) (env:Env) (ops:Array Oper) (n i:Nat):Option (TypeId × Value × Value × Nat) :=
 match opAt env ops n i with
 | some (.binOp .neq t x y _,d)=>match opd env x,opd env y with
  | some (.v a),some (.v b)=>some (t,a,b,d)
  | _,_=>none
 | _=>none
theorem qip {ops:Array Oper} {Q:Exit → Act → World → Prop} {i d':Nat} {N:Act → World → Prop} {t e:TypeId} {inf:TypeInfo} {o:Bs} {a:Act} {w:World} (hE:EnvOk n tb env a) (h:neE tb env ops n i = some (t,.agg (qky o),.agg qhL,d')) (hu:P.underlying t = some (.array 16 e)) (hi:P.info? e = some inf) (hc:P.cellsOf e = 1) (hp:P.plainKey e = true) (hu8:P.underlying e = some (.int .u8)) (hg:P.eqGuardType P.depth t = false) (ho:o.length = 16)
  (K:∀ a',EnvOk n tb ((d',.v (.bool (!o.all fun b_=>b_ == 0))) :: env) a' → N a' w):wpOp P ops Q i N a w:=by
 unfold neE at h
 split at h
 ·rename_i t' x y yt d2 ho'
  have hd:=(qbn hE ho').choose_spec.2.2.2.1
  split at h
  ·rename_i a' b' hs1 hs2
   simp only [Option.some.injEq,Prod.mk.injEq] at h
   obtain ⟨rfl,rfl,rfl,rfl⟩:=h
   have e1:=(qaT hE hs1).1
   have e2:=(qaT hE hs2).1
   refine qa0 hE ho' (v:=.bool (!o.all fun b_=>b_ == 0)) (w':=w) (fun o' hop=>?_) (K _ (hE.put hd (.v _) trivial))
   have hq:(Op.equal t' (.agg (qky o)) (.agg qhL)).run P w = .ok (o.all fun b_=>b_ == 0) w:=by
    rw [qcO,run_equalIn_array w 9999 _ _ hu hi,hc,qf5 9998 hp hu8 o _ (fun j hj=>List.mem_range.1 hj),qjp ho]
   unfold execOp
   rw [hop]
   simp only [SV.val] at e1 e2
   simp only [e1,e2,Sem.run_bind]
   unfold eqGuard
   simp [Sem.run_bind,hg,binOp,hq]
  cases h
 cases h
def neP (P:Program) (ops:Array Oper) (n:Nat) (tb:Tb) (i:Nat) (keys:List Nat) (env:Env) (r:Value):Option ((TypeId × Value × Value) × Env) :=
 match runs P ops n tb (List.range i) env with
 | some e=>match neE tb e ops n i with
  | some (t,a,b,dd)=>match pick ((dd,.v r) :: e) keys with
   | some e'=>some ((t,a,b),e')
   | none=>none
  | none=>none
 | none=>none
theorem qm2 {ops:Array Oper} {i:Nat} {keys:List Nat} {r a b:Value} {t:TypeId} (h:neP P ops n tb i keys env r = some ((t,a,b),env')) :
  ∃ e dd,runs P ops n tb (List.range i) env = some e ∧ neE tb e ops n i = some (t,a,b,dd) ∧ pick ((dd,.v r) :: e) keys = some env':=by
 unfold neP at h
 split at h
 ·rename_i e he
  split at h
  ·rename_i t' a' b' dd ht
   split at h
   ·rename_i e' he'
    simp only [Option.some.injEq,Prod.mk.injEq] at h
    obtain ⟨⟨rfl,rfl,rfl⟩,rfl⟩:=h
    exact ⟨e,dd,he,ht,he'⟩
   cases h
  cases h
 cases h
theorem qkz {id:Nat} {ops:Array Oper} {e2:Env} (i:Nat) (keys:List Nat) {t e:TypeId} {o:Bs}
  (h:∀ A m cp,neP P ops n tb i (d :: keys) ((d,.v (.slice A m cp)) :: env) (.bool (!o.all fun b_=>b_ == 0)) = some ((t,.agg (qky o),.agg qhL),(d,.v (.slice A m cp)) :: e2)) (hs:Nat.beq ops.size (i + 1) = true)
  (hu:P.underlying t = some (.array 16 e)) (hi:(P.info? e).isSome = true) (hc:P.cellsOf e = 1) (hp:P.plainKey e = true) (hu8:P.underlying e = some (.int .u8)) (hg:P.eqGuardType P.depth t = false) (ho:o.length = 16):Ch P n w0 A0 e8 d tb env e2 (.region id ops false) []:=fun Q A cp s a w hE hW hr k=>by
 have hs':ops.size = i + 1:=Nat.eq_of_beq_eq_true hs
 obtain ⟨e1,dd,g1,g2,g3⟩:=qm2 (h A s.length cp)
 obtain ⟨inf,hi⟩:=Option.isSome_iff_exists.1 hi
 refine qaq (List.range i ++ [i]) (by rw [hs',List.range_succ]) (qbs hW.cells hE g1 fun a1 hE1=>qam (qip hE1 g2 hu hi hc hp hu8 hg ho fun a2 hE2=>qae ?_))
 exact k A cp a2 w (by simpa using hE2.pick g3) (by simpa using hW)
def qm3 (N:Act → World → Prop):Exit → Act → World → Prop:=fun e a w=>e = .normal ∧ N a w
theorem qey {N:Act → World → Prop}:qbZ (qm3 N):=fun ch a d v w h=>by cases h.1
theorem qlm {w:World} {base e n c:Nat} {A:Option Addr} {xs:List Value} (h:w.ownsRow base e 1 (.slice A n c) n xs):n ≤ c:=by
 rcases h.2 with ⟨hv,rfl⟩ | ⟨g,cap,cur,hv,h1,h2,h3,_⟩
 ·exact Nat.zero_le _
 simp only [Value.slice.injEq] at hv
 obtain ⟨_,_,rfl⟩:=hv
 exact h3
theorem qea {x:Nat} (h:x < 4294967296):IntKind.u32.wrap ((x:Nat):Int) = ((x:Nat):Int):=by rw [qap]; omega
def qkA:Nat → Code → Code
 | 0,c=>c
 | k + 1,.seq _ c=>qkA k c
 | _ + 1,c=>c
theorem qln {c3 rest:Code} {id77 id81 id82 id83:Nat} {ops77 ops81 ops82 ops83:Array Oper} {E kx:Bs} {e2 e3:Env} {eL:Nat → Bool → Env} {fU:FuncId} {t bytes:Nat} (l tc p0 p1 s2 p3 p4 s5 s6 s7 s8:Nat) (kL:List Nat)
  (kT:Nat) (hT_:qkA kT rest = .seq (.region id81 ops81 false) (.cond (.tmp tc) (.seq (.region id82 ops82 true) (.seq (.region id83 ops83 false) (.goto l))) .skip))
  (hl:findLabel (.seq c1 (.seq c2 (.seq c3 (.seq (.region id77 ops77 false) (.seq (.label l) rest))))) l = some (.seq .skip rest))
  (h1:Ch P n w0 A0 e8 d tb env e1 c1 []) (h2:Ch P n w0 A0 e8 d tb e1 e2 c2 kx) (h3:Ch P n w0 A0 e8 d tb e2 e3 c3 [])
  (h77:∀ A m cp,qbT P ops77 n tb (List.range ops77.size) (d :: kL) ((d,.v (.slice A m cp)) :: e3) = some ((d,.v (.slice A m cp)) :: eL m false))
  (hE:∀ L z,ChK P n w0 A0 e8 d tb (eL L z) (eL L z) (.seq (.region id81 ops81 false) (.cond (.tmp tc) (.seq (.region id82 ops82 true) (.seq (.region id83 ops83 false) (.goto l))) .skip)) rest E)
  (h81:∀ L z A m cp,qbT P ops81 n tb (List.range ops81.size) (d :: tc :: kL) ((d,.v (.slice A m cp)) :: eL L z) = some ((d,.v (.slice A m cp)) :: (tc,.v (.bool (!z))) :: eL L z))
  (hm:P.follows .mixedOrders = true) (hns:Region.noSelect ops82 = true) (hsz:Nat.beq ops82.size 10 = true) (ht:qch P t = some (e8,1,bytes))
  (r1:∀ A m cp L,qbT P ops82 n tb [0,1,3,4] (d :: p0 :: p1 :: p3 :: p4 :: kL) ((d,.v (.slice A m cp)) :: (tc,.v (.bool true)) :: eL L false) = some ((d,.v (.slice A m cp)) :: (p0,.v (.slice A m cp)) :: (p1,.v (.int .i64 ((L:Nat):Int))) :: (p3,.v (.slice A m cp)) :: (p4,.v (.int .i64 ((L:Nat):Int))) :: eL L false))
  (k1:qdY ops82 9 [0,1,3,4] (Array.replicate 10 false) = true)
  (r2:∀ A m cp L,cutE tb ((d,.v (.slice A m cp)) :: (p0,.v (.slice A m cp)) :: (p1,.v (.int .i64 ((L:Nat):Int))) :: (p3,.v (.slice A m cp)) :: (p4,.v (.int .i64 ((L:Nat):Int))) :: eL L false) ops82 n 2 = some (t,.slice A m cp,none,some ((L:Nat):Int),s2))
  (k2:qdY ops82 9 [2] (qeZ [0,1,3,4] (Array.replicate 10 false)) = true)
  (r5:∀ A m cp L,cutE tb ((s2,.v (.slice A L cp)) :: (d,.v (.slice A m cp)) :: (p0,.v (.slice A m cp)) :: (p1,.v (.int .i64 ((L:Nat):Int))) :: (p3,.v (.slice A m cp)) :: (p4,.v (.int .i64 ((L:Nat):Int))) :: eL L false) ops82 n 5 = some (t,.slice A m cp,some ((L:Nat):Int),none,s5))
  (k5:qdY ops82 9 [5] ((qeZ [0,1,3,4] (Array.replicate 10 false)).setIfInBounds 2 true) = true)
  (r6:∀ A m cp L B p q,qbT P ops82 n tb [6,7] (d :: s2 :: s7 :: kL) ((s5,.v (.slice B p q)) :: (s2,.v (.slice A L cp)) :: (d,.v (.slice A m cp)) :: (p0,.v (.slice A m cp)) :: (p1,.v (.int .i64 ((L:Nat):Int))) :: (p3,.v (.slice A m cp)) :: (p4,.v (.int .i64 ((L:Nat):Int))) :: eL L false) = some ((d,.v (.slice A m cp)) :: (s2,.v (.slice A L cp)) :: (s7,.v (.int .u32 (IntKind.u32.wrap ((p:Nat):Int)))) :: eL L false))
  (k6:qdY ops82 9 [6,7] (((qeZ [0,1,3,4] (Array.replicate 10 false)).setIfInBounds 2 true).setIfInBounds 5 true) = true)
  (r8:∀ A m cp L p,qcU tb ((d,.v (.slice A m cp)) :: (s2,.v (.slice A L cp)) :: (s7,.v (.int .u32 (IntKind.u32.wrap ((p:Nat):Int)))) :: eL L false) ops82 n 8 = some (fU,[.slice A L cp,.int .u32 (IntKind.u32.wrap ((p:Nat):Int))],s8))
  (k8:Region.ready .any ops82 (qeZ [6,7] (((qeZ [0,1,3,4] (Array.replicate 10 false)).setIfInBounds 2 true).setIfInBounds 5 true)) = [8])
  (r9:∀ A m cp L p A' m' cp',qbT P ops82 n tb [9] (d :: kL) ((s8,.v (.slice A' m' cp')) :: (d,.v (.slice A m cp)) :: (s2,.v (.slice A L cp)) :: (s7,.v (.int .u32 (IntKind.u32.wrap ((p:Nat):Int)))) :: eL L false) = some ((d,.v (.slice A' m' cp')) :: eL L false))
  (k9:Region.ready .any ops82 ((qeZ [6,7] (((qeZ [0,1,3,4] (Array.replicate 10 false)).setIfInBounds 2 true).setIfInBounds 5 true)).setIfInBounds 8 true) = [9])
  (k10:Region.ready .any ops82 (((qeZ [6,7] (((qeZ [0,1,3,4] (Array.replicate 10 false)).setIfInBounds 2 true).setIfInBounds 5 true)).setIfInBounds 8 true).setIfInBounds 9 true) = [])
  (hU:∀ (y:Nat),y < 4294967296 → ∀ (A:Option Addr) (cp:Nat) (s:Bs) (w:World),w.ownsRow 0 e8 1 (.slice A s.length cp) s.length (bc s) → s.length + (uv y).length + 16 ≤ 1099511627776 → Calls P fU #[.slice A s.length cp,.int .u32 ((y:Nat):Int)] w (qbF w e8 A (s ++ uv y)))
  (hfU:∀ args w,(callFunc fU args).run P w = .ok (.enter fU args) w)
  (h83:∀ A m cp L,qbT P ops83 n tb (List.range ops83.size) (d :: kL) ((d,.v (.slice A m cp)) :: eL L false) = some ((d,.v (.slice A m cp)) :: eL L true))
  (hp:∀ A m cp L,pick ((d,.v (.slice A m cp)) :: (tc,.v (.bool false)) :: eL L true) (d :: qbX env') = some ((d,.v (.slice A m cp)) :: env')) (hn0:Nat.beq d tc = false) (hlen:E.length < 4294967296) :
  Ch P n w0 A0 e8 d tb env env' (.scope (.seq c1 (.seq c2 (.seq c3 (.seq (.region id77 ops77 false) (.seq (.label l) rest)))))) (kx ++ (uv E.length ++ E)):=fun Q A cp s a w hEn hW hr k=>by
 simp only [List.length_append] at hr
 refine wp_scope_jumps l (fun a_ w_=>∃ A' cp',EnvOk n tb ((d,.v (.slice A' ((s ++ kx) ++ uv E.length).length cp')) :: eL (s ++ kx).length true) a_ ∧ WOk w0 (Blk A0) w_ tb [brow A' cp' e8 ((s ++ kx) ++ uv E.length)]) (fun _ _=>0) hl ?_ ?_
 ·refine wp_seq (h1 _ A cp s a w hEn hW (by simp; omega) fun A1 cp1 a1 w1 hE1 hW1=>qaa ?_)
  rw [List.append_nil] at hE1 hW1
  refine wp_seq (h2 _ A1 cp1 s a1 w1 hE1 hW1 (by omega) fun A2 cp2 a2 w2 hE2 hW2=>qaa ?_)
  refine wp_seq (h3 _ A2 cp2 (s ++ kx) a2 w2 hE2 hW2 (by simp; omega) fun A3 cp3 a3 w3 hE3 hW3=>qaa ?_)
  rw [List.append_nil] at hE3 hW3
  refine qad _ rfl (qaP (List.range ops77.size) [] (d :: kL) hW3 hE3 (h77 _ _ _) (List.append_nil _).symm fun a4 hE4=>qae (qaa ?_))
  refine wp_seq (wp_label (qaa (hE (s ++ kx).length false _ A3 cp3 (s ++ kx) a4 w3 hE4 hW3 (by simp only [List.length_append]; omega) fun A5 cp5 a5 w5 hE5 hW5=>?_)))
  refine qad _ rfl (qaP (List.range ops81.size) [] (d :: tc :: kL) hW5 hE5 (h81 _ _ _ _ _) (List.append_nil _).symm fun a6 hE6=>qae (qaa ?_))
  refine qbw hE6 (b:=true) (by simp [opd,lk,hn0]) rfl ?_
  have hsz':ops82.size = 10:=Nat.eq_of_beq_eq_true hsz
  refine wp_seq (wp_mono (Q:=qm3 fun a_ w_=>∃ A' cp',EnvOk n tb ((d,.v (.slice A' ((s ++ kx) ++ uv E.length).length cp')) :: eL (s ++ kx).length false) a_ ∧ WOk w0 (Blk A0) w_ tb [brow A' cp' e8 ((s ++ kx) ++ uv E.length)]) ?_ ?_)
  ·refine qgE 9 hm hW5 fun w6 hF6 hW6 hT6=>?_
   have e10:(Array.replicate ops82.size false) = Array.replicate 10 false:=by rw [hsz']
   rw [e10,hsz']
   refine qgD [0,1,3,4] _ 6 hns qey (fun _ h=>h.cells) hT6 hE6 k1 (r1 _ _ _ _) rfl fun a7 hE7=>?_
   have hcap:((s ++ kx) ++ E).length ≤ cp5:=qlm (hW6.own 0 _ rfl)
   refine qhJ (j:=(s ++ kx).length) hE7 (r2 _ _ _ _) ht rfl (Nat.le_trans (by simp only [List.length_append]; omega) hcap) hns k2 qey hT6 fun a8 hE8=>?_
   refine qhK (j:=(s ++ kx).length) hE8 (r5 _ _ _ _) ht rfl (by simp only [List.length_append]; omega) hns k5 qey hT6 fun a9 hE9=>?_
   refine qgD [6,7] _ 2 hns qey (fun _ h=>h.cells) hT6 hE9 k6 (r6 _ _ _ _ _ _ _) rfl fun a10 hE10=>?_
   have ep:((s ++ kx) ++ E).length - (s ++ kx).length = E.length:=by rw [List.length_append]; omega
   have hown:w6.ownsRow 0 e8 1 (.slice A5 (s ++ kx).length cp5) (s ++ kx).length (bc (s ++ kx)):=by
    have:=qmg (m:=(s ++ kx).length) (hW6.own 0 _ rfl) (show (s ++ kx).length ≤ ((s ++ kx) ++ E).length by simp only [List.length_append]; omega)
    rwa [show (brow A5 cp5 e8 ((s ++ kx) ++ E)).xs = bc ((s ++ kx) ++ E) from rfl,qmh] at this
   have r8':=r8 A5 ((s ++ kx) ++ E).length cp5 (s ++ kx).length (((s ++ kx) ++ E).length - (s ++ kx).length)
   rw [ep,qea hlen] at r8'
   rw [ep,qea hlen] at hE10
   refine qaJ k8 (qal hE10 r8' hfU (hU E.length hlen A5 cp5 (s ++ kx) w6 hown (by simp only [List.length_append]; omega)) ?_)
   rintro e_ w7 ⟨A7,c7,rfl,ho7,hs7,hn7⟩
   refine ⟨_,rfl,fun a11 hE11=>?_⟩
   have hW7:WOk w0 (Blk A0) w7 tb [brow A7 c7 e8 ((s ++ kx) ++ uv E.length)]:=hW6.grow (k:=0) rfl hs7 ho7 hn7
   have hF7:Fr w6 tb [brow A5 cp5 e8 ((s ++ kx) ++ E)] w7 tb [brow A7 c7 e8 ((s ++ kx) ++ uv E.length)]:=Fr.grow tb (k:=0) (rs:=[brow A5 cp5 e8 ((s ++ kx) ++ E)]) (r':=brow A7 c7 e8 ((s ++ kx) ++ uv E.length)) rfl hs7 hn7
   refine ⟨fun _=>TT.ofW hF7 hW7 (List.take_length),?_⟩
   have r9':=r9 A5 ((s ++ kx) ++ E).length cp5 (s ++ kx).length E.length A7 ((s ++ kx) ++ uv E.length).length c7
   rw [qea hlen] at r9'
   refine qaJ k9 (qcg (d :: kL) hW7.cells hE11 r9' fun a12 hE12=>⟨fun h=>absurd rfl h,?_⟩)
   exact qaW k10 ⟨rfl,A7,c7,hE12,hW7⟩ _
  rintro e_ a_ w_ ⟨rfl,A7,c7,hE7,hW7⟩
  refine qaa (qad _ rfl (qaP (List.range ops83.size) [] (d :: kL) hW7 hE7 (h83 _ _ _ _) (List.append_nil _).symm fun a8 hE8=>qae (qaa (wp_goto ⟨rfl,A7,c7,hE8,hW7⟩))))
 rintro a1 w1 ⟨A1,cp1,hE1,hW1⟩
 refine wp_seq (wp_skip (qaa (hE (s ++ kx).length true _ A1 cp1 _ a1 w1 hE1 hW1 (by simp only [List.length_append]; omega) fun A5 cp5 a5 w5 hE5 hW5=>?_)))
 refine qad _ rfl (qaP (List.range ops81.size) [] (d :: tc :: kL) hW5 hE5 (h81 _ _ _ _ _) (List.append_nil _).symm fun a6 hE6=>qae (qaa ?_))
 refine qau hE6 (b:=false) (by simp [opd,lk,hn0]) rfl (wp_skip ?_)
 have hE7:=hE6.pick (hp _ _ _ _)
 have e:(s ++ kx ++ uv E.length) ++ E = s ++ (kx ++ (uv E.length ++ E)):=by simp only [List.append_assoc]
 rw [e] at hE7 hW5
 exact k A5 cp5 a6 w5 hE7 hW5
end
def qaZ (w:World) (F:Nat → Nat → Prop) (D:DV):Prop:=(True) ∧ (True) ∧ MapR w F D.m D.u ∧ D.u.length ≤ 1000000 ∧ (∀ x ∈ D.u,x.2.length < 4294967296) ∧ True
def qaM (w:World) (F:Nat → Nat → Prop) (D:DV):Prop:=(True) ∧ (True) ∧ (qaZ w F (D.f 2)) ∧ (True) ∧ ((D.f 4).o.length = 16) ∧ MapR w F D.m D.u ∧ D.u.length ≤ 1000000 ∧ (∀ x ∈ D.u,x.2.length < 4294967296) ∧ True
def qa3 (w:World) (F:Nat → Nat → Prop) (D:DV):Prop:=((D.f 0).s.size ≤ 1000000) ∧ (Slots w F 23 (D.f 1).A (D.f 1).c (D.f 1).l (fun i=>[.int .i32 ((((D.f 1).f i).f 0).n),.int .i32 ((((D.f 1).f i).f 1).n),.int .i64 (((((D.f 1).f i).f 2).f 0).n),.int .i32 (((((D.f 1).f i).f 2).f 1).n),.map ((((D.f 1).f i).f 2).m),.int .i64 ((((D.f 1).f i).f 3).n),qag ((((D.f 1).f i).f 4).o.getD 0 0),qag ((((D.f 1).f i).f 4).o.getD 1 0),qag ((((D.f 1).f i).f 4).o.getD 2 0),qag ((((D.f 1).f i).f 4).o.getD 3 0),qag ((((D.f 1).f i).f 4).o.getD 4 0),qag ((((D.f 1).f i).f 4).o.getD 5 0),qag ((((D.f 1).f i).f 4).o.getD 6 0),qag ((((D.f 1).f i).f 4).o.getD 7 0),qag ((((D.f 1).f i).f 4).o.getD 8 0),qag ((((D.f 1).f i).f 4).o.getD 9 0),qag ((((D.f 1).f i).f 4).o.getD 10 0),qag ((((D.f 1).f i).f 4).o.getD 11 0),qag ((((D.f 1).f i).f 4).o.getD 12 0),qag ((((D.f 1).f i).f 4).o.getD 13 0),qag ((((D.f 1).f i).f 4).o.getD 14 0),qag ((((D.f 1).f i).f 4).o.getD 15 0),.map (((D.f 1).f i).m)]) ∧ (D.f 1).l ≤ 1000000 ∧ ∀ i,i < (D.f 1).l → qaM w F ((D.f 1).f i)) ∧ MapR w F D.m D.u ∧ D.u.length ≤ 1000000 ∧ (∀ x ∈ D.u,x.2.length < 4294967296) ∧ True
def qbv (w:World) (F:Nat → Nat → Prop) (D:DV):Prop:=((∀ ad,(D.f 0).A = some ad → ∃ b o,ad = ⟨b,o,none⟩ ∧ AtF w F b o [.string (D.f 0).s]) ∧ (D.f 0).s.size ≤ 1000000) ∧ (True) ∧ (True) ∧ (Slots w F 3 (D.f 3).A (D.f 3).c (D.f 3).l (fun i=>[.string ((((D.f 3).f i).f 0).s),.slice ((((D.f 3).f i).f 1).A) ((((D.f 3).f i).f 1).l) ((((D.f 3).f i).f 1).c),.map (((D.f 3).f i).m)]) ∧ (D.f 3).l ≤ 1000000 ∧ ∀ i,i < (D.f 3).l → qa3 w F ((D.f 3).f i)) ∧ MapR w F D.m D.u ∧ D.u.length ≤ 1000000 ∧ (∀ x ∈ D.u,x.2.length < 4294967296) ∧ True
def qab (v:Int) (D:DV):Bs:=(be 4 ((D.f 1).n)) ++ ((be 4 ((D.f 2).n)) ++ (((if (decide (v ≥ 0)) = true then (uv ((D.f 3).l + 1)) else (be 4 (D.f 3).l)) ++ ((List.range (D.f 3).l).flatMap fun k6=>(if (decide (v ≥ 0)) = true then (uv ((((D.f 3).f k6).f 0).s.size + 1) ++ sb (((D.f 3).f k6).f 0).s) else (be 2 (((D.f 3).f k6).f 0).s.size ++ sb (((D.f 3).f k6).f 0).s)) ++ (((if (decide (v ≥ 0)) = true then (uv ((((D.f 3).f k6).f 1).l + 1)) else (be 4 (((D.f 3).f k6).f 1).l)) ++ ((List.range (((D.f 3).f k6).f 1).l).flatMap fun aa=>(be 4 ((((((D.f 3).f k6).f 1).f aa).f 0).n)) ++ ((be 4 ((((((D.f 3).f k6).f 1).f aa).f 1).n)) ++ (((be 8 (((((((D.f 3).f k6).f 1).f aa).f 2).f 0).n)) ++ ((be 4 (((((((D.f 3).f k6).f 1).f aa).f 2).f 1).n)) ++ (if (decide (v ≥ 0)) = true then (uv (((((D.f 3).f k6).f 1).f aa).f 2).u.length) ++ (qbp (((((D.f 3).f k6).f 1).f aa).f 2).u) else []))) ++ ((be 8 ((((((D.f 3).f k6).f 1).f aa).f 3).n)) ++ (if (decide (v ≥ 0)) = true then (uv (tagC (!(((((D.f 3).f k6).f 1).f aa).f 4).o.all fun b_=>b_ == 0) + ((((D.f 3).f k6).f 1).f aa).u.length)) ++ ((tagP (!(((((D.f 3).f k6).f 1).f aa).f 4).o.all fun b_=>b_ == 0) 0 ((((((D.f 3).f k6).f 1).f aa).f 4).o)) ++ (qbp ((((D.f 3).f k6).f 1).f aa).u)) else [])))))) ++ (if (decide (v ≥ 0)) = true then (uv ((D.f 3).f k6).u.length) ++ (qbp ((D.f 3).f k6).u) else [])))) ++ ((if (decide (v ≥ 0)) = true then (uv (tagC (!(((D.f 0).A).isNone)) + D.u.length)) ++ ((tagP (!(((D.f 0).A).isNone)) 0 (if (decide (v ≥ 0)) = true then (if (D.f 0).A.isNone = true then uv 0 else uv ((D.f 0).s.size + 1) ++ sb (D.f 0).s) else (if (D.f 0).A.isNone = true then be 2 (-1) else be 2 (D.f 0).s.size ++ sb (D.f 0).s))) ++ (qbp D.u)) else []) ++ ([]))))
theorem qb1 (v:Int) (D:DV) (b o:Nat) (A:Option Addr) (cp:Nat) (s:Bs) (w:World) (F:Nat → Nat → Prop) (hat:AtF w F b o [.int .i16 v,.pointer ((D.f 0).A),.int .i32 ((D.f 1).n),.int .i32 ((D.f 2).n),.slice ((D.f 3).A) ((D.f 3).l) ((D.f 3).c),.map D.m]) (hok:qbv w F D) (hF:∀ b o,F b o → ¬ Blk A b o) (ho:w.ownsRow 0 5 1 (.slice A s.length cp) s.length (bc s)) (hroom:s.length + (qab v D).length + 16 ≤ 1099511627776) :
  Calls Tryz.prog 96 [.pointer (some ⟨b,o,none⟩),.slice A s.length cp].toArray w (qbF w 5 A (s ++ qab v D)):=by
 unfold qbv at hok
 obtain ⟨⟨g1,g1l⟩,g2,g3,⟨g4,g4l,g4e⟩,g5,g5l,g5x,_⟩:=hok
 refine qjG (n:=282) Tryz.func96 rfl Tryz.ntmps96 kz rfl ho hroom ?_
 unfold qab
 let aC:Value:=.pointer ((D.f 0).A)
 refine qjF b o [.int .i16 v,aC,.int .i32 ((D.f 1).n),.int .i32 ((D.f 2).n),.slice ((D.f 3).A) ((D.f 3).l) ((D.f 3).c),.map D.m] hat hF kz kz ?_
 refine qh1 0 0 0 b o (by simp) rfl rfl rfl ?_
 let aa:Nat × SV:=(0,.p 0 0)
 refine qbV (qaV (env':=[aa]) [0] (fun _ _ _=>by kernel_rfl)) ?_
 refine qbV (qaV (env':=[aa,(5,.v (.int .i16 v))]) [0,5] (fun _ _ _=>by kernel_rfl)) ?_
 refine qbV (qaV (env':=[aa,(5,.v (.int .i16 v))]) [0,5] (fun _ _ _=>by kernel_rfl)) ?_
 let au:Env:=[(0,.p 0 0),(6,.v (.bool (decide (v ≥ 0))))]
 refine qbV (qaV (env':=au) [0,6] (fun _ _ _=>by kernel_rfl)) ?_
 refine qbV (qaV (env':=au) [0,6] (fun _ _ _=>by kernel_rfl)) ?_
 let ab:Nat × SV:=(6,.v (.bool (decide (v ≥ 0))))
 refine qeN (e1:=au) ?_ ?_
 ·
  refine qbr (qaV (env':=[aa,ab,(7,.v (.int .i32 ((D.f 1).n)))]) [0,6,7] (fun _ _ _=>by kernel_rfl)) ?_
  exact qb2 (f:=68) (vs:=[.int .i32 ((D.f 1).n)]) 2 [0,6] (fun _ _ _ _ _ _=>by kernel_rfl) kz Tryz.call68 (fun A cp s w _ _ ho hr=>qcd A cp s ((D.f 1).n) w ho (by omega))
 refine qeN (e1:=au) ?_ ?_
 ·
  refine qbr (qaV (env':=[aa,ab,(8,.v (.int .i32 ((D.f 2).n)))]) [0,6,8] (fun _ _ _=>by kernel_rfl)) ?_
  exact qb2 (f:=68) (vs:=[.int .i32 ((D.f 2).n)]) 2 [0,6] (fun _ _ _ _ _ _=>by kernel_rfl) kz Tryz.call68 (fun A cp s w _ _ ho hr=>qcd A cp s ((D.f 2).n) w ho (by omega))
 refine qeN (e1:=au) ?_ ?_
 ·
  let aH:Env:=[(0,.p 0 0),(6,.v (.bool (decide (v ≥ 0)))),(9,.v (.slice ((D.f 3).A) ((D.f 3).l) ((D.f 3).c)))]
  refine qbr (qaV (env':=aH) [0,6,9] (fun _ _ _=>by kernel_rfl)) ?_
  let ae:Nat × SV:=(9,.v (.slice ((D.f 3).A) ((D.f 3).l) ((D.f 3).c)))
  refine qcv (e1:=aH) ?_ ?_
  ·
   refine qbr (qaV (env':=[aa,ab,ae,(58,.v (.bool (decide (v ≥ 0))))]) [0,6,9,58] (fun _ _ _=>by kernel_rfl)) ?_
   refine qlj (b:=decide (v ≥ 0)) (fun _ _ _=>by kernel_rfl) (fun hb=>?_) (fun hb=>?_)
   ·
    exact qb2 (f:=100) (vs:=[.int .i64 (((D.f 3).l:Nat):Int)]) 3 [0,6,9] (fun _ _ _ _ _ _=>by kernel_rfl) kz Tryz.call100 (fun A cp s w _ _ ho hr=>qcL (D.f 3).l g4l A cp s w ho hr)
   exact qb2 (f:=101) (vs:=[.int .i64 (((D.f 3).l:Nat):Int)]) 3 [0,6,9] (fun _ _ _ _ _ _=>by kernel_rfl) kz Tryz.call101 (fun A cp s w _ _ ho hr=>qd6 (D.f 3).l A cp s w ho hr)
  let af:Nat × SV:=(68,.v (.int .i64 (((D.f 3).l:Nat):Int)))
  refine qbr (qaV (env':=[(69,.v (.int .i64 0)),aa,ab,ae,af]) [69,0,6,9,68] (fun _ _ _=>by kernel_rfl)) ?_
  refine qfl (e1:=[aa,ab,ae,af]) [0,6] (fun _ _ _=>by kernel_rfl) ?_
  refine qfi (len:=(D.f 3).l) (xs:=fun k6=>(if (decide (v ≥ 0)) = true then (uv ((((D.f 3).f k6).f 0).s.size + 1) ++ sb (((D.f 3).f k6).f 0).s) else (be 2 (((D.f 3).f k6).f 0).s.size ++ sb (((D.f 3).f k6).f 0).s)) ++ (((if (decide (v ≥ 0)) = true then (uv ((((D.f 3).f k6).f 1).l + 1)) else (be 4 (((D.f 3).f k6).f 1).l)) ++ ((List.range (((D.f 3).f k6).f 1).l).flatMap fun ac=>(be 4 ((((((D.f 3).f k6).f 1).f ac).f 0).n)) ++ ((be 4 ((((((D.f 3).f k6).f 1).f ac).f 1).n)) ++ (((be 8 (((((((D.f 3).f k6).f 1).f ac).f 2).f 0).n)) ++ ((be 4 (((((((D.f 3).f k6).f 1).f ac).f 2).f 1).n)) ++ (if (decide (v ≥ 0)) = true then (uv (((((D.f 3).f k6).f 1).f ac).f 2).u.length) ++ (qbp (((((D.f 3).f k6).f 1).f ac).f 2).u) else []))) ++ ((be 8 ((((((D.f 3).f k6).f 1).f ac).f 3).n)) ++ (if (decide (v ≥ 0)) = true then (uv (tagC (!(((((D.f 3).f k6).f 1).f ac).f 4).o.all fun b_=>b_ == 0) + ((((D.f 3).f k6).f 1).f ac).u.length)) ++ ((tagP (!(((((D.f 3).f k6).f 1).f ac).f 4).o.all fun b_=>b_ == 0) 0 ((((((D.f 3).f k6).f 1).f ac).f 4).o)) ++ (qbp ((((D.f 3).f k6).f 1).f ac).u)) else [])))))) ++ (if (decide (v ≥ 0)) = true then (uv ((D.f 3).f k6).u.length) ++ (qbp ((D.f 3).f k6).u) else []))) 69 70 [0,6,9,68] (fun _ _ _ _=>by kernel_rfl) (fun _ _ _ _=>by kernel_rfl) (fun _ _ _ _ _=>by kernel_rfl) (fun _ _ _ _ _=>by kernel_rfl) kz (Nat.le_trans g4l (by decide)) (fun k6 hk6=>?_)
  let ag:Nat × SV:=(69,.v (.int .i64 ((k6:Nat):Int)))
  refine qbr (qaV (env':=[aa,ab,ae,(10,.v (.int .i64 ((k6:Nat):Int))),af,ag]) [0,6,9,10,68,69] (fun _ _ _=>by kernel_rfl)) ?_
  let ax:Env:=[(0,.p 0 0),(6,.v (.bool (decide (v ≥ 0)))),(9,.v (.slice ((D.f 3).A) ((D.f 3).l) ((D.f 3).c))),(11,.p 1 0),(68,.v (.int .i64 (((D.f 3).l:Nat):Int))),(69,.v (.int .i64 ((k6:Nat):Int)))]
  refine qko (t:=64) (e:=101) (size:=3) (bytes:=48) (len:=(D.f 3).l) (j:=k6) (cs:=fun i=>[.string ((((D.f 3).f i).f 0).s),.slice ((((D.f 3).f i).f 1).A) ((((D.f 3).f i).f 1).l) ((((D.f 3).f i).f 1).c),.map (((D.f 3).f i).m)]) (e1:=ax) 2 [0,6,9,11,68,69] (fun _ _ _ _ _=>by kernel_rfl) kz kz g4 hk6 hF kz kz kz fun bb1 oo1 hat1=>?_
  have g7:=g4e k6 hk6
  unfold qa3 at g7
  obtain ⟨g8,⟨g9,g9l,g9e⟩,aO,g10l,g10x,_⟩:=g7
  let ah:Nat × SV:=(11,.p 1 0)
  refine qcv (e1:=ax) ?_ ?_
  ·
   let aI:Nat × SV:=(12,.v (.string ((((D.f 3).f k6).f 0).s)))
   refine qbr (qaV (env':=[aa,ab,ae,ah,aI,af,ag]) [0,6,9,11,12,68,69] (fun _ _ _=>by kernel_rfl)) ?_
   refine qbr (qaV (env':=[aa,ab,ae,ah,aI,af,ag,(79,.v (.bool (decide (v ≥ 0))))]) [0,6,9,11,12,68,69,79] (fun _ _ _=>by kernel_rfl)) ?_
   refine qlj (b:=decide (v ≥ 0)) (fun _ _ _=>by kernel_rfl) (fun hb=>?_) (fun hb=>?_)
   ·
    exact qb2 (f:=102) (vs:=[.string ((((D.f 3).f k6).f 0).s)]) 2 [0,6,9,11,68,69] (fun _ _ _ _ _ _=>by kernel_rfl) kz Tryz.call102 (fun A cp s w _ _ ho hr=>qcW (((D.f 3).f k6).f 0).s A cp s w ho g8 hr)
   exact qb2 (f:=77) (vs:=[.string ((((D.f 3).f k6).f 0).s)]) 2 [0,6,9,11,68,69] (fun _ _ _ _ _ _=>by kernel_rfl) kz Tryz.call77 (fun A cp s w _ _ ho hr=>qdD (((D.f 3).f k6).f 0).s A cp s w ho hr)
  refine qcv (e1:=ax) ?_ ?_
  ·
   let aJ:Env:=[(0,.p 0 0),(6,.v (.bool (decide (v ≥ 0)))),(9,.v (.slice ((D.f 3).A) ((D.f 3).l) ((D.f 3).c))),(11,.p 1 0),(13,.v (.slice ((((D.f 3).f k6).f 1).A) ((((D.f 3).f k6).f 1).l) ((((D.f 3).f k6).f 1).c))),(68,.v (.int .i64 (((D.f 3).l:Nat):Int))),(69,.v (.int .i64 ((k6:Nat):Int)))]
   refine qbr (qaV (env':=aJ) [0,6,9,11,13,68,69] (fun _ _ _=>by kernel_rfl)) ?_
   let ai:Nat × SV:=(13,.v (.slice ((((D.f 3).f k6).f 1).A) ((((D.f 3).f k6).f 1).l) ((((D.f 3).f k6).f 1).c)))
   refine qcv (e1:=aJ) ?_ ?_
   ·
    refine qbr (qaV (env':=[aa,ab,ae,ah,ai,af,ag,(90,.v (.bool (decide (v ≥ 0))))]) [0,6,9,11,13,68,69,90] (fun _ _ _=>by kernel_rfl)) ?_
    refine qlj (b:=decide (v ≥ 0)) (fun _ _ _=>by kernel_rfl) (fun hb=>?_) (fun hb=>?_)
    ·
     exact qb2 (f:=100) (vs:=[.int .i64 (((((D.f 3).f k6).f 1).l:Nat):Int)]) 3 [0,6,9,11,13,68,69] (fun _ _ _ _ _ _=>by kernel_rfl) kz Tryz.call100 (fun A cp s w _ _ ho hr=>qcL (((D.f 3).f k6).f 1).l g9l A cp s w ho hr)
    exact qb2 (f:=101) (vs:=[.int .i64 (((((D.f 3).f k6).f 1).l:Nat):Int)]) 3 [0,6,9,11,13,68,69] (fun _ _ _ _ _ _=>by kernel_rfl) kz Tryz.call101 (fun A cp s w _ _ ho hr=>qd6 (((D.f 3).f k6).f 1).l A cp s w ho hr)
   let aj:Nat × SV:=(100,.v (.int .i64 (((((D.f 3).f k6).f 1).l:Nat):Int)))
   refine qbr (qaV (env':=[(101,.v (.int .i64 0)),aa,ab,ae,ah,ai,af,ag,aj]) [101,0,6,9,11,13,68,69,100] (fun _ _ _=>by kernel_rfl)) ?_
   refine qfl (e1:=[aa,ab,ae,ah,ai,af,ag,aj]) [0,6,9,11,68,69] (fun _ _ _=>by kernel_rfl) ?_
   refine qfi (len:=(((D.f 3).f k6).f 1).l) (xs:=fun ac=>(be 4 ((((((D.f 3).f k6).f 1).f ac).f 0).n)) ++ ((be 4 ((((((D.f 3).f k6).f 1).f ac).f 1).n)) ++ (((be 8 (((((((D.f 3).f k6).f 1).f ac).f 2).f 0).n)) ++ ((be 4 (((((((D.f 3).f k6).f 1).f ac).f 2).f 1).n)) ++ (if (decide (v ≥ 0)) = true then (uv (((((D.f 3).f k6).f 1).f ac).f 2).u.length) ++ (qbp (((((D.f 3).f k6).f 1).f ac).f 2).u) else []))) ++ ((be 8 ((((((D.f 3).f k6).f 1).f ac).f 3).n)) ++ (if (decide (v ≥ 0)) = true then (uv (tagC (!(((((D.f 3).f k6).f 1).f ac).f 4).o.all fun b_=>b_ == 0) + ((((D.f 3).f k6).f 1).f ac).u.length)) ++ ((tagP (!(((((D.f 3).f k6).f 1).f ac).f 4).o.all fun b_=>b_ == 0) 0 ((((((D.f 3).f k6).f 1).f ac).f 4).o)) ++ (qbp ((((D.f 3).f k6).f 1).f ac).u)) else []))))) 101 102 [0,6,9,11,13,68,69,100] (fun _ _ _ _=>by kernel_rfl) (fun _ _ _ _=>by kernel_rfl) (fun _ _ _ _ _=>by kernel_rfl) (fun _ _ _ _ _=>by kernel_rfl) kz (Nat.le_trans g9l (by decide)) (fun ac aL=>?_)
   let ak:Nat × SV:=(101,.v (.int .i64 ((ac:Nat):Int)))
   refine qbr (qaV (env':=[aa,ab,ae,ah,ai,(14,.v (.int .i64 ((ac:Nat):Int))),af,ag,aj,ak]) [0,6,9,11,13,14,68,69,100,101] (fun _ _ _=>by kernel_rfl)) ?_
   let ap:Env:=[(0,.p 0 0),(6,.v (.bool (decide (v ≥ 0)))),(9,.v (.slice ((D.f 3).A) ((D.f 3).l) ((D.f 3).c))),(11,.p 1 0),(13,.v (.slice ((((D.f 3).f k6).f 1).A) ((((D.f 3).f k6).f 1).l) ((((D.f 3).f k6).f 1).c))),(15,.p 2 0),(68,.v (.int .i64 (((D.f 3).l:Nat):Int))),(69,.v (.int .i64 ((k6:Nat):Int))),(100,.v (.int .i64 (((((D.f 3).f k6).f 1).l:Nat):Int))),(101,.v (.int .i64 ((ac:Nat):Int)))]
   refine qko (t:=99) (e:=108) (size:=23) (bytes:=64) (len:=(((D.f 3).f k6).f 1).l) (j:=ac) (cs:=fun i=>[.int .i32 ((((((D.f 3).f k6).f 1).f i).f 0).n),.int .i32 ((((((D.f 3).f k6).f 1).f i).f 1).n),.int .i64 (((((((D.f 3).f k6).f 1).f i).f 2).f 0).n),.int .i32 (((((((D.f 3).f k6).f 1).f i).f 2).f 1).n),.map ((((((D.f 3).f k6).f 1).f i).f 2).m),.int .i64 ((((((D.f 3).f k6).f 1).f i).f 3).n),qag ((((((D.f 3).f k6).f 1).f i).f 4).o.getD 0 0),qag ((((((D.f 3).f k6).f 1).f i).f 4).o.getD 1 0),qag ((((((D.f 3).f k6).f 1).f i).f 4).o.getD 2 0),qag ((((((D.f 3).f k6).f 1).f i).f 4).o.getD 3 0),qag ((((((D.f 3).f k6).f 1).f i).f 4).o.getD 4 0),qag ((((((D.f 3).f k6).f 1).f i).f 4).o.getD 5 0),qag ((((((D.f 3).f k6).f 1).f i).f 4).o.getD 6 0),qag ((((((D.f 3).f k6).f 1).f i).f 4).o.getD 7 0),qag ((((((D.f 3).f k6).f 1).f i).f 4).o.getD 8 0),qag ((((((D.f 3).f k6).f 1).f i).f 4).o.getD 9 0),qag ((((((D.f 3).f k6).f 1).f i).f 4).o.getD 10 0),qag ((((((D.f 3).f k6).f 1).f i).f 4).o.getD 11 0),qag ((((((D.f 3).f k6).f 1).f i).f 4).o.getD 12 0),qag ((((((D.f 3).f k6).f 1).f i).f 4).o.getD 13 0),qag ((((((D.f 3).f k6).f 1).f i).f 4).o.getD 14 0),qag ((((((D.f 3).f k6).f 1).f i).f 4).o.getD 15 0),.map (((((D.f 3).f k6).f 1).f i).m)]) (e1:=ap) 2 [0,6,9,11,13,15,68,69,100,101] (fun _ _ _ _ _=>by kernel_rfl) kz kz g9 aL hF kz kz kz fun bb2 oo2 hat2=>?_
   have aP:=g9e ac aL
   unfold qaM at aP
   obtain ⟨aS,aT,aQ,aU,aN,aM,g18l,g18x,_⟩:=aP
   unfold qaZ at aQ
   obtain ⟨aV,aW,aR,g21l,g21x,_⟩:=aQ
   let al:Nat × SV:=(15,.p 2 0)
   refine qcv (e1:=ap) ?_ ?_
   ·
    refine qbr (qaV (env':=[aa,ab,ae,ah,ai,al,(16,.v (.int .i32 ((((((D.f 3).f k6).f 1).f ac).f 0).n))),af,ag,aj,ak]) [0,6,9,11,13,15,16,68,69,100,101] (fun _ _ _=>by kernel_rfl)) ?_
    exact qb2 (f:=68) (vs:=[.int .i32 ((((((D.f 3).f k6).f 1).f ac).f 0).n)]) 2 [0,6,9,11,13,15,68,69,100,101] (fun _ _ _ _ _ _=>by kernel_rfl) kz Tryz.call68 (fun A cp s w _ _ ho hr=>qcd A cp s ((((((D.f 3).f k6).f 1).f ac).f 0).n) w ho (by omega))
   refine qcv (e1:=ap) ?_ ?_
   ·
    refine qbr (qaV (env':=[aa,ab,ae,ah,ai,al,(17,.v (.int .i32 ((((((D.f 3).f k6).f 1).f ac).f 1).n))),af,ag,aj,ak]) [0,6,9,11,13,15,17,68,69,100,101] (fun _ _ _=>by kernel_rfl)) ?_
    exact qb2 (f:=68) (vs:=[.int .i32 ((((((D.f 3).f k6).f 1).f ac).f 1).n)]) 2 [0,6,9,11,13,15,68,69,100,101] (fun _ _ _ _ _ _=>by kernel_rfl) kz Tryz.call68 (fun A cp s w _ _ ho hr=>qcd A cp s ((((((D.f 3).f k6).f 1).f ac).f 1).n) w ho (by omega))
   refine qcv (e1:=ap) ?_ ?_
   ·
    let ay:Env:=[(0,.p 0 0),(6,.v (.bool (decide (v ≥ 0)))),(9,.v (.slice ((D.f 3).A) ((D.f 3).l) ((D.f 3).c))),(11,.p 1 0),(13,.v (.slice ((((D.f 3).f k6).f 1).A) ((((D.f 3).f k6).f 1).l) ((((D.f 3).f k6).f 1).c))),(15,.p 2 0),(18,.p 2 2),(68,.v (.int .i64 (((D.f 3).l:Nat):Int))),(69,.v (.int .i64 ((k6:Nat):Int))),(100,.v (.int .i64 (((((D.f 3).f k6).f 1).l:Nat):Int))),(101,.v (.int .i64 ((ac:Nat):Int)))]
    refine qbr (qaV (env':=ay) [0,6,9,11,13,15,18,68,69,100,101] (fun _ _ _=>by kernel_rfl)) ?_
    refine qcv (e1:=ay) ?_ ?_
    ·
     refine qbr (qaV (env':=[aa,ab,ae,ah,ai,al,(18,.p 2 2),(19,.v (.int .i64 (((((((D.f 3).f k6).f 1).f ac).f 2).f 0).n))),af,ag,aj,ak]) [0,6,9,11,13,15,18,19,68,69,100,101] (fun _ _ _=>by kernel_rfl)) ?_
     exact qb2 (f:=103) (vs:=[.int .i64 (((((((D.f 3).f k6).f 1).f ac).f 2).f 0).n)]) 2 [0,6,9,11,13,15,18,68,69,100,101] (fun _ _ _ _ _ _=>by kernel_rfl) kz Tryz.call103 (fun A cp s w _ _ ho hr=>qfw A cp s (((((((D.f 3).f k6).f 1).f ac).f 2).f 0).n) w ho (by omega))
    refine qcv (e1:=ay) ?_ ?_
    ·
     refine qbr (qaV (env':=[aa,ab,ae,ah,ai,al,(18,.p 2 2),(20,.v (.int .i32 (((((((D.f 3).f k6).f 1).f ac).f 2).f 1).n))),af,ag,aj,ak]) [0,6,9,11,13,15,18,20,68,69,100,101] (fun _ _ _=>by kernel_rfl)) ?_
     exact qb2 (f:=68) (vs:=[.int .i32 (((((((D.f 3).f k6).f 1).f ac).f 2).f 1).n)]) 2 [0,6,9,11,13,15,18,68,69,100,101] (fun _ _ _ _ _ _=>by kernel_rfl) kz Tryz.call68 (fun A cp s w _ _ ho hr=>qcd A cp s (((((((D.f 3).f k6).f 1).f ac).f 2).f 1).n) w ho (by omega))
    refine qbr (qaV (env':=[aa,ab,ae,ah,ai,al,(18,.p 2 2),af,ag,aj,ak,(138,.v (.bool (decide (v ≥ 0))))]) [0,6,9,11,13,15,18,68,69,100,101,138] (fun _ _ _=>by kernel_rfl)) ?_
    refine qgU (b:=decide (v ≥ 0)) (fun _ _ _=>by kernel_rfl) (fun hb=>?_) (fun hb=>?_)
    ·
     refine qcv (e1:=ay) ?_ ?_
     ·
      exact qei (f1:=105) (vs1:=[.pointer (some ⟨bb2,oo2 + 4,none⟩)]) (r1:=.int .i64 (((((((D.f 3).f k6).f 1).f ac).f 2).u.length:Nat):Int)) (f:=104) (vs:=[.int .u32 (IntKind.u32.wrap (0 + (IntKind.u32.wrap (((((((D.f 3).f k6).f 1).f ac).f 2).u.length:Nat):Int))))]) 4 7 [0,6,9,11,13,15,18,68,69,100,101] (fun _ _ _ _ _ _=>by kernel_rfl) kz Tryz.call105 Tryz.call104 (fun w hs=>qeq (F:=Lo F _) ((hat2.one 4 rfl).move hs (lo_M hF) lo_F) (aR.move hs (lo_M hF) lo_F)) (fun A cp s w _ _ ho hr=>by rw [show (IntKind.u32.wrap (0 + (IntKind.u32.wrap (((((((D.f 3).f k6).f 1).f ac).f 2).u.length:Nat):Int))):Int) = (((((((D.f 3).f k6).f 1).f ac).f 2).u.length:Nat):Int) from qfy _ g21l]; exact qa9 (((((D.f 3).f k6).f 1).f ac).f 2).u.length (by have:=g21l; omega) A cp s w ho hr)
     exact qer (f:=106) 4 [0,6,9,11,13,15,68,69,100,101] (fun s=>[.pointer (some ⟨bb2,oo2 + 4,none⟩),s]) (fun _ _ _ _ _ _=>by kernel_rfl) kz Tryz.call106 (fun A cp s w hs hA ho hr=>qcQ (F:=Lo F _) ((hat2.one 4 rfl).move hs (lo_M hF) lo_F) (aR.move hs (lo_M hF) lo_F) ho (qfv hF hA) g21x hr)
    exact qfk (e1:=ap) [0,6,9,11,13,15,68,69,100,101] (fun _ _ _=>by kernel_rfl) qgK
   refine qcv (e1:=ap) ?_ ?_
   ·
    refine qbr (qaV (env':=[aa,ab,ae,ah,ai,al,(21,.v (.int .i64 ((((((D.f 3).f k6).f 1).f ac).f 3).n))),af,ag,aj,ak]) [0,6,9,11,13,15,21,68,69,100,101] (fun _ _ _=>by kernel_rfl)) ?_
    exact qb2 (f:=103) (vs:=[.int .i64 ((((((D.f 3).f k6).f 1).f ac).f 3).n)]) 2 [0,6,9,11,13,15,68,69,100,101] (fun _ _ _ _ _ _=>by kernel_rfl) kz Tryz.call103 (fun A cp s w _ _ ho hr=>qfw A cp s ((((((D.f 3).f k6).f 1).f ac).f 3).n) w ho (by omega))
   refine qbr (qaV (env':=[aa,ab,ae,ah,ai,al,af,ag,aj,ak,(159,.v (.bool (decide (v ≥ 0))))]) [0,6,9,11,13,15,68,69,100,101,159] (fun _ _ _=>by kernel_rfl)) ?_
   refine qgU (b:=decide (v ≥ 0)) (fun _ _ _=>by kernel_rfl) (fun hb=>?_) (fun hb=>?_)
   ·
    let aD:Env:=[(0,.p 0 0),(6,.v (.bool (decide (v ≥ 0)))),(9,.v (.slice ((D.f 3).A) ((D.f 3).l) ((D.f 3).c))),(11,.p 1 0),(13,.v (.slice ((((D.f 3).f k6).f 1).A) ((((D.f 3).f k6).f 1).l) ((((D.f 3).f k6).f 1).c))),(15,.p 2 0),(22,.v (.slice none 0 0)),(68,.v (.int .i64 (((D.f 3).l:Nat):Int))),(69,.v (.int .i64 ((k6:Nat):Int))),(100,.v (.int .i64 (((((D.f 3).f k6).f 1).l:Nat):Int))),(101,.v (.int .i64 ((ac:Nat):Int)))]
    refine qbr (qaV (env':=aD) [0,6,9,11,13,15,22,68,69,100,101] (fun _ _ _=>by kernel_rfl)) ?_
    let az:Value:=.pointer (some ⟨bb2,oo2 + 22,none⟩)
    refine qgv (b:=!(((((D.f 3).f k6).f 1).f ac).f 4).o.all fun b_=>b_ == 0) (v:=.int .u32 0) (e2:=fun g_ c_=>[aa,ab,ae,ah,ai,al,(22,.v (.slice (some ⟨g_,0,none⟩) 1 c_)),af,ag,aj,ak]) [0,6,9,11,13,15,22,68,69,100,101] 166 167 168 158 59 4 (qkz (e2:=[aa,ab,ae,ah,ai,al,(22,.v (.slice none 0 0)),af,ag,aj,ak,(165,.v (.bool (!(((((D.f 3).f k6).f 1).f ac).f 4).o.all fun b_=>b_ == 0)))]) (t:=106) (e:=5) (o:=(((((D.f 3).f k6).f 1).f ac).f 4).o) 5 [0,6,9,11,13,15,22,68,69,100,101,165] (fun _ _ _=>by kernel_rfl) kz kz kz kz kz kz kz aN) (fun _ _ _=>by kernel_rfl) kz (fun _ _ _=>by kernel_rfl) (fun _ _ _=>by kernel_rfl) (fun _ _ _ _=>by kernel_rfl) (fun _ _ _ _ _ _=>by kernel_rfl) kz kz kz kz (fun hb g_ c_=>?_) (fun hb=>?_)
    ·
     rw [qdh hb,qfH hb]
     refine qcv (e1:=[aa,ab,ae,ah,ai,al,(22,.v (.slice (some ⟨g_,0,none⟩) 1 c_)),af,ag,aj,ak]) ?_ ?_
     ·
      exact qei (f1:=105) (vs1:=[az]) (r1:=.int .i64 ((((((D.f 3).f k6).f 1).f ac).u.length:Nat):Int)) (f:=104) (vs:=[.int .u32 (IntKind.u32.wrap (IntKind.i64.wrap (1 + ((((((D.f 3).f k6).f 1).f ac).u.length:Nat):Int))))]) 6 9 [0,6,9,11,13,15,22,68,69,100,101] (fun _ _ _ _ _ _=>by kernel_rfl) kz Tryz.call105 Tryz.call104 (fun w hs=>qeq (F:=Lo F _) ((hat2.one 22 rfl).move hs (lo_M hF) lo_F) (aM.move hs (lo_M hF) lo_F)) (fun A cp s w _ _ ho hr=>by rw [show (IntKind.u32.wrap (IntKind.i64.wrap (1 + ((((((D.f 3).f k6).f 1).f ac).u.length:Nat):Int))):Int) = (((1 + ((((D.f 3).f k6).f 1).f ac).u.length):Nat):Int) from by have h_:=g18l; rw [wrap_i64 (by omega) (by omega),qap]; omega]; exact qa9 (1 + ((((D.f 3).f k6).f 1).f ac).u.length) (by have:=g18l; omega) A cp s w ho hr)
     refine qcv (e1:=ap) ?_ ?_
     ·
      let av:Nat × SV:=(179,.v (.slice (some ⟨g_,0,none⟩) 1 c_))
      let aw:Nat × SV:=(180,.v (.int .i64 1))
      refine qbr (qaV (env':=[(181,.v (.int .i64 0)),aa,ab,ae,ah,ai,al,af,ag,aj,ak,av,aw]) [181,0,6,9,11,13,15,68,69,100,101,179,180] (fun _ _ _=>by kernel_rfl)) ?_
      refine qfl (e1:=[aa,ab,ae,ah,ai,al,af,ag,aj,ak,av,aw]) [0,6,9,11,13,15,68,69,100,101] (fun _ _ _=>by kernel_rfl) ?_
      refine qgJ (qfi (len:=1) (xs:=fun _=>uv 0 ++ (uv ((((((D.f 3).f k6).f 1).f ac).f 4).o).length ++ ((((((D.f 3).f k6).f 1).f ac).f 4).o))) 181 182 [0,6,9,11,13,15,68,69,100,101,179,180] (fun _ _ _ _=>by kernel_rfl) (fun _ _ _ _=>by kernel_rfl) (fun _ _ _ _ _=>by kernel_rfl) (fun _ _ _ _ _=>by kernel_rfl) kz (by decide) (fun k_ hk_=>?_)) (qm0 _)
      obtain rfl:k_ = 0:=by omega
      let aE:Nat × SV:=(181,.v (.int .i64 ((0:Nat):Int)))
      refine qiU (t:=158) (e:=59) (size:=1) (bytes:=4) (dd:=183) (b:=g_) (e1:=[aa,ab,ae,ah,ai,al,(24,.v (.int .u32 0)),af,ag,aj,ak,av,aw,aE]) 3 [0,6,9,11,13,15,24,68,69,100,101,179,180,181] (fun _ _ _=>by kernel_rfl) kz (Nat.le_of_ble_eq_true rfl) rfl rfl kz (fun _ _ _=>by kernel_rfl) ?_
      refine qbr (qaV (env':=[aa,ab,ae,ah,ai,al,af,ag,aj,ak,av,aw,aE,(185,.v (.int .u32 0))]) [0,6,9,11,13,15,68,69,100,101,179,180,181,185] (fun _ _ _=>by kernel_rfl)) (qiV ?_)
      refine qbr (qaV (env':=[aa,ab,ae,ah,ai,al,af,ag,aj,ak,av,aw,aE,(186,.v (.bool true))]) [0,6,9,11,13,15,68,69,100,101,179,180,181,186] (fun _ _ _=>by kernel_rfl)) ?_
      refine qgL (b:=true) (fun _ _ _=>by kernel_rfl) (fun _=>?_) (fun h_=>by cases h_)
      refine qgJ (x:=(uv 0) ++ ((uv 16) ++ ((((((D.f 3).f k6).f 1).f ac).f 4).o))) ?_ (by rw [aN])
      let aF:Env:=[(0,.p 0 0),(6,.v (.bool (decide (v ≥ 0)))),(9,.v (.slice ((D.f 3).A) ((D.f 3).l) ((D.f 3).c))),(11,.p 1 0),(13,.v (.slice ((((D.f 3).f k6).f 1).A) ((((D.f 3).f k6).f 1).l) ((((D.f 3).f k6).f 1).c))),(15,.p 2 0),(25,.p 4 0),(68,.v (.int .i64 (((D.f 3).l:Nat):Int))),(69,.v (.int .i64 ((k6:Nat):Int))),(100,.v (.int .i64 (((((D.f 3).f k6).f 1).l:Nat):Int))),(101,.v (.int .i64 ((ac:Nat):Int))),(179,.v (.slice (some ⟨g_,0,none⟩) 1 c_)),(180,.v (.int .i64 1)),(181,.v (.int .i64 ((0:Nat):Int)))]
      refine qmD (cs:=[qag ((((((D.f 3).f k6).f 1).f ac).f 4).o.getD 0 0),qag ((((((D.f 3).f k6).f 1).f ac).f 4).o.getD 1 0),qag ((((((D.f 3).f k6).f 1).f ac).f 4).o.getD 2 0),qag ((((((D.f 3).f k6).f 1).f ac).f 4).o.getD 3 0),qag ((((((D.f 3).f k6).f 1).f ac).f 4).o.getD 4 0),qag ((((((D.f 3).f k6).f 1).f ac).f 4).o.getD 5 0),qag ((((((D.f 3).f k6).f 1).f ac).f 4).o.getD 6 0),qag ((((((D.f 3).f k6).f 1).f ac).f 4).o.getD 7 0),qag ((((((D.f 3).f k6).f 1).f ac).f 4).o.getD 8 0),qag ((((((D.f 3).f k6).f 1).f ac).f 4).o.getD 9 0),qag ((((((D.f 3).f k6).f 1).f ac).f 4).o.getD 10 0),qag ((((((D.f 3).f k6).f 1).f ac).f 4).o.getD 11 0),qag ((((((D.f 3).f k6).f 1).f ac).f 4).o.getD 12 0),qag ((((((D.f 3).f k6).f 1).f ac).f 4).o.getD 13 0),qag ((((((D.f 3).f k6).f 1).f ac).f 4).o.getD 14 0),qag ((((((D.f 3).f k6).f 1).f ac).f 4).o.getD 15 0)]) (e2:=aF) 4 [0,6,9,11,13,15,25,68,69,100,101,179,180,181] (fun _ _ _ _=>by kernel_rfl) kz kz fun blk=>?_
      refine qcv (e1:=aF) ?_ ?_
      ·
       exact qb2 (f:=104) (vs:=[.int .u32 0]) 1 [0,6,9,11,13,15,25,68,69,100,101,179,180,181] (fun _ _ _ _ _ _=>by kernel_rfl) kz Tryz.call104 (fun A cp s w _ _ ho hr=>qa9 0 (by decide) A cp s w ho hr)
      refine qcv (e1:=aF) ?_ ?_
      ·
       exact qb2 (f:=104) (vs:=[.int .u32 16]) 1 [0,6,9,11,13,15,25,68,69,100,101,179,180,181] (fun _ _ _ _ _ _=>by kernel_rfl) kz Tryz.call104 (fun A cp s w _ _ ho hr=>qa9 16 (by decide) A cp s w ho hr)
      exact qb2 (f:=107) (vs:=[.agg #[qag ((((((D.f 3).f k6).f 1).f ac).f 4).o.getD 0 0),qag ((((((D.f 3).f k6).f 1).f ac).f 4).o.getD 1 0),qag ((((((D.f 3).f k6).f 1).f ac).f 4).o.getD 2 0),qag ((((((D.f 3).f k6).f 1).f ac).f 4).o.getD 3 0),qag ((((((D.f 3).f k6).f 1).f ac).f 4).o.getD 4 0),qag ((((((D.f 3).f k6).f 1).f ac).f 4).o.getD 5 0),qag ((((((D.f 3).f k6).f 1).f ac).f 4).o.getD 6 0),qag ((((((D.f 3).f k6).f 1).f ac).f 4).o.getD 7 0),qag ((((((D.f 3).f k6).f 1).f ac).f 4).o.getD 8 0),qag ((((((D.f 3).f k6).f 1).f ac).f 4).o.getD 9 0),qag ((((((D.f 3).f k6).f 1).f ac).f 4).o.getD 10 0),qag ((((((D.f 3).f k6).f 1).f ac).f 4).o.getD 11 0),qag ((((((D.f 3).f k6).f 1).f ac).f 4).o.getD 12 0),qag ((((((D.f 3).f k6).f 1).f ac).f 4).o.getD 13 0),qag ((((((D.f 3).f k6).f 1).f ac).f 4).o.getD 14 0),qag ((((((D.f 3).f k6).f 1).f ac).f 4).o.getD 15 0)]]) 2 [181,0,6,9,11,13,15,68,69,100,101,179,180] (fun _ _ _ _ _ _=>by kernel_rfl) kz Tryz.call107 (fun A cp s w _ _ ho hr=>qia (((((D.f 3).f k6).f 1).f ac).f 4).o aN A cp s w ho hr)
     exact qer (f:=106) 4 [101,0,6,9,11,13,68,69,100] (fun s=>[az,s]) (fun _ _ _ _ _ _=>by kernel_rfl) kz Tryz.call106 (fun A cp s w hs hA ho hr=>qcQ (F:=Lo F _) ((hat2.one 22 rfl).move hs (lo_M hF) lo_F) (aM.move hs (lo_M hF) lo_F) ho (qfv hF hA) g18x hr)
    rw [qg2 hb,qfs hb,Nat.zero_add,List.nil_append]
    refine qfk (e1:=aD) [0,6,9,11,13,15,22,68,69,100,101] (fun _ _ _=>by kernel_rfl) ?_
    refine qcv (e1:=aD) ?_ ?_
    ·
     exact qei (f1:=105) (vs1:=[az]) (r1:=.int .i64 ((((((D.f 3).f k6).f 1).f ac).u.length:Nat):Int)) (f:=104) (vs:=[.int .u32 (IntKind.u32.wrap (IntKind.i64.wrap (0 + ((((((D.f 3).f k6).f 1).f ac).u.length:Nat):Int))))]) 6 9 [0,6,9,11,13,15,22,68,69,100,101] (fun _ _ _ _ _ _=>by kernel_rfl) kz Tryz.call105 Tryz.call104 (fun w hs=>qeq (F:=Lo F _) ((hat2.one 22 rfl).move hs (lo_M hF) lo_F) (aM.move hs (lo_M hF) lo_F)) (fun A cp s w _ _ ho hr=>by rw [show (IntKind.u32.wrap (IntKind.i64.wrap (0 + ((((((D.f 3).f k6).f 1).f ac).u.length:Nat):Int))):Int) = ((((((D.f 3).f k6).f 1).f ac).u.length:Nat):Int) from by have h_:=g18l; rw [wrap_i64 (by omega) (by omega),qap]; omega]; exact qa9 ((((D.f 3).f k6).f 1).f ac).u.length (by have:=g18l; omega) A cp s w ho hr)
    refine qbr (e1:=ap) ?_ ?_
    ·
     refine qbr (qaV (env':=[(181,.v (.int .i64 0)),aa,ab,ae,ah,ai,al,af,ag,aj,ak,(179,.v (.slice none 0 0)),(180,.v (.int .i64 0))]) [181,0,6,9,11,13,15,68,69,100,101,179,180] (fun _ _ _=>by kernel_rfl)) ?_
     refine qfl (e1:=[aa,ab,ae,ah,ai,al,af,ag,aj,ak,(179,.v (.slice none 0 0)),(180,.v (.int .i64 0))]) [0,6,9,11,13,15,68,69,100,101] (fun _ _ _=>by kernel_rfl) ?_
     refine qgJ (qfi (len:=0) (xs:=fun _=>[]) 181 182 [0,6,9,11,13,15,68,69,100,101,179,180] (fun _ _ _ _=>by kernel_rfl) (fun _ _ _ _=>by kernel_rfl) (fun _ _ _ _ _=>by kernel_rfl) (fun _ _ _ _ _=>by kernel_rfl) kz (by decide) (fun k_ hk_=>?_)) rfl
     exact absurd hk_ (Nat.not_lt_zero _)
    exact qer (f:=106) 4 [101,0,6,9,11,13,68,69,100] (fun s=>[az,s]) (fun _ _ _ _ _ _=>by kernel_rfl) kz Tryz.call106 (fun A cp s w hs hA ho hr=>qcQ (F:=Lo F _) ((hat2.one 22 rfl).move hs (lo_M hF) lo_F) (aM.move hs (lo_M hF) lo_F) ho (qfv hF hA) g18x hr)
   exact qfk (e1:=[ak,aa,ab,ae,ah,ai,af,ag,aj]) [101,0,6,9,11,13,68,69,100] (fun _ _ _=>by kernel_rfl) qgK
  refine qbr (qaV (env':=[aa,ab,ae,ah,af,ag,(206,.v (.bool (decide (v ≥ 0))))]) [0,6,9,11,68,69,206] (fun _ _ _=>by kernel_rfl)) ?_
  refine qgU (b:=decide (v ≥ 0)) (fun _ _ _=>by kernel_rfl) (fun hb=>?_) (fun hb=>?_)
  ·
   refine qcv (e1:=ax) ?_ ?_
   ·
    exact qei (f1:=105) (vs1:=[.pointer (some ⟨bb1,oo1 + 2,none⟩)]) (r1:=.int .i64 ((((D.f 3).f k6).u.length:Nat):Int)) (f:=104) (vs:=[.int .u32 (IntKind.u32.wrap (0 + (IntKind.u32.wrap ((((D.f 3).f k6).u.length:Nat):Int))))]) 4 7 [0,6,9,11,68,69] (fun _ _ _ _ _ _=>by kernel_rfl) kz Tryz.call105 Tryz.call104 (fun w hs=>qeq (F:=Lo F _) ((hat1.one 2 rfl).move hs (lo_M hF) lo_F) (aO.move hs (lo_M hF) lo_F)) (fun A cp s w _ _ ho hr=>by rw [show (IntKind.u32.wrap (0 + (IntKind.u32.wrap ((((D.f 3).f k6).u.length:Nat):Int))):Int) = ((((D.f 3).f k6).u.length:Nat):Int) from qfy _ g10l]; exact qa9 ((D.f 3).f k6).u.length (by have:=g10l; omega) A cp s w ho hr)
   exact qer (f:=106) 4 [69,0,6,9,68] (fun s=>[.pointer (some ⟨bb1,oo1 + 2,none⟩),s]) (fun _ _ _ _ _ _=>by kernel_rfl) kz Tryz.call106 (fun A cp s w hs hA ho hr=>qcQ (F:=Lo F _) ((hat1.one 2 rfl).move hs (lo_M hF) lo_F) (aO.move hs (lo_M hF) lo_F) ho (qfv hF hA) g10x hr)
  exact qfk (e1:=[ag,aa,ab,ae,af]) [69,0,6,9,68] (fun _ _ _=>by kernel_rfl) qgK
 refine qeN (e1:=[]) ?_ ?_
 ·
  refine qbr (qaV (env':=[aa,ab,(221,.v (.bool (decide (v ≥ 0))))]) [0,6,221] (fun _ _ _=>by kernel_rfl)) ?_
  refine qgU (b:=decide (v ≥ 0)) (fun _ _ _=>by kernel_rfl) (fun hb=>?_) (fun hb=>?_)
  ·
   let aG:Env:=[(0,.p 0 0),(6,.v (.bool (decide (v ≥ 0)))),(26,.v (.slice none 0 0))]
   refine qbr (qaV (env':=aG) [0,6,26] (fun _ _ _=>by kernel_rfl)) ?_
   let aA:Value:=.pointer (some ⟨b,o + 5,none⟩)
   refine qgv (b:=!(((D.f 0).A).isNone)) (v:=.int .u32 0) (e2:=fun g_ c_=>[aa,ab,(26,.v (.slice (some ⟨g_,0,none⟩) 1 c_))]) [0,6,26] 227 228 229 158 59 4 (qaV (env':=[aa,ab,(26,.v (.slice none 0 0)),(226,.v (.bool (!(((D.f 0).A).isNone))))]) [0,6,26,226] (fun _ _ _=>by kernel_rfl)) (fun _ _ _=>by kernel_rfl) kz (fun _ _ _=>by kernel_rfl) (fun _ _ _=>by kernel_rfl) (fun _ _ _ _=>by kernel_rfl) (fun _ _ _ _ _ _=>by kernel_rfl) kz kz kz kz (fun hb g_ c_=>?_) (fun hb=>?_)
   ·
    rw [qdh hb,qfH hb]
    refine qcv (e1:=[aa,ab,(26,.v (.slice (some ⟨g_,0,none⟩) 1 c_))]) ?_ ?_
    ·
     exact qei (f1:=105) (vs1:=[aA]) (r1:=.int .i64 ((D.u.length:Nat):Int)) (f:=104) (vs:=[.int .u32 (IntKind.u32.wrap (IntKind.i64.wrap (1 + ((D.u.length:Nat):Int))))]) 6 9 [0,6,26] (fun _ _ _ _ _ _=>by kernel_rfl) kz Tryz.call105 Tryz.call104 (fun w hs=>qeq (F:=Lo F _) ((hat.one 5 rfl).move hs (lo_M hF) lo_F) (g5.move hs (lo_M hF) lo_F)) (fun A cp s w _ _ ho hr=>by rw [show (IntKind.u32.wrap (IntKind.i64.wrap (1 + ((D.u.length:Nat):Int))):Int) = (((1 + D.u.length):Nat):Int) from by have h_:=g5l; rw [wrap_i64 (by omega) (by omega),qap]; omega]; exact qa9 (1 + D.u.length) (by have:=g5l; omega) A cp s w ho hr)
    refine qcv (e1:=[aa]) ?_ ?_
    ·
     let am:Nat × SV:=(240,.v (.slice (some ⟨g_,0,none⟩) 1 c_))
     let ao:Nat × SV:=(241,.v (.int .i64 1))
     refine qbr (qaV (env':=[(242,.v (.int .i64 0)),aa,ab,am,ao]) [242,0,6,240,241] (fun _ _ _=>by kernel_rfl)) ?_
     refine qfl (e1:=[aa,ab,am,ao]) [0] (fun _ _ _=>by kernel_rfl) ?_
     refine qgJ (qfi (len:=1) (xs:=fun _=>uv 0 ++ (uv (if (decide (v ≥ 0)) = true then (if (D.f 0).A.isNone = true then uv 0 else uv ((D.f 0).s.size + 1) ++ sb (D.f 0).s) else (if (D.f 0).A.isNone = true then be 2 (-1) else be 2 (D.f 0).s.size ++ sb (D.f 0).s)).length ++ (if (decide (v ≥ 0)) = true then (if (D.f 0).A.isNone = true then uv 0 else uv ((D.f 0).s.size + 1) ++ sb (D.f 0).s) else (if (D.f 0).A.isNone = true then be 2 (-1) else be 2 (D.f 0).s.size ++ sb (D.f 0).s)))) 242 243 [0,6,240,241] (fun _ _ _ _=>by kernel_rfl) (fun _ _ _ _=>by kernel_rfl) (fun _ _ _ _ _=>by kernel_rfl) (fun _ _ _ _ _=>by kernel_rfl) kz (by decide) (fun k_ hk_=>?_)) (qm0 _)
     obtain rfl:k_ = 0:=by omega
     let ar:Nat × SV:=(242,.v (.int .i64 ((0:Nat):Int)))
     refine qiU (t:=158) (e:=59) (size:=1) (bytes:=4) (dd:=244) (b:=g_) (e1:=[aa,ab,(28,.v (.int .u32 0)),am,ao,ar]) 1 [0,6,28,240,241,242] (fun _ _ _=>by kernel_rfl) kz (Nat.le_of_ble_eq_true rfl) rfl rfl kz (fun _ _ _=>by kernel_rfl) ?_
     refine qbr (qaV (env':=[aa,ab,am,ao,ar,(246,.v (.int .u32 0))]) [0,6,240,241,242,246] (fun _ _ _=>by kernel_rfl)) (qiV ?_)
     refine qbr (qaV (env':=[aa,ab,am,ao,ar,(247,.v (.bool true))]) [0,6,240,241,242,247] (fun _ _ _=>by kernel_rfl)) ?_
     refine qgL (b:=true) (fun _ _ _=>by kernel_rfl) (fun _=>?_) (fun h_=>by cases h_)
     let aK:Env:=[(0,.p 0 0),(6,.v (.bool (decide (v ≥ 0)))),(29,.v (.pointer ((D.f 0).A))),(240,.v (.slice (some ⟨g_,0,none⟩) 1 c_)),(241,.v (.int .i64 1)),(242,.v (.int .i64 ((0:Nat):Int)))]
     let aB:Nat × SV:=(29,.v (.pointer ((D.f 0).A)))
     refine qln (e1:=aK) (e2:=aK) (e3:=[aa,ab,aB,(30,.v (.bool false)),am,ao,ar]) (eL:=fun L_ z_=>[aa,ab,aB,(30,.v (.bool z_)),(31,.v (.int .i64 ((L_:Nat):Int))),am,ao,ar]) (fU:=104) (t:=24) (bytes:=1) 0 265 266 267 268 269 270 271 272 273 274 [0,6,29,30,31,240,241,242] 1 (by rfl) kz ?_ ?_ ?_ (fun _ _ _=>by kernel_rfl) ?_ (fun _ _ _ _ _=>by kernel_rfl) kz kz kz kz (fun _ _ _ _=>by kernel_rfl) kz (fun _ _ _ _=>by kernel_rfl) kz (fun _ _ _ _=>by kernel_rfl) kz (fun _ _ _ _ _ _ _=>by kernel_rfl) kz (fun _ _ _ _ _=>by kernel_rfl) kz (fun _ _ _ _ _ _ _ _=>by kernel_rfl) kz kz (fun y_ hy_ A_ cp_ s_ w_ ho_ hr_=>qa9 y_ (by omega) A_ cp_ s_ w_ ho_ hr_) Tryz.call104 (fun _ _ _ _=>by kernel_rfl) (fun _ _ _ _=>by kernel_rfl) kz (qnq g1l)
     ·exact qaV [0,6,29,240,241,242] (fun _ _ _=>by kernel_rfl)
     ·
      exact qb2 (f:=104) (vs:=[.int .u32 0]) 1 [0,6,29,240,241,242] (fun _ _ _ _ _ _=>by kernel_rfl) kz Tryz.call104 (fun A cp s w _ _ ho hr=>qa9 0 (by decide) A cp s w ho hr)
     ·exact qaV [0,6,29,30,240,241,242] (fun _ _ _=>by kernel_rfl)
     intro L_ z_
     refine qm1 (qmj (e1:=[aa,ab,aB,(30,.v (.bool z_)),(31,.v (.int .i64 ((L_:Nat):Int))),am,ao,ar]) ?_ qmi) (List.append_nil _)
     refine qbr (qaV (env':=[aa,ab,aB,(30,.v (.bool z_)),(31,.v (.int .i64 ((L_:Nat):Int))),am,ao,ar,(257,.v (.bool (decide (v ≥ 0))))]) [0,6,29,30,31,240,241,242,257] (fun _ _ _=>by kernel_rfl)) ?_
     refine qlj (b:=decide (v ≥ 0)) (fun _ _ _=>by kernel_rfl) (fun hb=>?_) (fun hb=>?_)
     ·
      exact qb2 (f:=108) (vs:=[aC]) 2 [0,6,29,30,31,240,241,242] (fun _ _ _ _ _ _=>by kernel_rfl) kz Tryz.call108 (fun A cp s w hs hA ho hr=>qc2 (D.f 0).A (D.f 0).s A cp s w ho (Lo F _) (qfv hF hA) (fun ad h=>by obtain ⟨b',o',g1,g2⟩:=g1 ad h; exact ⟨b',o',g1,g2.move hs (lo_M hF) lo_F⟩) g1l hr)
     exact qb2 (f:=69) (vs:=[aC]) 2 [0,6,29,30,31,240,241,242] (fun _ _ _ _ _ _=>by kernel_rfl) kz Tryz.call69 (fun A cp s w hs hA ho hr=>qd8 (D.f 0).A (D.f 0).s A cp s w ho (Lo F _) (qfv hF hA) (fun ad h=>by obtain ⟨b',o',g1,g2⟩:=g1 ad h; exact ⟨b',o',g1,g2.move hs (lo_M hF) lo_F⟩) g1l hr)
    exact qer (f:=106) 4 [] (fun s=>[aA,s]) (fun _ _ _ _ _ _=>by kernel_rfl) kz Tryz.call106 (fun A cp s w hs hA ho hr=>qcQ (F:=Lo F _) ((hat.one 5 rfl).move hs (lo_M hF) lo_F) (g5.move hs (lo_M hF) lo_F) ho (qfv hF hA) g5x hr)
   rw [qg2 hb,qfs hb,Nat.zero_add,List.nil_append]
   refine qfk (e1:=aG) [0,6,26] (fun _ _ _=>by kernel_rfl) ?_
   refine qcv (e1:=aG) ?_ ?_
   ·
    exact qei (f1:=105) (vs1:=[aA]) (r1:=.int .i64 ((D.u.length:Nat):Int)) (f:=104) (vs:=[.int .u32 (IntKind.u32.wrap (IntKind.i64.wrap (0 + ((D.u.length:Nat):Int))))]) 6 9 [0,6,26] (fun _ _ _ _ _ _=>by kernel_rfl) kz Tryz.call105 Tryz.call104 (fun w hs=>qeq (F:=Lo F _) ((hat.one 5 rfl).move hs (lo_M hF) lo_F) (g5.move hs (lo_M hF) lo_F)) (fun A cp s w _ _ ho hr=>by rw [show (IntKind.u32.wrap (IntKind.i64.wrap (0 + ((D.u.length:Nat):Int))):Int) = ((D.u.length:Nat):Int) from by have h_:=g5l; rw [wrap_i64 (by omega) (by omega),qap]; omega]; exact qa9 D.u.length (by have:=g5l; omega) A cp s w ho hr)
   refine qbr (e1:=[aa]) ?_ ?_
   ·
    refine qbr (qaV (env':=[(242,.v (.int .i64 0)),aa,ab,(240,.v (.slice none 0 0)),(241,.v (.int .i64 0))]) [242,0,6,240,241] (fun _ _ _=>by kernel_rfl)) ?_
    refine qfl (e1:=[aa,ab,(240,.v (.slice none 0 0)),(241,.v (.int .i64 0))]) [0] (fun _ _ _=>by kernel_rfl) ?_
    refine qgJ (qfi (len:=0) (xs:=fun _=>[]) 242 243 [0,6,240,241] (fun _ _ _ _=>by kernel_rfl) (fun _ _ _ _=>by kernel_rfl) (fun _ _ _ _ _=>by kernel_rfl) (fun _ _ _ _ _=>by kernel_rfl) kz (by decide) (fun k_ hk_=>?_)) rfl
    exact absurd hk_ (Nat.not_lt_zero _)
   exact qer (f:=106) 4 [] (fun s=>[aA,s]) (fun _ _ _ _ _ _=>by kernel_rfl) kz Tryz.call106 (fun A cp s w hs hA ho hr=>qcQ (F:=Lo F _) ((hat.one 5 rfl).move hs (lo_M hF) lo_F) (g5.move hs (lo_M hF) lo_F) ho (qfv hF hA) g5x hr)
  exact qfk (e1:=[]) [] (fun _ _ _=>by kernel_rfl) qgK
 exact ql0 (fun _ _ _=>by kernel_rfl)
def qak (v:Int) (T:Tree):Bs:=(be 4 ((IntKind.i32.wrap (T.at_ 1).N))) ++ ((be 4 ((IntKind.i32.wrap (T.at_ 2).N))) ++ (((if (decide (v ≥ 0)) = true then (uv ((lst (T.at_ 3)).length + 1)) else (be 4 (lst (T.at_ 3)).length)) ++ ((lst (T.at_ 3)).flatMap fun aa=>(if (decide (v ≥ 0)) = true then (uv ((aa.at_ 0).S.length + 1) ++ (aa.at_ 0).S) else (be 2 (aa.at_ 0).S.length ++ (aa.at_ 0).S)) ++ (((if (decide (v ≥ 0)) = true then (uv ((lst (aa.at_ 1)).length + 1)) else (be 4 (lst (aa.at_ 1)).length)) ++ ((lst (aa.at_ 1)).flatMap fun ab=>(be 4 ((IntKind.i32.wrap (ab.at_ 0).N))) ++ ((be 4 ((IntKind.i32.wrap (ab.at_ 1).N))) ++ ((((fun ac=>(be 8 ((ac.at_ 0).N)) ++ ((be 4 ((IntKind.i32.wrap (ac.at_ 1).N))) ++ (if (decide (v ≥ 0)) = true then (uv ac.U.length) ++ (qbp ac.U) else []))) (ab.at_ 2))) ++ ((be 8 ((ab.at_ 3).N)) ++ (if (decide (v ≥ 0)) = true then (uv (tagC (!((ab.at_ 4).S.take 16).all (fun b_=>b_ == 0)) + ab.U.length)) ++ ((tagP (!((ab.at_ 4).S.take 16).all (fun b_=>b_ == 0)) 0 ((qas (ab.at_ 4).S))) ++ (qbp ab.U)) else [])))))) ++ (if (decide (v ≥ 0)) = true then (uv aa.U.length) ++ (qbp aa.U) else [])))) ++ ((if (decide (v ≥ 0)) = true then (uv (tagC (!(T.at_ 0).null) + T.U.length)) ++ ((tagP (!(T.at_ 0).null) 0 (if (decide (v ≥ 0)) = true then (if (T.at_ 0).null = true then uv 0 else uv ((qaS (T.at_ 0)).length + 1) ++ (qaS (T.at_ 0))) else (if (T.at_ 0).null = true then be 2 (-1) else be 2 (qaS (T.at_ 0)).length ++ (qaS (T.at_ 0))))) ++ (qbp T.U)) else []) ++ ([]))))
theorem qlo {v:Int} {d:Nat} {l:List Fld} {t:Tree} {i:Nat} {k x1 x2 x3 x4 x5 x6:Int} {s:List Fld} (h:l[i]? = some (.mk k x1 x2 x3 x4 x5 x6 s)) (hk:k = 8 ∨ k = 9):(qaS ((fitT v (d + 1) l t).at_ i)).length ≤ 32767:=by
 rw [(qmU h hk).1]
 split
 ·exact Nat.zero_le _
 exact Nat.le_trans (qbD _) (by decide)
theorem qkB {v:Int} {d:Nat} {l:List Fld} {t:Tree} {i:Nat} {x1 x2 x3 x5 x6:Int} {s:List Fld} (h:l[i]? = some (.mk 11 x1 x2 x3 (-1) x5 x6 s)):(lst ((fitT v (d + 1) l t).at_ i)).length ≤ 32767:=by
 rw [(qiS h).2,List.length_map]
 split
 ·exact Nat.zero_le _
 simp only [qax,List.length_take]; omega
theorem qnr {k x1 x2 x4 x5 x6 v:Int} {s:List Fld} {t:Tree} (h:0 ≤ v):Fld.nul (.mk k x1 x2 0 x4 x5 x6 s) v t = t.null:=by
 cases t
 simp [Fld.nul,Tree.null,h]
theorem qjq {fields:List Fld} {l:List (Int × Bs)}:∀ x ∈ qan fields l,qar fields ≤ x.1:=by
 have key:∀ (r out:List (Int × Bs)),(∀ x ∈ out,qar fields ≤ x.1) → ∀ x ∈ r.foldl (qb3 (qar fields)) out,qar fields ≤ x.1:=by
  intro r
  induction r with
  | nil=>intro out h; exact h
  | cons t r ih =>
   intro out h
   rw [List.foldl_cons]
   refine ih _ ?_
   unfold qb3
   dsimp only
   split
   ·exact h
   rename_i hn
   have ht:qar fields ≤ t.1:=by
    rcases Int.lt_or_le t.1 (qar fields) with g | g
    ·exact absurd (.inl g) hn
    exact g
   intro x hx
   rcases List.mem_append.1 hx with hx | hx
   ·exact h x (List.mem_of_mem_take hx)
   rcases List.mem_cons.1 hx with rfl | hx
   ·exact ht
   exact h x (List.mem_of_mem_drop hx)
 exact key _ [] (fun x hx=>by cases hx)
theorem qhM {v:Int} {d:Nat} {l:List Fld} {t:Tree} {n:Int} (h:n ≤ qar l):∀ x ∈ (fitT v d l t).U,n ≤ x.1:=by
 intro x hx
 rw [qkc] at hx
 obtain ⟨y,hy,rfl⟩:=List.mem_map.1 hx
 exact Int.le_trans h (qjq y hy)
def Tree.ranged:Tree → Prop
 | .mk _ _ _ l u=>(∀ x ∈ u,0 ≤ x.1 ∧ x.1 < 4294967296) ∧ rangeds l
where rangeds:List Tree → Prop
 | []=>True
 | t :: r=>t.ranged ∧ rangeds r
abbrev rangeds:=Tree.ranged.rangeds
theorem qf6:∀ {l:List Tree},rangeds l → ∀ x ∈ l,x.ranged
 | [],_,x,h=>by cases h
 | t :: r,hr,x,h=>by
  rcases List.mem_cons.1 h with rfl | h
  ·exact hr.1
  exact qf6 (l:=r) hr.2 x h
theorem qez:∀ {l:List Tree},(∀ x ∈ l,x.ranged) → rangeds l
 | [],_=>trivial
 | t :: r,h=>⟨h t (List.mem_cons_self ..),qez (l:=r) fun x hx=>h x (List.mem_cons_of_mem _ hx)⟩
theorem qf7:Tree.zero.ranged:=⟨fun x h=>(by cases h),trivial⟩
theorem qdF {t:Tree} (h:t.ranged):∀ x ∈ t.U,0 ≤ x.1 ∧ x.1 < 4294967296:=by cases t; exact h.1
theorem qg7 {t:Tree} (h:t.ranged):∀ x ∈ t.L,x.ranged:=by cases t; exact qf6 h.2
theorem qfd {t:Tree} (h:t.ranged) (i:Nat):(t.at_ i).ranged:=by
 unfold Tree.at_
 rw [List.getD_eq_getElem?_getD]
 cases hx:t.L[i]? with
 | none=>exact qf7
 | some x=>exact qg7 h x (List.mem_of_getElem? hx)
theorem qgw {t:Tree} (h:t.ranged):∀ x ∈ lst t,x.ranged:=fun x hx=>by
 unfold lst at hx
 split at hx
 ·cases hx
 exact qg7 h x hx
theorem TreeR.ranged {w:World} {F:Nat → Nat → Prop} {cs:List Value} {t:Tree} (h:TreeR w F cs t):t.ranged:=by
 induction h with
 | @mk n s b l u A1 A2 A3 c1 c2 c3 cs h1 h2 h3 h4 ih =>
  refine ⟨fun x hx=>qjg h4 x hx,qez fun x hx=>?_⟩
  obtain ⟨i,hi⟩:=List.mem_iff_getElem?.1 hx
  exact ih i x hi
theorem qjr (v:Int):∀ (d:Nat) (l:List Fld) (t:Tree),t.ranged → (fitT v d l t).ranged:=by
 have core:∀ (W:Fld → Tree → Tree) (l:List Fld) (t:Tree),t.ranged → (∀ f x,x.ranged → (W f x).ranged) → (fitW W l t).ranged:=by
  intro W l t ht hW
  refine ⟨fun x hx=>?_,qez ?_⟩
  ·obtain ⟨y,hy,rfl⟩:=List.mem_map.1 hx
   exact qdF ht y (qhz y hy)
  have:∀ (l:List Fld) (i:Nat),∀ x ∈ qhX W l t i,x.ranged:=by
   intro l
   induction l with
   | nil=>intro i x hx; cases hx
   | cons f r ih =>
    intro i x hx
    rcases List.mem_cons.1 hx with rfl | hx
    ·exact hW f _ (qfd ht i)
    exact ih (i + 1) x hx
  exact this l 0
 have f0:∀ (p:List Fld → Tree → Tree),(∀ l x,x.ranged → (p l x).ranged) → ∀ (f:Fld) (b:Bool) (x:Tree),x.ranged → (qci p f b x).ranged:=by
  intro p hp f b x hx
  unfold qci
  split
  ·exact ⟨fun x h=>(by cases h),trivial⟩
  split
  ·have:=hp f.sub x hx
   generalize p f.sub x = y at this
   cases y; exact this
  exact ⟨fun x h=>(by cases h),trivial⟩
 intro d
 induction d with
 | zero=>intro l t ht; exact core _ l t ht fun _ _ _=>qf7
 | succ d ih =>
  intro l t ht
  refine core _ l t ht fun f x hx=>?_
  unfold qcB
  split
  ·refine ⟨fun x h=>(by cases h),qez fun y hy=>?_⟩
   obtain ⟨z,hz,rfl⟩:=List.mem_map.1 hy
   exact f0 _ ih _ _ _ (qg7 hx z (by unfold qax at hz; exact List.mem_of_mem_take hz))
  exact f0 _ ih _ _ _ hx
abbrev z13 (x0) (x1) (x2) (x3) (x4) (x5) (x6) (x7) (x8) (x9):=([.int .i64 x0,.int .i64 x1,.int .i64 x2,.int .i64 x3,.int .i64 x4,.int .i64 x5,.int .i64 x6,.slice x7 x8 x9]:List Value)
theorem sHas (k x1 x2 x3 x4 x5 x6:Int) (fs:List Fld) (AF:Option Addr) (cF:Nat) (v:Int) (w:World) :
  Calls Tryz.prog 26 #[.agg #[.int .i64 k,.int .i64 x1,.int .i64 x2,.int .i64 x3,.int .i64 x4,.int .i64 x5,.int .i64 x6,.slice AF fs.length cF],.int .i64 v] w (qcK w (.bool (Fld.has (Fld.mk k x1 x2 x3 x4 x5 x6 fs) v))):=by
 refine enter (n:=20) Tryz.func26 rfl Tryz.ntmps26 kz fun a hE=>?_
 have hW:=WOk.start w Nil
 refine qad [0,1] kz ?_
 refine qam (qbt hW hE (d:=2) (cs:=(z13 k x1 x2 x3 x4 x5 x6 AF fs.length cF)) kz fun b1 a2 w3 hb4 hz5 hF6 hW7 hE8=>?_)
 let aa:Nat × SV:=(1,.v (.int .i64 v))
 let ab:Nat × SV:=(2,.p 0 0)
 refine qaj [1] [] [aa,ab] hW7 hE8 fun a9 ai=>?_
 refine qae (qaa ?_)
 refine qad [0,1,2,3,4,5,6,7,8,9,10,11,12,13,14,15] kz ?_
 refine qaj [0,1,2,3,4] [5,6,7,8,9,10,11,12,13,14,15] [aa,ab,(9,.v (.bool (decide (x1 ≤ v))))] hW7 ai fun ay ag=>?_
 refine (Bool.eq_false_or_eq_true (decide (x1 ≤ v))).elim (fun ac=>?_) (fun ac=>?_)
 ·
  have au:=of_decide_eq_true ac
  let af:Nat × SV:=(9,.v (.bool true))
  have aj:=ag
  rw [ac] at aj
  refine qaj [5,6,7,8] [9,10,11,12,13,14,15] [aa,ab,af,(13,.v (.bool (decide (x2 < 0))))] hW7 aj fun az ah=>?_
  refine (Bool.eq_false_or_eq_true (decide (x2 < 0))).elim (fun ae=>?_) (fun ae=>?_)
  ·
   have av:=of_decide_eq_true ae
   have ak:=ah
   rw [ae] at ak
   refine qaj [9,10,11,12,13,14,15] [] [(4,.v (.bool true))] hW7 ak fun aA al=>?_
   refine qae (qaa ?_)
   refine wp_ret (qaD al hW7.cells (v:=.bool true) kz ?_)
   exact ⟨by simp only [Fld.has,ac,ae,Bool.true_and,Bool.and_true,Bool.false_and,Bool.and_false,Bool.true_or,Bool.false_or,Bool.or_true,Bool.or_false],hW7.step⟩
  have aw:=of_decide_eq_false ae
  have am:=ah
  rw [ae] at am
  refine qaj [9,10,11,12,13,14,15] [] [(4,.v (.bool (decide (v ≤ x2))))] hW7 am fun aB ao=>?_
  refine qae (qaa ?_)
  refine wp_ret (qaD ao hW7.cells (v:=.bool (decide (v ≤ x2))) kz ?_)
  exact ⟨by simp only [Fld.has,ac,ae,Bool.true_and,Bool.and_true,Bool.false_and,Bool.and_false,Bool.true_or,Bool.false_or,Bool.or_true,Bool.or_false],hW7.step⟩
 have ax:=of_decide_eq_false ac
 have ap:=ag
 rw [ac] at ap
 refine qaj [5,6,7,8,9,10,11,12,13,14,15] [] [(4,.v (.bool false))] hW7 ap fun aC ar=>?_
 refine qae (qaa ?_)
 refine wp_ret (qaD ar hW7.cells (v:=.bool false) kz ?_)
 exact ⟨by simp only [Fld.has,ac,Bool.true_and,Bool.and_true,Bool.false_and,Bool.and_false,Bool.true_or,Bool.false_or,Bool.or_true,Bool.or_false],hW7.step⟩
abbrev z1 (x0) (x1) (x2) (x3) (x4) (x5) (x6) (x7) (x8) (x9) (x10) (x11) (x12) (x13):=(Fld.nul (Fld.mk x0 x1 x2 x3 x4 x5 x6 x7) x8 (Tree.mk x9 x10 x11 x12 x13))
theorem qns (k x1 x2 x3 x4 x5 x6:Int) (fs:List Fld) (AF:Option Addr) (cF:Nat) (v:Int) (n:Int) (s:Bs) (b:Bool) (l:List Tree) (u:List (Int × Bs)) (A1:Option Addr) (c1:Nat) (A2:Option Addr) (c2:Nat) (A3:Option Addr) (c3:Nat) (w:World) :
  Calls Tryz.prog 39 #[.agg #[.int .i64 k,.int .i64 x1,.int .i64 x2,.int .i64 x3,.int .i64 x4,.int .i64 x5,.int .i64 x6,.slice AF fs.length cF],.int .i64 v,.agg #[.int .i64 n,.slice A1 s.length c1,.bool b,.slice A2 l.length c2,.slice A3 u.length c3]] w (qcK w (.bool (z1 k x1 x2 x3 x4 x5 x6 fs v n s b l u))):=by
 refine enter (n:=20) Tryz.func39 rfl Tryz.ntmps39 kz fun a hE=>?_
 have hW:=WOk.start w Nil
 refine qad [0,1,2] kz ?_
 refine qam (qbt hW hE (d:=3) (cs:=(z13 k x1 x2 x3 x4 x5 x6 AF fs.length cF)) kz fun b1 a2 w3 hb4 hz5 hF6 hW7 hE8=>?_)
 refine qam (qbt hW7 hE8 (d:=5) (cs:=[.int .i64 n,.slice A1 s.length c1,.bool b,.slice A2 l.length c2,.slice A3 u.length c3]) kz fun b9 aA aB av aw ax aa ai=>?_)
 let ab:Nat × SV:=(1,.v (.int .i64 v))
 let ac:Nat × SV:=(3,.p 0 0)
 refine qaj [2] [] [ab,ac,(5,.p 1 0)] aa ai fun aC aj=>?_
 refine qae (qaa ?_)
 refine qad [0,1,2,3,4,5,6,7,8,9,10,11,12,13] kz ?_
 refine qaj [0,1,2] [3,4,5,6,7,8,9,10,11,12,13] [ab,ac,(9,.v (.bool b))] aa aj fun aD ag=>?_
 refine (Bool.eq_false_or_eq_true (b)).elim (fun af=>?_) (fun af=>?_)
 ·
  have ak:=ag.cast (env':=[ab,ac,(9,.v (.bool true))]) (by rw [af])
  refine qaj [3,4,5,6,7] [8,9,10,11,12,13] [ab,ac,(14,.v (.bool (decide (x3 ≥ 0))))] aa ak fun aE ah=>?_
  refine (Bool.eq_false_or_eq_true (decide (x3 ≥ 0))).elim (fun ae=>?_) (fun ae=>?_)
  ·
   have ay:=of_decide_eq_true ae
   have al:=ah
   rw [ae] at al
   refine qaj [8,9,10,11,12,13] [] [(6,.v (.bool (decide (v ≥ x3))))] aa al fun aF am=>?_
   refine qae (qaa ?_)
   refine wp_ret (qaD am aa.cells (v:=.bool (decide (v ≥ x3))) kz ?_)
   exact ⟨by simp only [Fld.nul,af,ae,Bool.true_and,Bool.and_true,Bool.false_and,Bool.and_false,Bool.true_or,Bool.false_or,Bool.or_true,Bool.or_false],aa.step⟩
  have az:=of_decide_eq_false ae
  have ao:=ah
  rw [ae] at ao
  refine qaj [8,9,10,11,12,13] [] [(6,.v (.bool false))] aa ao fun aG ap=>?_
  refine qae (qaa ?_)
  refine wp_ret (qaD ap aa.cells (v:=.bool false) kz ?_)
  exact ⟨by simp only [Fld.nul,af,ae,Bool.true_and,Bool.and_true,Bool.false_and,Bool.and_false,Bool.true_or,Bool.false_or,Bool.or_true,Bool.or_false],aa.step⟩
 have ar:=ag.cast (env':=[ab,ac,(9,.v (.bool false))]) (by rw [af])
 refine qaj [3,4,5,6,7,8,9,10,11,12,13] [] [(6,.v (.bool false))] aa ar fun aH au=>?_
 refine qae (qaa ?_)
 refine wp_ret (qaD au aa.cells (v:=.bool false) kz ?_)
 exact ⟨by simp only [Fld.nul,af,Bool.true_and,Bool.and_true,Bool.false_and,Bool.and_false,Bool.true_or,Bool.false_or,Bool.or_true,Bool.or_false],aa.step⟩
theorem qkC (k:Int) (w:World):Calls Tryz.prog 43 #[.int .i64 k] w (qcK w (.int .i64 ((qbG k:Nat):Int))):=by
 refine enter (n:=11) Tryz.func43 rfl Tryz.ntmps43 kz fun a hE=>?_
 have hW:=WOk.start w Nil
 refine qat [(0,.v (.int .i64 k))] hW hE fun a1 hE2=>?_
 refine wp_seq (qat [(3,.v (.int .i64 k))] hW hE2 fun a3 hE4=>?_)
 refine wp_block (qat [(3,.v (.int .i64 k)),(4,.v (.bool (k == 1)))] hW hE4 fun a5 hE6=>?_)
 refine qaA hE6 (b:=k == 1) kz (fun hc7=>?_) (fun hc7=>?_)
 ·
  have hf8:k = 1:=by simpa using hc7
  refine qat [(2,.v (.int .i64 1))] hW hE6 fun a9 ah=>?_
  refine wp_ret (qa2 (qaE (qaD ah hW.cells (v:=.int .i64 1) kz ?_)))
  exact ⟨by simp_all [qbG],hW.step⟩
 have am:k ≠ 1:=by simpa using hc7
 refine wp_seq (qat [(3,.v (.int .i64 k)),(6,.v (.bool (k == 2)))] hW hE6 fun ax aa=>?_)
 refine qaA aa (b:=k == 2) kz (fun ab=>?_) (fun ab=>?_)
 ·
  have ao:k = 2:=by simpa using ab
  refine wp_skip (qaa (qbw aa (b:=k == 2) kz (ab) ?_))
  refine qat [(2,.v (.int .i64 2))] hW aa fun ay ai=>?_
  refine wp_ret (qa2 (qaE (qaD ai hW.cells (v:=.int .i64 2) kz ?_)))
  exact ⟨by simp_all [qbG],hW.step⟩
 have ap:k ≠ 2:=by simpa using ab
 refine qaq [0,1] kz ?_
 refine qaj [0,1] [] [(3,.v (.int .i64 k)),(6,.v (.bool (k == 5)))] hW aa fun az ac=>?_
 refine qae (qaa ?_)
 refine qaA ac (b:=k == 5) kz (fun ae=>?_) (fun ae=>?_)
 ·
  have ar:k = 5:=by simpa using ae
  refine qat [(2,.v (.int .i64 2))] hW ac fun aA aj=>?_
  refine wp_ret (qa2 (qaE (qaD aj hW.cells (v:=.int .i64 2) kz ?_)))
  exact ⟨by simp_all [qbG],hW.step⟩
 have au:k ≠ 5:=by simpa using ae
 refine qat [(9,.v (.bool (k == 3)))] hW ac fun aB af=>?_
 refine qaA af (b:=k == 3) kz (fun ag=>?_) (fun ag=>?_)
 ·
  have av:k = 3:=by simpa using ag
  refine qat [(2,.v (.int .i64 4))] hW af fun aC ak=>?_
  refine wp_ret (qa2 (qaE (qaD ak hW.cells (v:=.int .i64 4) kz ?_)))
  exact ⟨by simp_all [qbG],hW.step⟩
 have aw:k ≠ 3:=by simpa using ag
 refine wp_skip (qaw (qaa (qat [(2,.v (.int .i64 8))] hW af fun aD al=>?_)))
 refine wp_ret (qaD al hW.cells (v:=.int .i64 8) kz ?_)
 exact ⟨by simp_all [qbG],hW.step⟩
theorem qkD (A:Option Addr) (c:Nat) (s:Bs) (hc:s.length ≤ c) (w:World) :
  Calls Tryz.prog 33 #[.slice A s.length c] w (qcK w (.slice A (qaC s).length c)):=by
 refine enter (n:=8) Tryz.func33 rfl Tryz.ntmps33 kz fun a hE=>?_
 have hW:=WOk.start w Nil
 refine qat [(0,.v (.slice A s.length c))] hW hE fun a1 hE2=>?_
 refine qad [0,1,2,3,4,5] kz ?_
 refine qaj [0,1,2,3] [4,5] [(3,.v (.slice A s.length c)),(6,.v (.int .i64 (if 32767 < ((s.length:Nat):Int) then 32767 else ((s.length:Nat):Int))))] hW hE2 fun a3 hE4=>?_
 refine qam (qbL hE4 (t:=24) (A:=A) (m:=s.length) (cp:=c) (q:=(if 32767 < ((s.length:Nat):Int) then 32767 else ((s.length:Nat):Int))) (d:=7) (j:=(qaC s).length) kz (e:=5) (size:=1) (bytes:=1) kz (by simpa [qaC] using qhW s.length) (by simp only [qaC,List.length_take]; omega) fun a5 hE6=>?_)
 refine qaj [5] [] [(2,.v (.slice A ((qaC s).length) c))] hW hE6 fun a7 hE8=>?_
 refine qae (qaa ?_)
 refine wp_ret (qaD hE8 hW.cells (v:=.slice A ((qaC s).length) c) kz ?_)
 exact ⟨rfl,hW.step⟩
theorem qmk (A:Option Addr) (c:Nat) (s:List Tree) (hc:s.length ≤ c) (w:World) :
  Calls Tryz.prog 40 #[.slice A s.length c] w (qcK w (.slice A (qax s).length c)):=by
 refine enter (n:=8) Tryz.func40 rfl Tryz.ntmps40 kz fun a hE=>?_
 have hW:=WOk.start w Nil
 refine qat [(0,.v (.slice A s.length c))] hW hE fun a1 hE2=>?_
 refine qad [0,1,2,3,4,5] kz ?_
 refine qaj [0,1,2,3] [4,5] [(3,.v (.slice A s.length c)),(6,.v (.int .i64 (if 32767 < ((s.length:Nat):Int) then 32767 else ((s.length:Nat):Int))))] hW hE2 fun a3 hE4=>?_
 refine qam (qbL hE4 (t:=25) (A:=A) (m:=s.length) (cp:=c) (q:=(if 32767 < ((s.length:Nat):Int) then 32767 else ((s.length:Nat):Int))) (d:=7) (j:=(qax s).length) kz (e:=28) (size:=5) (bytes:=88) kz (by simpa [qax] using qhW s.length) (by simp only [qax,List.length_take]; omega) fun a5 hE6=>?_)
 refine qaj [5] [] [(2,.v (.slice A ((qax s).length) c))] hW hE6 fun a7 hE8=>?_
 refine qae (qaa ?_)
 refine wp_ret (qaD hE8 hW.cells (v:=.slice A ((qax s).length) c) kz ?_)
 exact ⟨rfl,hW.step⟩
theorem qml (A A':Option Addr) (c c':Nat) (s t:Bs) (w:World) (F:Nat → Nat → Prop) (hs:Octs w F A c s) (ht:Octs w F A' c' t) :
  Calls Tryz.prog 11 #[.slice A s.length c,.slice A' t.length c'] w (qcK w (.bool (decide (s = t)))):=by
 refine enter (n:=26) Tryz.func11 rfl Tryz.ntmps11 kz fun a hE=>?_
 have hW:=WOk.start w Nil
 have hl:=Slots.small hs
 let aa:Nat × SV:=(0,.v (.slice A s.length c))
 let ab:Nat × SV:=(1,.v (.slice A' t.length c'))
 refine qat [aa,ab] hW hE fun a1 hE2=>?_
 refine wp_seq (qat [aa,ab,(10,.v (.bool (((s.length:Nat):Int) != ((t.length:Nat):Int))))] hW hE2 fun a3 hE4=>?_)
 refine qaA hE4 (b:=((s.length:Nat):Int) != ((t.length:Nat):Int)) kz (fun hc5=>?_) (fun hc5=>?_)
 ·
  have hf6:((s.length:Nat):Int) ≠ ((t.length:Nat):Int):=by simpa using hc5
  refine qat [(4,.v (.bool false))] hW hE4 fun a7 hE8=>?_
  refine wp_ret (qaE (qaD hE8 hW.cells (v:=.bool false) kz ?_))
  exact ⟨by first | rw [← qgG hq (by omega) hlen] | rw [← qhY ‹_›] | rw [← qgF ‹_›],hW.step⟩
 have hf9:((s.length:Nat):Int) = ((t.length:Nat):Int):=by simpa using hc5
 refine wp_skip (qaa (wp_seq ?_))
 let ac:Nat × SV:=(12,.v (.int .i64 ((s.length:Nat):Int)))
 refine qat [aa,ab,ac,(13,.v (.int .i64 0))] hW hE4 fun aT ap=>?_
 refine wp_block ?_
 have hlen:s.length = t.length:=by omega
 refine wp_loop_ghost (fun n_ a_ w_=>∃ (k:Nat),n_ = s.length - k ∧ k ≤ s.length ∧ (s.take k = t.take k) ∧ LInv hW 26 [] [] [aa,ab,ac,(13,.v (.int .i64 ((k:Nat):Int)))] a_ w_) (s.length) ⟨0,by omega,by omega,rfl,ap.pk,hW,Fr.refl _ _ _⟩ ?_
 rintro aU aV aW ⟨k,aH,aI,hq,ar,ag,au⟩
 let af:Nat × SV:=(13,.v (.int .i64 ((k:Nat):Int)))
 refine qat [aa,ab,ac,af,(14,.v (.bool (decide (((k:Nat):Int) < ((s.length:Nat):Int)))))] ag ar fun aX ah=>?_
 refine wp_seq (qaA ah (b:=decide (((k:Nat):Int) < ((s.length:Nat):Int))) kz (fun ai=>?_) (fun ai=>?_))
 ·
  have aJ:=of_decide_eq_true ai
  refine wp_skip (qaa (wp_seq (wp_block (qat [aa,ab,(5,.v (.int .i64 ((k:Nat):Int))),ac,af] ag ah fun aY av=>?_))))
  refine qcm kz ag fun aZ aw ae=>?_
  refine qaY [0,1,4,5] [aa,ab,ac,af,(16,.v (.slice A s.length c)),(17,.v (.int .i64 ((k:Nat):Int))),(20,.v (.slice A' t.length c')),(21,.v (.int .i64 ((k:Nat):Int)))] 5 (qac (qah (qac (qac (qah (qac qai)))))) (fun _ h=>h ▸ ae.cells) rfl av fun ba ax=>?_
  obtain ⟨aK,aL,ay,aM,al⟩:=Slots.get hs (i:=k) (by omega)
  refine qbk ax (i:=2) (t:=24) (A:=A) (m:=s.length) (q:=((k:Nat):Int)) (d:=18) kz (e:=5) (size:=1) (bytes:=1) kz ay rfl (by omega) kz kz (qac (qah (qac (qac (qah (qac qai)))))) rfl fun bd az=>?_
  refine qbj az (i:=3) (t:=5) (b:=aK) (o:=aL + k * 1) (d:=19) kz (cs:=[.int .u8 ((s.getD k 0).toNat:Int)]) (v:=.int .u8 ((s.getD k 0).toNat:Int)) kz (fun w' h'=>h' ▸ (AtF.move al ae.step nilM qa7).at_) kz kz (qac (qah (qac (qac (qah (qac qai)))))) rfl fun bf aA=>?_
  obtain ⟨aN,aO,aB,aP,am⟩:=Slots.get ht (i:=k) (by omega)
  refine qbk aA (i:=6) (t:=24) (A:=A') (m:=t.length) (q:=((k:Nat):Int)) (d:=22) kz (e:=5) (size:=1) (bytes:=1) kz aB rfl (by omega) kz kz (qac (qah (qac (qac (qah (qac qai)))))) rfl fun bg aC=>?_
  refine qbj aC (i:=7) (t:=5) (b:=aN) (o:=aO + k * 1) (d:=23) kz (cs:=[.int .u8 ((t.getD k 0).toNat:Int)]) (v:=.int .u8 ((t.getD k 0).toNat:Int)) kz (fun w' h'=>h' ▸ (AtF.move am ae.step nilM qa7).at_) kz kz (qac (qah (qac (qac (qah (qac qai)))))) rfl fun bh aD=>?_
  refine qaY [8] [aa,ab,ac,af,(24,.v (.bool (((s.getD k 0).toNat:Int) != ((t.getD k 0).toNat:Int))))] 0 (qac (qah (qac (qac (qah (qac qai)))))) (fun _ h=>h ▸ ae.cells) rfl aD fun bj aj=>?_
  refine qaW kz ?_ _
  refine qaa (qaA aj (b:=((s.getD k 0).toNat:Int) != ((t.getD k 0).toNat:Int)) kz (fun ak=>?_) (fun ak=>?_))
  ·
   have aQ:((s.getD k 0).toNat:Int) ≠ ((t.getD k 0).toNat:Int):=by simpa using ak
   refine qat [(4,.v (.bool false))] ae aj fun bk aE=>?_
   refine wp_ret (qa2 (qaE (qaE (qa2 (qaE (qaD aE ae.cells (v:=.bool false) kz ?_))))))
   exact ⟨by first | rw [← qgG hq (by omega) hlen] | rw [← qhY ‹_›] | rw [← qgF ‹_›],ae.step⟩
  have aR:((s.getD k 0).toNat:Int) = ((t.getD k 0).toNat:Int):=by simpa using ak
  refine wp_skip (qaw (qaa (qaq [0,1] kz ?_)))
  refine qaj [0,1] [] [aa,ab,ac,(13,.v (.int .i64 (IntKind.i64.wrap (((k:Nat):Int) + 1))))] ae aj fun bn ao=>?_
  refine qae (qaa ?_)
  have aF:IntKind.i64.wrap (((k:Nat):Int) + 1) = ((k + 1:Nat):Int):=qbq (by omega)
  rw [aF] at ao
  exact ⟨s.length - (k + 1),by omega,k + 1,rfl,by omega,qjC hq (by omega) hlen ‹_›,ao.pk,ae,(au.trans aw)⟩
 have aS:=of_decide_eq_false ai
 refine wp_exit (qay (qay (qaQ (qaa (qat [(4,.v (.bool true))] ag ah fun bo aG=>?_)))))
 refine wp_ret (qaD aG ag.cells (v:=.bool true) kz ?_)
 exact ⟨by first | rw [← qgG hq (by omega) hlen] | rw [← qhY ‹_›] | rw [← qgF ‹_›],ag.step⟩
theorem sAt (ct:List Value) (t:Tree) (i:Nat) (w:World) (F:Nat → Nat → Prop) (ht:TreeR w F ct t) :
  Calls Tryz.prog 28 #[.agg ct.toArray,.int .i64 (i:Int)] w (qmC w F (t.at_ i)):=by
 obtain ⟨n1,s2,b3,l4,u5,A6,c7,A8,c9,aJ,aK,aL,rfl,rfl,aM,aE,aN,bx⟩:=ht.open_
 have aF:=aM.small
 have aG:=aE.small
 refine enter (n:=16) Tryz.func28 rfl Tryz.ntmps28 kz fun a hE=>?_
 have hW:=WOk.start w Nil
 refine qad [0,1] kz ?_
 refine qam (qbt hW hE (d:=2) (cs:=[.int .i64 n1,.slice A6 s2.length c7,.bool b3,.slice A8 l4.length c9,.slice aJ u5.length aK]) kz fun bz bA bB aO aP aQ au av=>?_)
 let aa:Value:=.slice none 0 0
 refine qam (qbo au av (d:=4) (cs:=[.int .i64 0,aa,.bool false,aa,aa]) kz fun bC bD bE aR aS aT af aw=>?_)
 refine qae (qaa ?_)
 refine wp_seq (qat [(1,.v (.int .i64 ((i:Nat):Int))),(2,.p 0 0),(4,.p 1 0),(9,.v (.bool (decide (((i:Nat):Int) < ((l4.length:Nat):Int)))))] af aw fun bF ai=>?_)
 refine qaA ai (b:=decide (((i:Nat):Int) < ((l4.length:Nat):Int))) kz (fun aj=>?_) (fun aj=>?_)
 ·
  have aU:=of_decide_eq_true aj
  refine qad [0,1,2,3,4,5] kz ?_
  refine qaj [0,1,2] [3,4,5] [(4,.p 1 0),(11,.v (.slice A8 l4.length c9)),(12,.v (.int .i64 ((i:Nat):Int)))] af ai fun bG ax=>?_
  obtain ⟨aV,aW,ay,aX,ag⟩:=Slots.get aE (i:=i) (by omega)
  obtain ⟨aY,al⟩:∃ x,l4[i]? = some x:=⟨_,List.getElem?_eq_getElem (by omega)⟩
  have ak:=aN i aY al
  obtain ⟨ap,aZ,ar,ba,bd,bf,bg,bh,bj,bk,bn,bo,rfl,ah,bp,bq,bH,bI⟩:=ak.open_
  rw [ah] at ak
  have aH:=bp.small
  have aI:=bq.small
  rw [ah] at ag
  refine qam (qaz ax (t:=25) (A:=A8) (m:=l4.length) (q:=((i:Nat):Int)) (d:=13) kz (e:=28) (size:=5) (bytes:=88) kz ay rfl (by omega) fun bJ az=>?_)
  let ab:Value:=.slice bf aZ.length bg
  let ac:Value:=.slice bh ba.length bj
  let ae:Value:=.slice bk bd.length bn
  refine qam (qaH az (t:=28) (b:=aV) (o:=aW + i * 5) (d:=14) kz (cs:=[.int .i64 ap,ab,.bool ar,ac,ae]) (v:=.agg #[.int .i64 ap,ab,.bool ar,ac,ae]) kz (AtF.move ag af.step nilM qa7).at_ fun bK aA=>?_)
  refine qam (qaK af aA (oi:=1) (cs:=[.int .i64 ap,ab,.bool ar,ac,ae]) kz fun bL bt am aB=>?_)
  refine qae (qaa ?_)
  refine wp_ret (qaE (qaD aB am.cells (v:=.agg #[.int .i64 ap,ab,.bool ar,ac,ae]) kz ?_))
  exact ⟨_,rfl,by rw [qlX al]; exact ak,am.step⟩
 have bu:=of_decide_eq_false aj
 refine wp_skip (qaa (qad [0,1] kz ?_))
 refine qaj [0] [1] [(4,.p 1 0),(15,.v (.agg #[.int .i64 0,aa,.bool false,aa,aa]))] af ai fun bM aC=>?_
 refine qam (qaK af aC (oi:=1) (cs:=[.int .i64 0,aa,.bool false,aa,aa]) kz fun bN bw ao aD=>?_)
 refine qae (qaa ?_)
 refine wp_ret (qaD aD ao.cells (v:=.agg #[.int .i64 0,aa,.bool false,aa,aa]) kz ?_)
 exact ⟨_,rfl,by rw [qlY (by omega)]; exact TreeR.zero _ _,ao.step⟩
theorem qcX (x:Int) (size:Nat) (hsz:size ≤ 8) (w:World) :
  Calls Tryz.prog 22 #[.int .i64 x,.int .i64 ((size:Nat):Int)] w (qd0 w 5 (be size x)):=by
 refine enter (n:=22) Tryz.func22 rfl Tryz.ntmps22 kz fun a hE=>?_
 have hW:=WOk.start w Nil
 let aa:Nat × SV:=(0,.v (.int .i64 x))
 let ah:Nat × SV:=(1,.v (.int .i64 ((size:Nat):Int)))
 refine qat [aa,ah] hW hE fun a1 hE2=>?_
 refine qat [aa,ah,(5,.v (.slice none 0 0))] hW hE2 fun a3 hE4=>?_
 refine wp_seq (qat [aa,(5,.v (.slice none 0 0)),(6,.v (.int .i64 (IntKind.i64.wrap (((size:Nat):Int) - 1))))] hW hE4 fun a5 hE6=>?_)
 refine wp_block ?_
 have hW7:=hW.addNil 5 1
 have hF8:=hW.frNil 5 1
 have ao:IntKind.i64.wrap (((size:Nat):Int) - 1) = ((size:Nat):Int) - 1 - ((0:Nat):Int):=by rw [wrap_i64 (by omega) (by omega)]; omega
 rw [ao] at hE6
 refine wp_loop_ghost (fun n_ a_ w_=>∃ (k:Nat) (A:Option Addr) (c:Nat),n_ = size - k ∧ k ≤ size ∧ LInv hW7 22 [] [brow A c 5 ((be size x).take k)] [aa,(5,.v (.slice A (((be size x).take k).length) c)),(6,.v (.int .i64 (((size:Nat):Int) - 1 - ((k:Nat):Int))))] a_ w_) (size) ⟨0,none,0,by omega,by omega,hE6.pk,hW7,Fr.refl _ _ _⟩ ?_
 rintro n9 aO aP ⟨k,A,c,aK,aL,ap,ac,ar⟩
 refine wp_seq ?_
 let ab:Nat × SV:=(6,.v (.int .i64 (((size:Nat):Int) - 1 - ((k:Nat):Int))))
 refine qat [aa,(5,.v (.slice A (((be size x).take k).length) c)),ab,(10,.v (.bool (decide ((((size:Nat):Int) - 1 - ((k:Nat):Int)) ≥ 0))))] ac ap fun aQ ai=>?_
 refine qaA ai (b:=decide ((((size:Nat):Int) - 1 - ((k:Nat):Int)) ≥ 0)) kz (fun aj=>?_) (fun aj=>?_)
 ·
  have aM:=of_decide_eq_true aj
  refine wp_skip (qaa (wp_seq (wp_block (qaq [0,1,2,3,4,5,6,7,8] kz ?_))))
  let ae:Nat × SV:=(13,.v (.slice A (((be size x).take k).length) c))
  refine qaj [0,1,2,3] [4,5,6,7,8] [aa,ab,ae,(14,.v (.int .i64 x)),(16,.v (.int .i64 (IntKind.i64.wrap (8 * (((size:Nat):Int) - 1 - ((k:Nat):Int))))))] ac ai fun aR au=>?_
  refine qam (qkW au (k:=.i64) (p:=x) (q:=(IntKind.i64.wrap (8 * (((size:Nat):Int) - 1 - ((k:Nat):Int))))) (d:=17) (j:=8 * (size - 1 - k)) kz (by rw [wrap_i64 (by omega) (by omega)]; omega) (by simp only [IntKind.bits]; omega) fun aS av=>?_)
  refine qaj [5] [6,7,8] [aa,ab,ae,(18,.v (.int .u8 (IntKind.u8.wrap (x / 2 ^ (8 * (size - 1 - k))))))] ac av fun aT aw=>?_
  refine qby ac aw (k:=0) (e:=5) (size:=1) (len:=1) (cs:=[.int .u8 (IntKind.u8.wrap (x / 2 ^ (8 * (size - 1 - k))))]) (d1:=19) (d:=20) kz (t:=24) (bytes:=1) kz (fun _=>by kernel_rfl) rfl kz (by first | (have:=hroom; omega) | (simp; done) | (simp; omega)) fun af ag aU aV ax ay ⟨_,az⟩=>?_
  have aA:(⟨af,ag,5,1,((be size x).take k).length + 1,bc ((be size x).take k) ++ [.int .u8 (IntKind.u8.wrap (x / 2 ^ (8 * (size - 1 - k))))]⟩:Rw) = brow af ag 5 ((be size x).take k ++ [by8 (x / 2 ^ (8 * (size - 1 - k)))]):=qa6 (by simp only [bc,List.map,qbK]; try rfl) rfl
  obtain ⟨ak,aB⟩:=ay.rowEq 0 [brow af ag 5 ((be size x).take k ++ [by8 (x / 2 ^ (8 * (size - 1 - k)))])] aA
  have aC:=EnvOk.pick az (ks:=[0,6,13,18,20]) (env':=[aa,ab,ae,(18,.v (.int .u8 (IntKind.u8.wrap (x / 2 ^ (8 * (size - 1 - k)))))),(20,.v (.slice af (((be size x).take k).length + 1) ag))]) kz
  have aD:=aC.cast (env':=[aa,ab,ae,(18,.v (.int .u8 (IntKind.u8.wrap (x / 2 ^ (8 * (size - 1 - k)))))),(20,.v (.slice af (((be size x).take k ++ [by8 (x / 2 ^ (8 * (size - 1 - k)))]).length) ag))]) (by simp only [List.length_append,List.length_cons,List.length_nil,Nat.zero_add])
  refine qaj [8] [] [aa,(5,.v (.slice af (((be size x).take k ++ [by8 (x / 2 ^ (8 * (size - 1 - k)))]).length) ag)),ab] ak aD fun aW aE=>?_
  refine qae (qaw (qaa (qaq [0,1,2] kz ?_)))
  refine qaj [0,1,2] [] [aa,(5,.v (.slice af (((be size x).take k ++ [by8 (x / 2 ^ (8 * (size - 1 - k)))]).length) ag)),(6,.v (.int .i64 (IntKind.i64.wrap ((((size:Nat):Int) - 1 - ((k:Nat):Int)) - 1))))] ak aE fun aX al=>?_
  refine qae (qaa ?_)
  have am:((be size x).take k ++ [by8 (x / 2 ^ (8 * (size - 1 - k)))]) = ((be size x).take (k + 1)):=(qhh (by omega)).symm
  have aF:=congrArg (brow af ag 5) am
  obtain ⟨aG,aH⟩:=ak.rowEq 0 [brow af ag 5 ((be size x).take (k + 1))] aF
  rw [am] at al
  have aI:IntKind.i64.wrap ((((size:Nat):Int) - 1 - ((k:Nat):Int)) - 1) = ((size:Nat):Int) - 1 - (((k + 1):Nat):Int):=by rw [wrap_i64 (by omega) (by omega)]; omega
  rw [aI] at al
  exact ⟨size - (k + 1),by omega,k + 1,af,ag,rfl,by omega,al.pk,aG,(((ar.trans ax).trans aB).trans aH)⟩
 have aN:=of_decide_eq_false aj
 refine wp_exit (qay (qay (qaQ (qaa (qat [(4,.v (.slice A (((be size x).take k).length) c))] ac ai fun aY aJ=>?_)))))
 refine wp_ret (qaD aJ ac.cells (v:=.slice A (((be size x).take k).length) c) kz ?_)
 exact qbc ac (k:=0) rfl (List.take_of_length_le (by simp; omega))
theorem qeA (x:Nat) (hx:x < 18446744073709551616) (w:World) :
  Calls Tryz.prog 31 #[.int .u64 ((x:Nat):Int)] w (qd0 w 5 (uv x)):=by
 refine enter (n:=20) Tryz.func31 rfl Tryz.ntmps31 kz fun a hE=>?_
 have hW:=WOk.start w Nil
 let ah:Nat × SV:=(0,.v (.int .u64 ((x:Nat):Int)))
 refine qat [ah] hW hE fun a1 hE2=>?_
 refine qat [ah,(3,.v (.slice none 0 0))] hW hE2 fun a3 hE4=>?_
 refine wp_seq (wp_block ?_)
 have hW5:=hW.addNil 5 1
 have hF6:=hW.frNil 5 1
 refine wp_loop_ghost (fun n_ a_ w_=>∃ (A:Option Addr) (c:Nat) (pre:Bs) (m:Nat),n_ = m ∧ (pre ++ uv m = uv x) ∧ (m < 18446744073709551616) ∧ LInv hW5 20 [] [brow A c 5 pre] [(0,.v (.int .u64 ((m:Nat):Int))),(3,.v (.slice A pre.length c))] a_ w_) (x) ⟨none,0,[],x,rfl,rfl,hx,hE4.pk,hW5,Fr.refl _ _ _⟩ ?_
 rintro n7 a8 w9 ⟨A,c,pre,m,aQ,hp,hm,au,ab,av⟩
 refine wp_seq ?_
 let aa:Nat × SV:=(0,.v (.int .u64 ((m:Nat):Int)))
 refine qat [aa,(3,.v (.slice A pre.length c)),(5,.v (.bool (decide (((m:Nat):Int) > 127))))] ab au fun aV ai=>?_
 refine qaA ai (b:=decide (((m:Nat):Int) > 127)) kz (fun aj=>?_) (fun aj=>?_)
 ·
  have aR:=of_decide_eq_true aj
  refine wp_skip (qaa (wp_block (qad [0,1,2,3,4,5,6,7] kz ?_)))
  let ac:Nat × SV:=(6,.v (.slice A pre.length c))
  refine qaj [0,1,2,3,4] [5,6,7] [aa,ac,(10,.v (.int .u8 (IntKind.u8.wrap (BitVec.ofInt 8 (IntKind.u8.wrap (IntKind.u64.wrap (BitVec.ofInt 64 ((m:Nat):Int) &&& BitVec.ofInt 64 127).toNat)) ||| BitVec.ofInt 8 128).toNat)))] ab ai fun aW aw=>?_
  refine qby ab aw (k:=0) (e:=5) (size:=1) (len:=1) (cs:=[.int .u8 (IntKind.u8.wrap (BitVec.ofInt 8 (IntKind.u8.wrap (IntKind.u64.wrap (BitVec.ofInt 64 ((m:Nat):Int) &&& BitVec.ofInt 64 127).toNat)) ||| BitVec.ofInt 8 128).toNat)]) (d1:=11) (d:=12) kz (t:=24) (bytes:=1) kz (fun _=>by kernel_rfl) rfl kz (by have h1_:=qdC x hx; rw [← hp,List.length_append] at h1_; omega) fun af ag aX aY ax ay ⟨_,az⟩=>?_
  have aA:(⟨af,ag,5,1,pre.length + 1,bc pre ++ [.int .u8 (IntKind.u8.wrap (BitVec.ofInt 8 (IntKind.u8.wrap (IntKind.u64.wrap (BitVec.ofInt 64 ((m:Nat):Int) &&& BitVec.ofInt 64 127).toNat)) ||| BitVec.ofInt 8 128).toNat)]⟩:Rw) = brow af ag 5 (pre ++ [by8 (BitVec.ofInt 8 (IntKind.u8.wrap (IntKind.u64.wrap (BitVec.ofInt 64 ((m:Nat):Int) &&& BitVec.ofInt 64 127).toNat)) ||| BitVec.ofInt 8 128).toNat]):=qa6 (by simp only [bc,List.map,qbK]; try rfl) rfl
  obtain ⟨ak,aB⟩:=ay.rowEq 0 [brow af ag 5 (pre ++ [by8 (BitVec.ofInt 8 (IntKind.u8.wrap (IntKind.u64.wrap (BitVec.ofInt 64 ((m:Nat):Int) &&& BitVec.ofInt 64 127).toNat)) ||| BitVec.ofInt 8 128).toNat])] aA
  have aC:=EnvOk.pick az (ks:=[0,6,10,12]) (env':=[aa,ac,(10,.v (.int .u8 (IntKind.u8.wrap (BitVec.ofInt 8 (IntKind.u8.wrap (IntKind.u64.wrap (BitVec.ofInt 64 ((m:Nat):Int) &&& BitVec.ofInt 64 127).toNat)) ||| BitVec.ofInt 8 128).toNat))),(12,.v (.slice af (pre.length + 1) ag))]) kz
  have aD:=aC.cast (env':=[aa,ac,(10,.v (.int .u8 (IntKind.u8.wrap (BitVec.ofInt 8 (IntKind.u8.wrap (IntKind.u64.wrap (BitVec.ofInt 64 ((m:Nat):Int) &&& BitVec.ofInt 64 127).toNat)) ||| BitVec.ofInt 8 128).toNat))),(12,.v (.slice af ((pre ++ [by8 (BitVec.ofInt 8 (IntKind.u8.wrap (IntKind.u64.wrap (BitVec.ofInt 64 ((m:Nat):Int) &&& BitVec.ofInt 64 127).toNat)) ||| BitVec.ofInt 8 128).toNat]).length) ag))]) (by simp only [List.length_append,List.length_cons,List.length_nil,Nat.zero_add])
  refine qaj [7] [] [aa,(3,.v (.slice af ((pre ++ [by8 (BitVec.ofInt 8 (IntKind.u8.wrap (IntKind.u64.wrap (BitVec.ofInt 64 ((m:Nat):Int) &&& BitVec.ofInt 64 127).toNat)) ||| BitVec.ofInt 8 128).toNat]).length) ag))] ak aD fun aZ aE=>?_
  refine qae (qaa ?_)
  refine qaq [0,1,2] kz ?_
  refine qaj [0,1,2] [] [(0,.v (.int .u64 (Int.fdiv ((m:Nat):Int) 128))),(3,.v (.slice af ((pre ++ [by8 (BitVec.ofInt 8 (IntKind.u8.wrap (IntKind.u64.wrap (BitVec.ofInt 64 ((m:Nat):Int) &&& BitVec.ofInt 64 127).toNat)) ||| BitVec.ofInt 8 128).toNat]).length) ag))] ak aE fun ba al=>?_
  refine qae (qaw (qaa ?_))
  have ar:(pre ++ [by8 (BitVec.ofInt 8 (IntKind.u8.wrap (IntKind.u64.wrap (BitVec.ofInt 64 ((m:Nat):Int) &&& BitVec.ofInt 64 127).toNat)) ||| BitVec.ofInt 8 128).toNat]) = (pre ++ [UInt8.ofNat (m % 128 + 128)]):=by rw [qk2 m (by omega)]
  have aF:=congrArg (brow af ag 5) ar
  obtain ⟨aG,aH⟩:=ak.rowEq 0 [brow af ag 5 (pre ++ [UInt8.ofNat (m % 128 + 128)])] aF
  rw [ar] at al
  have aI:Int.fdiv ((m:Nat):Int) 128 = ((m / 128:Nat):Int):=ql1 m
  rw [aI] at al
  exact ⟨m / 128,by omega,af,ag,pre ++ [UInt8.ofNat (m % 128 + 128)],m / 128,rfl,by rw [← hp,qd2 (show 128 ≤ m by omega)]; simp,by omega,al.pk,aG,(((av.trans ax).trans aB).trans aH)⟩
 have aS:=of_decide_eq_false aj
 refine wp_exit (qay (qay (qaQ (qaa (qad [0,1,2,3,4,5] kz ?_)))))
 let ae:Nat × SV:=(15,.v (.slice A pre.length c))
 refine qaj [0,1,2] [3,4,5] [ae,(17,.v (.int .u8 (IntKind.u8.wrap ((m:Nat):Int))))] ab ai fun bd aJ=>?_
 refine qby ab aJ (k:=0) (e:=5) (size:=1) (len:=1) (cs:=[.int .u8 (IntKind.u8.wrap ((m:Nat):Int))]) (d1:=18) (d:=19) kz (t:=24) (bytes:=1) kz (fun _=>by kernel_rfl) rfl kz (by have h1_:=qdC x hx; rw [← hp,List.length_append] at h1_; omega) fun am ao bf bg aT aK ⟨_,aL⟩=>?_
 have aM:(⟨am,ao,5,1,pre.length + 1,bc pre ++ [.int .u8 (IntKind.u8.wrap ((m:Nat):Int))]⟩:Rw) = brow am ao 5 (pre ++ [by8 ((m:Nat):Int)]):=qa6 (by simp only [bc,List.map,qbK]; try rfl) rfl
 obtain ⟨ap,aU⟩:=aK.rowEq 0 [brow am ao 5 (pre ++ [by8 ((m:Nat):Int)])] aM
 have aN:=EnvOk.pick aL (ks:=[15,17,19]) (env':=[ae,(17,.v (.int .u8 (IntKind.u8.wrap ((m:Nat):Int)))),(19,.v (.slice am (pre.length + 1) ao))]) kz
 have aO:=aN.cast (env':=[ae,(17,.v (.int .u8 (IntKind.u8.wrap ((m:Nat):Int)))),(19,.v (.slice am ((pre ++ [by8 ((m:Nat):Int)]).length) ao))]) (by simp only [List.length_append,List.length_cons,List.length_nil,Nat.zero_add])
 refine qaj [5] [] [(2,.v (.slice am ((pre ++ [by8 ((m:Nat):Int)]).length) ao))] ap aO fun bh aP=>?_
 refine qae (qaa ?_)
 refine wp_ret (qaD aP ap.cells (v:=.slice am ((pre ++ [by8 ((m:Nat):Int)]).length) ao) kz ?_)
 exact qbc ap (k:=0) rfl (by rw [← hp,qce (show m < 128 by omega),qgM])
theorem qeB (flex null:Bool) (m sz:Nat) (hm:m ≤ 1099511627776) (hsz:sz ≤ 8) (w:World) :
  Calls Tryz.prog 41 #[.bool flex,.bool null,.int .i64 ((m:Nat):Int),.int .i64 ((sz:Nat):Int)] w (qd0 w 5 (qao flex null m sz)):=by
 refine enter (n:=28) Tryz.func41 rfl Tryz.ntmps41 kz fun a hE=>?_
 have hW:=WOk.start w Nil
 let ac:Nat × SV:=(1,.v (.bool null))
 let aa:Nat × SV:=(2,.v (.int .i64 ((m:Nat):Int)))
 let ab:Nat × SV:=(3,.v (.int .i64 ((sz:Nat):Int)))
 refine qat [(0,.v (.bool flex)),ac,aa,ab] hW hE fun a1 hE2=>?_
 refine wp_seq (wp_block (qad [0,1,2,3,4] kz ?_))
 refine qaj [0,1] [2,3,4] [(0,.v (.bool flex)),ac,aa,ab,(11,.v (.bool flex))] hW hE2 fun a3 hE4=>?_
 refine (Bool.eq_false_or_eq_true (flex)).elim (fun hc5=>?_) (fun hc5=>?_)
 ·
  let ae:Nat × SV:=(0,.v (.bool true))
  have hE7:=hE4.cast (env':=[ae,ac,aa,ab,(11,.v (.bool true))]) (by rw [hc5])
  let af:Nat × SV:=(9,.v (.bool null))
  refine qaj [2,3,4] [] [ae,ac,aa,ab,af] hW hE7 fun a8 hE9=>?_
  refine qae (qaa ?_)
  refine qaA hE9 (b:=null) kz (fun ag=>?_) (fun ag=>?_)
  ·
   refine qad [0,1] kz ?_
   refine qam (qdy hW hE9 (e:=5) (size:=1) (len:=1) (cs:=[.int .u8 0]) (d:=14) kz kz fun ah bn bo ba bd bf av aw=>?_)
   have ax:(⟨some ⟨ah,0,none⟩,1,5,1,1,[.int .u8 0]⟩:Rw) = brow (some ⟨ah,0,none⟩) 1 5 [by8 0]:=by first | rfl | (simp only [brow,bc,List.map,qbK]; try rfl)
   obtain ⟨ai,bg⟩:=av.rowEq 0 [brow (some ⟨ah,0,none⟩) 1 5 [by8 0]] ax
   have ay:=EnvOk.pick aw (ks:=[0,1,2,3,9,14]) (env':=[ae,ac,aa,ab,af,(14,.v (.slice (some ⟨ah,0,none⟩) 1 1))]) kz
   have az:=ay.cast (env':=[ae,ac,aa,ab,af,(14,.v (.slice (some ⟨ah,0,none⟩) ([by8 0].length) 1))]) rfl
   refine qaj [1] [] [(8,.v (.slice (some ⟨ah,0,none⟩) ([by8 0].length) 1))] ai az fun bp aA=>?_
   refine qae (qaa ?_)
   refine wp_ret (qa2 (qaE (qaD aA ai.cells (v:=.slice (some ⟨ah,0,none⟩) ([by8 0].length) 1) kz ?_)))
   exact qbc ai (k:=0) rfl (by simp [qao,hc5,ag]; try rfl)
  refine qat [ac,aa,ab,(15,.v (.bool true))] hW hE9 fun bq ap=>?_
  refine qbw ap (b:=true) kz rfl ?_
  refine qad [0,1,2,3,4] kz ?_
  refine qaj [0,1,2] [3,4] [(19,.v (.int .u64 (IntKind.u64.wrap ((IntKind.u64.wrap ((m:Nat):Int)) + 1))))] hW ap fun bt aB=>?_
  have aC:IntKind.u64.wrap ((IntKind.u64.wrap ((m:Nat):Int)) + 1) = ((m + 1:Nat):Int):=by simp only [qaG,qap,qb0,IntKind.wrap_i64,IntKind.wrap_i32]; omega
  have aD:=EnvOk.pick aB (ks:=[19]) (env':=[(19,.v (.int .u64 (IntKind.u64.wrap ((IntKind.u64.wrap ((m:Nat):Int)) + 1))))]) kz
  have aE:=aD
  rw [aC] at aE
  refine qam (qal aE (f:=31) (vs:=[.int .u64 ((m + 1:Nat):Int)]) (d:=20) kz Tryz.call31 (qeA (m + 1) (by omega) _) ?_)
  rintro e_ bu ⟨aF,aG,rfl,aH,aI⟩
  refine ⟨_,rfl,fun bw aJ=>?_⟩
  obtain ⟨aj,bh⟩:=hW.frFresh aI (brow aF aG 5 (uv (m + 1))) (Nat.le_refl _) aH
  refine qaj [4] [] [(8,.v (.slice aF ((uv (m + 1)).length) aG))] aj aJ fun bx aK=>?_
  refine qae (qaa ?_)
  refine wp_ret (qa2 (qaE (qaD aK aj.cells (v:=.slice aF ((uv (m + 1)).length) aG) kz ?_)))
  exact qbc aj (k:=0) rfl (by simp [qao,hc5,ag]; try rfl)
 have aL:=hE4.cast (env':=[(0,.v (.bool false)),ac,aa,ab,(11,.v (.bool false))]) (by rw [hc5])
 refine qaj [2,3,4] [] [(0,.v (.bool false)),ac,aa,ab,(9,.v (.bool false))] hW aL fun bz ar=>?_
 refine qae (qaa ?_)
 refine qau ar (b:=false) kz rfl ?_
 refine qat [ac,aa,ab,(15,.v (.bool false))] hW ar fun bA au=>?_
 refine qau au (b:=false) kz rfl ?_
 refine qat [aa,ab,(21,.v (.bool null))] hW au fun bB ak=>?_
 refine qaA ak (b:=null) kz (fun al=>?_) (fun al=>?_)
 ·
  refine qad [0,1,2] kz ?_
  refine qaj [0] [1,2] [(23,.v (.int .i64 ((sz:Nat):Int)))] hW ak fun bC aM=>?_
  refine qam (qal aM (f:=22) (vs:=[.int .i64 (-1),.int .i64 ((sz:Nat):Int)]) (d:=24) kz Tryz.call22 (qcX (-1) sz (by first | decide | exact qbi _ | omega) _) ?_)
  rintro e_ bD ⟨aN,aO,rfl,aP,aQ⟩
  refine ⟨_,rfl,fun bE aR=>?_⟩
  obtain ⟨am,bj⟩:=hW.frFresh aQ (brow aN aO 5 (be sz (-1))) (Nat.le_refl _) aP
  refine qaj [2] [] [(8,.v (.slice aN ((be sz (-1)).length) aO))] am aR fun bF aS=>?_
  refine qae (qaa ?_)
  refine wp_ret (qa2 (qaE (qaD aS am.cells (v:=.slice aN ((be sz (-1)).length) aO) kz ?_)))
  exact qbc am (k:=0) rfl (by simp [qao,hc5,al]; try rfl)
 refine wp_skip (qaw (qaa (qad [0,1,2,3] kz ?_)))
 refine qaj [0,1] [2,3] [(25,.v (.int .i64 ((m:Nat):Int))),(26,.v (.int .i64 ((sz:Nat):Int)))] hW ak fun bG aT=>?_
 refine qam (qal aT (f:=22) (vs:=[.int .i64 ((m:Nat):Int),.int .i64 ((sz:Nat):Int)]) (d:=27) kz Tryz.call22 (qcX ((m:Nat):Int) sz (by first | decide | exact qbi _ | omega) _) ?_)
 rintro e_ bH ⟨aU,aV,rfl,aW,aX⟩
 refine ⟨_,rfl,fun bI aY=>?_⟩
 obtain ⟨ao,bk⟩:=hW.frFresh aX (brow aU aV 5 (be sz ((m:Nat):Int))) (Nat.le_refl _) aW
 refine qaj [3] [] [(8,.v (.slice aU ((be sz ((m:Nat):Int)).length) aV))] ao aY fun bJ aZ=>?_
 refine qae (qaa ?_)
 refine wp_ret (qaD aZ ao.cells (v:=.slice aU ((be sz ((m:Nat):Int)).length) aV) kz ?_)
 exact qbc ao (k:=0) rfl (by simp [qao,hc5,al]; try rfl)
theorem qlK (A:Option Addr) (c:Nat) (l:List Fld) (w:World) (F:Nat → Nat → Prop) (hl:FldsR w F A c l) :
  Calls Tryz.prog 29 #[.slice A l.length c] w (qcK w (.int .u32 (qar l))):=by
 obtain ⟨xfs,h1,h2⟩:=hl.ex
 have hsm:=h1.small
 refine enter (n:=23) Tryz.func29 rfl Tryz.ntmps29 kz fun a hE=>?_
 have hW:=WOk.start w Nil
 refine qat [(0,.v (.slice A l.length c))] hW hE fun a1 hE2=>?_
 refine qat [(0,.v (.slice A l.length c)),(3,.v (.int .u32 0))] hW hE2 fun a3 hE4=>?_
 refine wp_seq ?_
 let aa:Nat × SV:=(6,.v (.slice A l.length c))
 let ab:Nat × SV:=(7,.v (.int .i64 ((l.length:Nat):Int)))
 refine qat [(3,.v (.int .u32 0)),aa,ab,(8,.v (.int .i64 0))] hW hE4 fun a5 hE6=>?_
 refine wp_block (wp_loop_ghost (fun n_ a_ w_=>∃ (k:Nat),n_ = l.length - k ∧ k ≤ l.length ∧ LInv hW 23 [] [] [(3,.v (.int .u32 (qar (l.take k)))),aa,ab,(8,.v (.int .i64 ((k:Nat):Int)))] a_ w_) (l.length) ⟨0,by omega,by omega,hE6.pk,hW,Fr.refl _ _ _⟩ ?_)
 rintro n7 a8 w9 ⟨k,bf,bg,aA,ae,aw⟩
 let ah:Nat × SV:=(8,.v (.int .i64 ((k:Nat):Int)))
 refine qat [(3,.v (.int .u32 (qar (l.take k)))),aa,ab,ah,(9,.v (.bool (decide (((k:Nat):Int) < ((l.length:Nat):Int)))))] ae aA fun bB al=>?_
 refine wp_seq (qaA al (b:=decide (((k:Nat):Int) < ((l.length:Nat):Int))) kz (fun am=>?_) (fun am=>?_))
 ·
  have bh:=of_decide_eq_true am
  refine wp_skip (qaa (wp_seq (wp_block (qad [0,1,2,3] kz ?_))))
  obtain ⟨bj,bk,aB,bn,aj⟩:=Slots.get h1 (i:=k) (by omega)
  obtain ⟨bo,ao⟩:∃ x,l[k]? = some x:=⟨_,List.getElem?_eq_getElem (by omega)⟩
  have ax:=h2 k bo ao
  obtain ⟨aC,aD,aE,aF,af,aG,aH,bp,bq,bt,bu,rfl,ak,bw,bC⟩:=ax.open_
  rw [ak] at ax
  have bd:=bw.small
  rw [ak] at aj
  refine qam (qaz al (t:=32) (A:=A) (m:=l.length) (q:=((k:Nat):Int)) (d:=10) kz (e:=50) (size:=8) (bytes:=80) kz aB rfl (by omega) fun bD aI=>?_)
  let ai:Value:=.slice bq bp.length bt
  refine qam (qaH aI (t:=50) (b:=bj) (o:=bk + k * 8) (d:=11) kz (cs:=[.int .i64 aC,.int .i64 aD,.int .i64 aE,.int .i64 aF,.int .i64 af,.int .i64 aG,.int .i64 aH,ai]) (v:=.agg #[.int .i64 aC,.int .i64 aD,.int .i64 aE,.int .i64 aF,.int .i64 af,.int .i64 aG,.int .i64 aH,ai]) kz (AtF.move aj ae.step nilM qa7).at_ fun bE aJ=>?_)
  let ac:Value:=.int .i64 0
  refine qam (qbo ae aJ (d:=5) (cs:=[ac,ac,ac,ac,ac,ac,ac,.slice none 0 0]) kz fun bF bG bH bx bz ay aK aL=>?_)
  refine qam (qaK aK aL (oi:=0) (cs:=[.int .i64 aC,.int .i64 aD,.int .i64 aE,.int .i64 aF,.int .i64 af,.int .i64 aG,.int .i64 aH,ai]) kz fun bI az ag aM=>?_)
  refine qae (qaa ?_)
  refine qat [(3,.v (.int .u32 (qar (l.take k)))),(5,.p 0 0),aa,ab,ah,(14,.v (.bool (decide (af ≥ 0))))] ag aM fun bJ ap=>?_
  refine qaA ap (b:=decide (af ≥ 0)) kz (fun ar=>?_) (fun ar=>?_)
  ·
   have aN:=of_decide_eq_true ar
   refine qaq [0,1,2,3,4,5,6] kz ?_
   refine qaj [0,1,2,3,4,5,6] [] [(3,.v (.int .u32 (if IntKind.u32.wrap ((IntKind.u32.wrap af) + 1) > qar (l.take k) then IntKind.u32.wrap ((IntKind.u32.wrap af) + 1) else qar (l.take k)))),aa,ab,ah] ag ap fun bK aO=>?_
   refine qae (qaw (qaa (qaq [0,1] kz ?_)))
   refine qaj [0,1] [] [(3,.v (.int .u32 (if IntKind.u32.wrap ((IntKind.u32.wrap af) + 1) > qar (l.take k) then IntKind.u32.wrap ((IntKind.u32.wrap af) + 1) else qar (l.take k)))),aa,ab,(8,.v (.int .i64 (IntKind.i64.wrap (((k:Nat):Int) + 1))))] ag aO fun bL aP=>?_
   refine qae (qaa ?_)
   obtain ⟨au,aQ,aR⟩:=ag.cutB aP 0 [] [(3,.v (.int .u32 (if IntKind.u32.wrap ((IntKind.u32.wrap af) + 1) > qar (l.take k) then IntKind.u32.wrap ((IntKind.u32.wrap af) + 1) else qar (l.take k)))),aa,ab,(8,.v (.int .i64 (IntKind.i64.wrap (((k:Nat):Int) + 1))))]
   have aS:IntKind.i64.wrap (((k:Nat):Int) + 1) = ((k + 1:Nat):Int):=qbq (by omega)
   rw [aS] at au
   have aT:(if IntKind.u32.wrap ((IntKind.u32.wrap af) + 1) > qar (l.take k) then IntKind.u32.wrap ((IntKind.u32.wrap af) + 1) else qar (l.take k)) = qar (l.take (k + 1)):=qjJ ao aN
   rw [aT] at au
   exact ⟨l.length - (k + 1),by omega,k + 1,rfl,by omega,au.pk,aQ,(((aw.trans ay).trans az).trans aR)⟩
  have aU:=of_decide_eq_false ar
  refine wp_skip (qaw (qaa (qaq [0,1] kz ?_)))
  refine qaj [0,1] [] [(3,.v (.int .u32 (qar (l.take k)))),aa,ab,(8,.v (.int .i64 (IntKind.i64.wrap (((k:Nat):Int) + 1))))] ag ap fun bM aV=>?_
  refine qae (qaa ?_)
  obtain ⟨av,aW,aX⟩:=ag.cutB aV 0 [] [(3,.v (.int .u32 (qar (l.take k)))),aa,ab,(8,.v (.int .i64 (IntKind.i64.wrap (((k:Nat):Int) + 1))))]
  have aY:IntKind.i64.wrap (((k:Nat):Int) + 1) = ((k + 1:Nat):Int):=qbq (by omega)
  rw [aY] at av
  have aZ:qar (l.take k) = qar (l.take (k + 1)):=qjK ao aU
  rw [aZ] at av
  exact ⟨l.length - (k + 1),by omega,k + 1,rfl,by omega,av.pk,aW,(((aw.trans ay).trans az).trans aX)⟩
 have bA:=of_decide_eq_false am
 refine wp_exit (qay (qay (qaQ (qaa (qat [(2,.v (.int .u32 (qar (l.take k))))] ae al fun bN ba=>?_)))))
 refine wp_ret (qaD ba ae.cells (v:=.int .u32 (qar (l.take k))) kz ?_)
 exact ⟨by rw [List.take_of_length_le (by omega)],ae.step⟩
def qkE (d:Nat):Prop:=∀ (A:Option Addr) (c:Nat) (l:List Fld) (v:Int) (flex:Bool) (ct:List Value) (t:Tree) (w:World) (F:Nat → Nat → Prop),FldsR w F A c l → depths l ≤ d → TreeR w F ct t → (qa1 d l v flex t).length ≤ 1099511627776 →
  Calls Tryz.prog 18 #[.slice A l.length c,.int .i64 v,.bool flex,.agg ct.toArray] w (qd0 w 5 (qa1 d l v flex t))
theorem qkF {d:Nat} (hp:qkE d) (kind:Int) (A:Option Addr) (c:Nat) (l:List Fld) (null:Bool) (v:Int) (flex:Bool) (ct:List Value) (t:Tree) (w:World) (F:Nat → Nat → Prop) (hl:FldsR w F A c l) (hd:depths l ≤ d) (ht:TreeR w F ct t) (hroom:(qaN (qa1 d l v flex) kind null flex t).length ≤ 1099511627776) :
  Calls Tryz.prog 42 #[.int .i64 kind,.slice A l.length c,.bool null,.int .i64 v,.bool flex,.agg ct.toArray] w (qd0 w 5 (qaN (qa1 d l v flex) kind null flex t)):=by
 obtain ⟨n1,s2,b3,l4,u5,A6,c7,A8,c9,ey,ez,eB,rfl,rfl,bt,eC,fS,fT⟩:=ht.open_
 have d7:=bt.small
 have d8:=eC.small
 have hl0:=hl
 obtain ⟨xfs,h1,h2⟩:=hl.ex
 have hsm:=h1.small
 refine enter (n:=70) Tryz.func42 rfl Tryz.ntmps42 kz fun a hE=>?_
 have hW:=WOk.start w Nil
 refine qad [0,1] kz ?_
 let au:Value:=.slice A6 s2.length c7
 let aJ:Value:=.slice A8 l4.length c9
 let aK:Value:=.slice ey u5.length ez
 refine qam (qbt hW hE (d:=11) (cs:=[.int .i64 n1,au,.bool b3,aJ,aK]) kz fun fV fW fX eD eE eF aa dE=>?_)
 let ah:Nat × SV:=(0,.v (.int .i64 kind))
 let ai:Nat × SV:=(1,.v (.slice A l.length c))
 let ac:Nat × SV:=(2,.v (.bool null))
 let aj:Nat × SV:=(3,.v (.int .i64 v))
 let ab:Nat × SV:=(4,.v (.bool flex))
 let ae:Nat × SV:=(11,.p 0 0)
 refine qaj [1] [] [ah,ai,ac,aj,ab,ae] aa dE fun fY dF=>?_
 refine qae (qaa ?_)
 refine wp_seq ?_
 let av:Nat × SV:=(16,.v (.int .i64 kind))
 refine qat [ah,ai,ac,aj,ab,ae,av] aa dF fun fZ dG=>?_
 refine wp_block (qat [ah,ai,ac,aj,ab,ae,av,(17,.v (.bool (kind == 0)))] aa dG fun f5 bG=>?_)
 refine qaA bG (b:=kind == 0) kz (fun ag=>?_) (fun ag=>?_)
 ·
  have dH:kind = 0:=by simpa using ag
  refine qad [0,1,2,3,4,5] kz ?_
  refine qaj [0,1,2,3] [4,5] [(22,.v (.int .u8 (IntKind.u8.wrap (IntKind.i64.wrap (BitVec.ofInt 64 n1 &&& BitVec.ofInt 64 1).toNat))))] aa bG fun f7 dI=>?_
  refine qam (qdy aa dI (e:=5) (size:=1) (len:=1) (cs:=[.int .u8 (IntKind.u8.wrap (IntKind.i64.wrap (BitVec.ofInt 64 n1 &&& BitVec.ofInt 64 1).toNat))]) (d:=23) kz kz fun bH f8 f9 eG eH eI dJ dK=>?_)
  have dL:(⟨some ⟨bH,0,none⟩,1,5,1,1,[.int .u8 (IntKind.u8.wrap (IntKind.i64.wrap (BitVec.ofInt 64 n1 &&& BitVec.ofInt 64 1).toNat))]⟩:Rw) = brow (some ⟨bH,0,none⟩) 1 5 [by8 (IntKind.i64.wrap (BitVec.ofInt 64 n1 &&& BitVec.ofInt 64 1).toNat)]:=by first | rfl | (simp only [brow,bc,List.map,qbK]; try rfl)
  obtain ⟨bI,eJ⟩:=dJ.rowEq 0 [brow (some ⟨bH,0,none⟩) 1 5 [by8 (IntKind.i64.wrap (BitVec.ofInt 64 n1 &&& BitVec.ofInt 64 1).toNat)]] dL
  have dM:=EnvOk.pick dK (ks:=[22,23]) (env':=[(22,.v (.int .u8 (IntKind.u8.wrap (IntKind.i64.wrap (BitVec.ofInt 64 n1 &&& BitVec.ofInt 64 1).toNat)))),(23,.v (.slice (some ⟨bH,0,none⟩) 1 1))]) kz
  have dN:=dM.cast (env':=[(22,.v (.int .u8 (IntKind.u8.wrap (IntKind.i64.wrap (BitVec.ofInt 64 n1 &&& BitVec.ofInt 64 1).toNat)))),(23,.v (.slice (some ⟨bH,0,none⟩) ([by8 (IntKind.i64.wrap (BitVec.ofInt 64 n1 &&& BitVec.ofInt 64 1).toNat)].length) 1))]) rfl
  refine qaj [5] [] [(12,.v (.slice (some ⟨bH,0,none⟩) ([by8 (IntKind.i64.wrap (BitVec.ofInt 64 n1 &&& BitVec.ofInt 64 1).toNat)].length) 1))] bI dN fun ga dO=>?_
  refine qae (qaa ?_)
  refine wp_ret (qa2 (qaE (qaD dO bI.cells (v:=.slice (some ⟨bH,0,none⟩) ([by8 (IntKind.i64.wrap (BitVec.ofInt 64 n1 &&& BitVec.ofInt 64 1).toNat)].length) 1) kz ?_)))
  exact qbc bI (k:=0) rfl (by (try simp only [and1]); simp [qaN,Tree.S,Tree.N,dH,ag])
 have aw:kind ≠ 0:=by simpa using ag
 refine qat [ah,ai,ac,aj,ab,ae,av,(24,.v (.bool (kind == 7)))] aa bG fun gb bJ=>?_
 refine qaA bJ (b:=kind == 7) kz (fun ak=>?_) (fun ak=>?_)
 ·
  have dP:kind = 7:=by simpa using ak
  refine qad [0,1] kz ?_
  refine qam (qja aa bJ (d:=26) (j:=16) (t:=24) (e:=5) (bytes:=1) (z:=.int .u8 0) kz kz kz kz (rfl) (rfl) (by omega) fun bq gc gd eK eM eN aL dQ=>?_)
  let aM:Nat × SV:=(13,.v (.slice (some ⟨bq,0,none⟩) 16 16))
  refine qaj [1] [] [ae,aM] aL dQ fun ge dR=>?_
  refine qae (qaa ?_)
  refine qad [0,1,2,3] kz ?_
  let bu:Nat × SV:=(27,.v (.slice (some ⟨bq,0,none⟩) 16 16))
  let aN:Nat × SV:=(29,.v (.slice A6 s2.length c7))
  refine qaj [0,1,2] [3] [aM,bu,aN] aL dR fun gg dS=>?_
  refine qam (qi9 aL dS (k:=0) (d:=30) (t:=24) (u:=24) (e:=5) (bytes:=1) (A:=(some ⟨bq,0,none⟩)) (As:=A6) (m:=s2.length) (cs:=c7) (m0:=16) (c:=16) (xs:=(List.replicate 16 (.int .u8 0))) (news:=bc s2) kz kz rfl (bt.move aL.step nilM aL.imm).src fun gh gi eO dT dU=>?_)
  have dV:(⟨(some ⟨bq,0,none⟩),16,5,1,16,qbx (List.replicate 16 (.int .u8 0)) 0 ((bc s2).take (min s2.length 16))⟩:Rw) = brow (some ⟨bq,0,none⟩) 16 5 (qeK s2):=qk4 _ _ _
  obtain ⟨bK,eP⟩:=dT.rowEq 0 [brow (some ⟨bq,0,none⟩) 16 5 (qeK s2)] dV
  have dW:=EnvOk.pick dU (ks:=[13,27,29,30]) (env':=[aM,bu,aN,(30,.v (.int .i64 ((min s2.length 16:Nat):Int)))]) kz
  have dX:=dW.cast (env':=[(13,.v (.slice (some ⟨bq,0,none⟩) ((qeK s2).length) 16)),(27,.v (.slice (some ⟨bq,0,none⟩) ((qeK s2).length) 16)),aN,(30,.v (.int .i64 ((min s2.length 16:Nat):Int)))]) (by rw [qbC _])
  refine qae (qaa ?_)
  refine qat [(12,.v (.slice (some ⟨bq,0,none⟩) ((qeK s2).length) 16))] bK dX fun gj dY=>?_
  refine wp_ret (qa2 (qaE (qaD dY bK.cells (v:=.slice (some ⟨bq,0,none⟩) ((qeK s2).length) 16) kz ?_)))
  exact qbc bK (k:=0) rfl (by (try simp only [and1]); simp [qaN,Tree.S,Tree.N,aw,dP,ag,ak])
 have ay:kind ≠ 7:=by simpa using ak
 refine qat [ah,ai,ac,aj,ab,ae,av,(32,.v (.bool (kind == 8)))] aa bJ fun gk bL=>?_
 refine qaA bL (b:=kind == 8) kz (fun am=>?_) (fun am=>?_)
 ·
  have bQ:kind = 8:=by simpa using am
  refine qad [0,1,2,3] kz ?_
  refine qaj [0,1] [2,3] [ac,ab,(35,.v (.slice A6 s2.length c7))] aa bL fun gl dZ=>?_
  have d9:=qbD s2
  refine qam (qal dZ (f:=33) (vs:=[au]) (d:=36) kz Tryz.call33 (qkD _ _ s2 (bt.move aa.step nilM aa.imm).le _) ?_)
  rintro e_ gm ⟨rfl,bR⟩
  refine ⟨_,rfl,fun gn d5=>?_⟩
  have az:=aa.next_nil bR
  have eQ:=aa.frN bR
  refine qaj [3] [] [ac,ab,(14,.v (.slice A6 ((qaC s2).length) c7))] az d5 fun gp bS=>?_
  refine qae (qaa ?_)
  refine wp_seq (qat [ac,ab,(14,.v (.slice A6 ((qaC s2).length) c7)),(37,.v (.bool null))] az bS fun eR aO=>?_)
  refine qaA aO (b:=null) kz (fun aP=>?_) (fun aP=>?_)
  ·
   refine qaq [0] kz ?_
   refine qaj [0] [] [ac,ab,(14,.v (.slice none 0 0))] az aO fun eS bT=>?_
   refine qae (qaa ?_)
   refine qad [0,1,2,3,4,5,6,7] kz ?_
   refine qaj [0,1,2,3] [4,5,6,7] [(14,.v (.slice none 0 0)),(38,.v (.bool flex)),(39,.v (.bool null)),(41,.v (.int .i64 0))] az bT fun eT bU=>?_
   refine qam (qal bU (f:=41) (vs:=[.bool flex,.bool null,.int .i64 0,.int .i64 2]) (d:=42) kz Tryz.call41 (qeB flex null 0 2 (by first | omega | exact Nat.le_trans (qbD _) (by decide) | exact Nat.le_trans (qc8 _) (by decide) | (simp; done) | (have:=hroom; omega)) (by first | decide | omega) _) ?_)
   rintro e_ eU ⟨aQ,aR,rfl,bV,bW⟩
   refine ⟨_,rfl,fun eV bX=>?_⟩
   obtain ⟨bw,ea⟩:=az.frFresh bW (brow aQ aR 5 (qao flex null 0 2)) (Nat.le_refl _) bV
   let aS:Nat × SV:=(43,.v (.slice none 0 0))
   refine qaj [5] [6,7] [(42,.v (.slice aQ ((qao flex null 0 2).length) aR)),aS] bw bX fun eW bY=>?_
   refine qam (qaI bw bY (k:=0) (d:=44) (t:=24) (e:=5) (size:=1) (bytes:=1) (A:=aQ) (As:=none) (m0:=((qao flex null 0 2).length)) (c:=aR) (m:=0) (cs:=0) (xs:=(bc (qao flex null 0 2))) (news:=bc ([]:Bs)) kz kz rfl (Octs.nil _ (fun _ _=>True)).src (fun _=>rfl) (by first | exact qd3 (by omega) (by decide) (by omega) | exact qd3 (Nat.le_trans (qbD _) (by decide)) (by decide) (Nat.le_trans (qbD _) (by decide)) | (simp; done)) fun aA aB eX eY eb bZ b8=>?_)
   have cd:(⟨aA,aB,5,1,(qao flex null 0 2).length + 0,bc (qao flex null 0 2) ++ bc ([]:Bs)⟩:Rw) = brow aA aB 5 (qao flex null 0 2 ++ ([]:Bs)):=qa6 (rfl) rfl
   obtain ⟨aT,ec⟩:=bZ.rowEq 0 [brow aA aB 5 (qao flex null 0 2 ++ ([]:Bs))] cd
   have ce:=EnvOk.pick b8 (ks:=[42,43,44]) (env':=[(42,.v (.slice aQ ((qao flex null 0 2).length) aR)),aS,(44,.v (.slice aA ((qao flex null 0 2).length + 0) aB))]) kz
   have cg:=ce.cast (env':=[(42,.v (.slice aQ ((qao flex null 0 2).length) aR)),aS,(44,.v (.slice aA ((qao flex null 0 2 ++ ([]:Bs)).length) aB))]) (by simp only [List.length_append,List.length_cons,List.length_nil,Nat.zero_add])
   refine qaj [7] [] [(12,.v (.slice aA ((qao flex null 0 2 ++ ([]:Bs)).length) aB))] aT cg fun eZ cm=>?_
   refine qae (qaa ?_)
   refine wp_ret (qa2 (qaE (qaD cm aT.cells (v:=.slice aA ((qao flex null 0 2 ++ ([]:Bs)).length) aB) kz ?_)))
   exact qbc aT (k:=0) rfl (by (try simp only [and1]); simp [qaN,Tree.S,Tree.N,aw,ay,bQ,ag,ak,am,aP])
  refine wp_skip (qaa (qad [0,1,2,3,4,5,6,7] kz ?_))
  refine qaj [0,1,2,3] [4,5,6,7] [(14,.v (.slice A6 ((qaC s2).length) c7)),(38,.v (.bool flex)),(39,.v (.bool null)),(41,.v (.int .i64 (((qaC s2).length:Nat):Int)))] az aO fun e9 cq=>?_
  refine qam (qal cq (f:=41) (vs:=[.bool flex,.bool null,.int .i64 (((qaC s2).length:Nat):Int),.int .i64 2]) (d:=42) kz Tryz.call41 (qeB flex null ((qaC s2).length) 2 (by first | omega | exact Nat.le_trans (qbD _) (by decide) | exact Nat.le_trans (qc8 _) (by decide) | (simp; done) | (have:=hroom; omega)) (by first | decide | omega) _) ?_)
  rintro e_ fa ⟨aU,aV,rfl,cr,cu⟩
  refine ⟨_,rfl,fun fb cv=>?_⟩
  obtain ⟨ao,ee⟩:=az.frFresh cu (brow aU aV 5 (qao flex null ((qaC s2).length) 2)) (Nat.le_refl _) cr
  refine qaj [5] [6,7] [(42,.v (.slice aU ((qao flex null ((qaC s2).length) 2).length) aV)),(43,.v (.slice A6 ((qaC s2).length) c7))] ao cv fun fe cw=>?_
  refine qam (qaI ao cw (k:=0) (d:=44) (t:=24) (e:=5) (size:=1) (bytes:=1) (A:=aU) (As:=A6) (m0:=((qao flex null ((qaC s2).length) 2).length)) (c:=aV) (m:=((qaC s2).length)) (cs:=c7) (xs:=(bc (qao flex null ((qaC s2).length) 2))) (news:=bc (qaC s2)) kz kz rfl ((bt.take 32767).move ao.step nilM ao.imm).src ((bt.take 32767).move ao.step nilM ao.imm).cap (by first | exact qd3 (by omega) (by decide) (by omega) | exact qd3 (Nat.le_trans (qbD _) (by decide)) (by decide) (Nat.le_trans (qbD _) (by decide)) | (simp; done)) fun aC aD ff fg ef cz cA=>?_)
  have cB:(⟨aC,aD,5,1,(qao flex null ((qaC s2).length) 2).length + (qaC s2).length,bc (qao flex null ((qaC s2).length) 2) ++ bc (qaC s2)⟩:Rw) = brow aC aD 5 (qao flex null ((qaC s2).length) 2 ++ (qaC s2)):=qa6 (rfl) rfl
  obtain ⟨aW,eg⟩:=cz.rowEq 0 [brow aC aD 5 (qao flex null ((qaC s2).length) 2 ++ (qaC s2))] cB
  have cC:=EnvOk.pick cA (ks:=[42,43,44]) (env':=[(42,.v (.slice aU ((qao flex null ((qaC s2).length) 2).length) aV)),(43,.v (.slice A6 ((qaC s2).length) c7)),(44,.v (.slice aC ((qao flex null ((qaC s2).length) 2).length + (qaC s2).length) aD))]) kz
  have cE:=cC.cast (env':=[(42,.v (.slice aU ((qao flex null ((qaC s2).length) 2).length) aV)),(43,.v (.slice A6 ((qaC s2).length) c7)),(44,.v (.slice aC ((qao flex null ((qaC s2).length) 2 ++ (qaC s2)).length) aD))]) (by simp only [List.length_append,List.length_cons,List.length_nil,Nat.zero_add])
  refine qaj [7] [] [(12,.v (.slice aC ((qao flex null ((qaC s2).length) 2 ++ (qaC s2)).length) aD))] aW cE fun fh cG=>?_
  refine qae (qaa ?_)
  refine wp_ret (qa2 (qaE (qaD cG aW.cells (v:=.slice aC ((qao flex null ((qaC s2).length) 2 ++ (qaC s2)).length) aD) kz ?_)))
  exact qbc aW (k:=0) rfl (by (try simp only [and1]); simp [qaN,Tree.S,Tree.N,aw,ay,bQ,ag,ak,am,aP])
 have ax:kind ≠ 8:=by simpa using am
 refine qat [ah,ai,ac,aj,ab,ae,av,(45,.v (.bool (kind == 9)))] aa bL fun fi aX=>?_
 refine qaA aX (b:=kind == 9) kz (fun af=>?_) (fun af=>?_)
 ·
  have bx:kind = 9:=by simpa using af
  refine qad [0,1,2,3] kz ?_
  refine qaj [0,1] [2,3] [ac,ab,(48,.v (.slice A6 s2.length c7))] aa aX fun fj cH=>?_
  have d6:=qbD s2
  refine qam (qal cH (f:=33) (vs:=[au]) (d:=49) kz Tryz.call33 (qkD _ _ s2 (bt.move aa.step nilM aa.imm).le _) ?_)
  rintro e_ fk ⟨rfl,bz⟩
  refine ⟨_,rfl,fun fl cI=>?_⟩
  have al:=aa.next_nil bz
  have eh:=aa.frN bz
  refine qaj [3] [] [ac,ab,(15,.v (.slice A6 ((qaC s2).length) c7))] al cI fun fm cJ=>?_
  refine qae (qaa ?_)
  refine wp_seq (qat [ac,ab,(15,.v (.slice A6 ((qaC s2).length) c7)),(50,.v (.bool null))] al cJ fun fo aY=>?_)
  refine qaA aY (b:=null) kz (fun aZ=>?_) (fun aZ=>?_)
  ·
   refine qaq [0] kz ?_
   refine qaj [0] [] [ac,ab,(15,.v (.slice none 0 0))] al aY fun fq cK=>?_
   refine qae (qaa ?_)
   refine qad [0,1,2,3,4,5,6,7] kz ?_
   refine qaj [0,1,2,3] [4,5,6,7] [(15,.v (.slice none 0 0)),(51,.v (.bool flex)),(52,.v (.bool null)),(54,.v (.int .i64 0))] al cK fun fr cL=>?_
   refine qam (qal cL (f:=41) (vs:=[.bool flex,.bool null,.int .i64 0,.int .i64 4]) (d:=55) kz Tryz.call41 (qeB flex null 0 4 (by first | omega | exact Nat.le_trans (qbD _) (by decide) | exact Nat.le_trans (qc8 _) (by decide) | (simp; done) | (have:=hroom; omega)) (by first | decide | omega) _) ?_)
   rintro e_ ft ⟨ba,bd,rfl,cM,cN⟩
   refine ⟨_,rfl,fun fu cO=>?_⟩
   obtain ⟨bA,ei⟩:=al.frFresh cN (brow ba bd 5 (qao flex null 0 4)) (Nat.le_refl _) cM
   let bf:Nat × SV:=(56,.v (.slice none 0 0))
   refine qaj [5] [6,7] [(55,.v (.slice ba ((qao flex null 0 4).length) bd)),bf] bA cO fun fv cP=>?_
   refine qam (qaI bA cP (k:=0) (d:=57) (t:=24) (e:=5) (size:=1) (bytes:=1) (A:=ba) (As:=none) (m0:=((qao flex null 0 4).length)) (c:=bd) (m:=0) (cs:=0) (xs:=(bc (qao flex null 0 4))) (news:=bc ([]:Bs)) kz kz rfl (Octs.nil _ (fun _ _=>True)).src (fun _=>rfl) (by first | exact qd3 (by omega) (by decide) (by omega) | exact qd3 (Nat.le_trans (qbD _) (by decide)) (by decide) (Nat.le_trans (qbD _) (by decide)) | (simp; done)) fun aE aF fw fx ej cQ cR=>?_)
   have cS:(⟨aE,aF,5,1,(qao flex null 0 4).length + 0,bc (qao flex null 0 4) ++ bc ([]:Bs)⟩:Rw) = brow aE aF 5 (qao flex null 0 4 ++ ([]:Bs)):=qa6 (rfl) rfl
   obtain ⟨bg,ek⟩:=cQ.rowEq 0 [brow aE aF 5 (qao flex null 0 4 ++ ([]:Bs))] cS
   have cU:=EnvOk.pick cR (ks:=[55,56,57]) (env':=[(55,.v (.slice ba ((qao flex null 0 4).length) bd)),bf,(57,.v (.slice aE ((qao flex null 0 4).length + 0) aF))]) kz
   have cV:=cU.cast (env':=[(55,.v (.slice ba ((qao flex null 0 4).length) bd)),bf,(57,.v (.slice aE ((qao flex null 0 4 ++ ([]:Bs)).length) aF))]) (by simp only [List.length_append,List.length_cons,List.length_nil,Nat.zero_add])
   refine qaj [7] [] [(12,.v (.slice aE ((qao flex null 0 4 ++ ([]:Bs)).length) aF))] bg cV fun fy cW=>?_
   refine qae (qaa ?_)
   refine wp_ret (qa2 (qaE (qaD cW bg.cells (v:=.slice aE ((qao flex null 0 4 ++ ([]:Bs)).length) aF) kz ?_)))
   exact qbc bg (k:=0) rfl (by (try simp only [and1]); simp [qaN,Tree.S,Tree.N,aw,ay,ax,bx,ag,ak,am,af,aZ])
  refine wp_skip (qaa (qad [0,1,2,3,4,5,6,7] kz ?_))
  refine qaj [0,1,2,3] [4,5,6,7] [(15,.v (.slice A6 ((qaC s2).length) c7)),(51,.v (.bool flex)),(52,.v (.bool null)),(54,.v (.int .i64 (((qaC s2).length:Nat):Int)))] al aY fun fz cX=>?_
  refine qam (qal cX (f:=41) (vs:=[.bool flex,.bool null,.int .i64 (((qaC s2).length:Nat):Int),.int .i64 4]) (d:=55) kz Tryz.call41 (qeB flex null ((qaC s2).length) 4 (by first | omega | exact Nat.le_trans (qbD _) (by decide) | exact Nat.le_trans (qc8 _) (by decide) | (simp; done) | (have:=hroom; omega)) (by first | decide | omega) _) ?_)
  rintro e_ fA ⟨bh,bj,rfl,cY,cZ⟩
  refine ⟨_,rfl,fun fB c5=>?_⟩
  obtain ⟨ap,em⟩:=al.frFresh cZ (brow bh bj 5 (qao flex null ((qaC s2).length) 4)) (Nat.le_refl _) cY
  refine qaj [5] [6,7] [(55,.v (.slice bh ((qao flex null ((qaC s2).length) 4).length) bj)),(56,.v (.slice A6 ((qaC s2).length) c7))] ap c5 fun fC da=>?_
  refine qam (qaI ap da (k:=0) (d:=57) (t:=24) (e:=5) (size:=1) (bytes:=1) (A:=bh) (As:=A6) (m0:=((qao flex null ((qaC s2).length) 4).length)) (c:=bj) (m:=((qaC s2).length)) (cs:=c7) (xs:=(bc (qao flex null ((qaC s2).length) 4))) (news:=bc (qaC s2)) kz kz rfl ((bt.take 32767).move ap.step nilM ap.imm).src ((bt.take 32767).move ap.step nilM ap.imm).cap (by first | exact qd3 (by omega) (by decide) (by omega) | exact qd3 (Nat.le_trans (qbD _) (by decide)) (by decide) (Nat.le_trans (qbD _) (by decide)) | (simp; done)) fun aG aH fD fE eo db dc=>?_)
  have de:(⟨aG,aH,5,1,(qao flex null ((qaC s2).length) 4).length + (qaC s2).length,bc (qao flex null ((qaC s2).length) 4) ++ bc (qaC s2)⟩:Rw) = brow aG aH 5 (qao flex null ((qaC s2).length) 4 ++ (qaC s2)):=qa6 (rfl) rfl
  obtain ⟨bk,eu⟩:=db.rowEq 0 [brow aG aH 5 (qao flex null ((qaC s2).length) 4 ++ (qaC s2))] de
  have df:=EnvOk.pick dc (ks:=[55,56,57]) (env':=[(55,.v (.slice bh ((qao flex null ((qaC s2).length) 4).length) bj)),(56,.v (.slice A6 ((qaC s2).length) c7)),(57,.v (.slice aG ((qao flex null ((qaC s2).length) 4).length + (qaC s2).length) aH))]) kz
  have dg:=df.cast (env':=[(55,.v (.slice bh ((qao flex null ((qaC s2).length) 4).length) bj)),(56,.v (.slice A6 ((qaC s2).length) c7)),(57,.v (.slice aG ((qao flex null ((qaC s2).length) 4 ++ (qaC s2)).length) aH))]) (by simp only [List.length_append,List.length_cons,List.length_nil,Nat.zero_add])
  refine qaj [7] [] [(12,.v (.slice aG ((qao flex null ((qaC s2).length) 4 ++ (qaC s2)).length) aH))] bk dg fun fF dh=>?_
  refine qae (qaa ?_)
  refine wp_ret (qa2 (qaE (qaD dh bk.cells (v:=.slice aG ((qao flex null ((qaC s2).length) 4 ++ (qaC s2)).length) aH) kz ?_)))
  exact qbc bk (k:=0) rfl (by (try simp only [and1]); simp [qaN,Tree.S,Tree.N,aw,ay,ax,bx,ag,ak,am,af,aZ])
 have bn:kind ≠ 9:=by simpa using af
 refine qat [ah,ai,aj,ab,ae,(58,.v (.bool (kind == 10)))] aa aX fun fG bo=>?_
 refine qaA bo (b:=kind == 10) kz (fun ar=>?_) (fun ar=>?_)
 ·
  have bB:kind = 10:=by simpa using ar
  refine qad [0,1,2,3,4,5] kz ?_
  refine qaj [0,1,2,3] [4,5] [(60,.v (.slice A l.length c)),(61,.v (.int .i64 v)),(62,.v (.bool flex)),(63,.v (.agg #[.int .i64 n1,au,.bool b3,aJ,aK]))] aa bo fun fH di=>?_
  refine qam (qal di (f:=18) (vs:=[.slice A l.length c,.int .i64 v,.bool flex,.agg #[.int .i64 n1,au,.bool b3,aJ,aK]]) (d:=64) kz Tryz.call18 (hp _ _ l v flex _ (Tree.mk n1 s2 b3 l4 u5) _ _ ⟨xfs,(h1.move aa.step nilM aa.imm),(fun i_ x_ h_=>((h2 i_ x_ h_).move aa.step nilM aa.imm))⟩ hd (ht.move aa.step nilM aa.imm) (by simpa [qaN,aw,ay,ax,bn,bB,ag,ak,am,af,ar] using hroom)) ?_)
  rintro e_ fI ⟨bM,bN,rfl,dj,dl⟩
  refine ⟨_,rfl,fun fJ dp=>?_⟩
  obtain ⟨bp,ev⟩:=aa.frFresh dl (brow bM bN 5 (qa1 d l v flex (Tree.mk n1 s2 b3 l4 u5))) (Nat.le_refl _) dj
  refine qaj [5] [] [(12,.v (.slice bM ((qa1 d l v flex (Tree.mk n1 s2 b3 l4 u5)).length) bN))] bp dp fun fK dq=>?_
  refine qae (qaa ?_)
  refine wp_ret (qa2 (qaE (qaD dq bp.cells (v:=.slice bM ((qa1 d l v flex (Tree.mk n1 s2 b3 l4 u5)).length) bN) kz ?_)))
  exact qbc bp (k:=0) rfl (by (try simp only [and1]); simp [qaN,Tree.S,Tree.N,aw,ay,ax,bn,bB,ag,ak,am,af,ar])
 have dr:kind ≠ 10:=by simpa using ar
 refine wp_skip (qaw (qaa (qbu 5 kz aa fun fL ew bC dt=>?_)))
 refine qaY [0,1,2] [(66,.v (.int .i64 n1)),(67,.v (.int .i64 kind))] 3 (qac qai) (fun _ h=>h.cells) dt bo fun fM du=>?_
 refine qaJ (i:=3) kz (qal du (f:=43) (vs:=[.int .i64 kind]) (d:=68) kz Tryz.call43 (qkC kind _) ?_)
 rintro e_ fN ⟨rfl,bD⟩
 refine ⟨_,rfl,fun fO dv=>?_⟩
 have bE:=bC.next_nil bD
 have bF:=bC.frN bD
 have dw:=TT.ofW bF bE
 refine ⟨fun _=>dw,?_⟩
 refine qaJ (i:=4) kz (qal dv (f:=22) (vs:=[.int .i64 n1,.int .i64 ((qbG kind:Nat):Int)]) (d:=69) kz Tryz.call22 (qcX n1 (qbG kind) (by first | decide | exact qbi _ | omega) _) ?_)
 rintro e_ fP ⟨bO,bP,rfl,dx,dy⟩
 refine ⟨_,rfl,fun fQ dA=>?_⟩
 obtain ⟨aI,dB⟩:=bE.frFresh dy (brow bO bP 5 (be (qbG kind) n1)) (Nat.le_refl _) dx
 have dC:=TT.ofW (bF.trans dB) aI
 refine ⟨fun _=>dC,?_⟩
 refine qaJ (i:=5) kz (qcg [12] aI.cells dA (env':=[(12,.v (.slice bO ((be (qbG kind) n1).length) bP))]) kz fun fR dD=>?_)
 refine ⟨fun h=>absurd rfl h,?_⟩
 refine qaW kz ?_ _
 refine qaa (wp_ret (qaD dD aI.cells (v:=.slice bO ((be (qbG kind) n1).length) bP) kz ?_))
 exact qbc aI (k:=0) rfl (by (try simp only [and1]); simp [qaN,Tree.S,Tree.N,aw,ay,ax,bn,dr,ag,ak,am,af,ar])
theorem qm4 {d:Nat} (hp:qkE d) (cf:List Value) (f:Fld) (v:Int) (flex:Bool) (ct:List Value) (t:Tree) (w:World) (F:Nat → Nat → Prop) (hf:FldR w F cf f) (hd:depths f.sub ≤ d) (ht:TreeR w F ct t) (hroom:(qc7 d f v flex t).length ≤ 1099511627776) :
  Calls Tryz.prog 27 #[.agg cf.toArray,.int .i64 v,.bool flex,.agg ct.toArray] w (qd0 w 5 (qc7 d f v flex t)):=by
 obtain ⟨n1,s2,b3,l4,u5,A6,c7,A8,c9,cQ,cR,fP,rfl,rfl,fQ,eP,fR,ic⟩:=ht.open_
 have fo:=fQ.small
 have fq:=eP.small
 obtain ⟨ag,ai,aj,ah,ak,al,ab,aa,cS,cU,bR,rfl,rfl,cV,eO⟩:=hf.open_
 have fr:=cV.small
 refine enter (n:=76) Tryz.func27 rfl Tryz.ntmps27 kz fun a hE=>?_
 have hW:=WOk.start w Nil
 refine qad [0,1,2] kz ?_
 let aL:Value:=.int .i64 ag
 let aR:Value:=.int .i64 ab
 let aA:Value:=.slice cS aa.length cU
 refine qam (qbt hW hE (d:=4) (cs:=[aL,.int .i64 ai,.int .i64 aj,.int .i64 ah,.int .i64 ak,.int .i64 al,aR,aA]) kz fun fS ig ii fT fV fW eQ eR=>?_)
 let aE:Value:=.int .i64 n1
 let aF:Value:=.slice A6 s2.length c7
 let aB:Value:=.slice A8 l4.length c9
 let aG:Value:=.slice cQ u5.length cR
 refine qam (qbt eQ eR (d:=7) (cs:=[aE,aF,.bool b3,aB,aG]) kz fun fX ij ik fY fZ f5 bS eS=>?_)
 let ac:Nat × SV:=(1,.v (.int .i64 v))
 let ae:Nat × SV:=(2,.v (.bool flex))
 let af:Nat × SV:=(4,.p 0 0)
 let ax:Nat × SV:=(7,.p 1 0)
 refine qaj [2] [] [ac,ae,af,ax] bS eS fun il eT=>?_
 refine qae (qaa ?_)
 refine qad [0,1,2,3,4] kz ?_
 refine qaj [0,1,2] [3,4] [ac,ae,af,ax,(13,.v (.agg #[aL,.int .i64 ai,.int .i64 aj,.int .i64 ah,.int .i64 ak,.int .i64 al,aR,aA])),(14,.v (.int .i64 v)),(15,.v (.agg #[aE,aF,.bool b3,aB,aG]))] bS eT fun im eU=>?_
 let aM:Value:=.int .i64 v
 let ft:Value:=.agg #[.int .i64 n1,.slice A6 s2.length c7,.bool b3,.slice A8 l4.length c9,.slice cQ u5.length cR]
 refine qam (qal eU (f:=39) (vs:=[.agg #[aL,.int .i64 ai,.int .i64 aj,.int .i64 ah,.int .i64 ak,.int .i64 al,aR,aA],aM,.agg #[aE,aF,.bool b3,aB,aG]]) (d:=16) kz Tryz.call39 (qns ag ai aj ah ak al ab aa _ _ v n1 s2 b3 l4 u5 _ _ _ _ _ _ _) ?_)
 rintro e_ io ⟨rfl,cW⟩
 refine ⟨_,rfl,fun ip eV=>?_⟩
 have am:=bS.next_nil cW
 have f7:=bS.frN cW
 let aw:Nat × SV:=(9,.v (.bool (z1 ag ai aj ah ak al ab aa v n1 s2 b3 l4 u5)))
 refine qaj [4] [] [ac,ae,af,ax,aw] am eV fun iq eW=>?_
 refine qae (qaa ?_)
 refine wp_seq (qat [ac,ae,af,ax,aw,(19,.v (.bool (ag == 11)))] am eW fun ir cA=>?_)
 let aH:Value:=.bool flex
 let aS:Value:=.bool (z1 ag ai aj ah ak al ab aa v n1 s2 b3 l4 u5)
 refine qaA cA (b:=ag == 11) kz (fun cB=>?_) (fun cB=>?_)
 ·
  have f8:ag = 11:=by simpa using cB
  refine qad [0,1,2,3] kz ?_
  refine qaj [0,1] [2,3] [ac,ae,af,aw,(21,.v (.slice A8 l4.length c9))] am cA fun iu eX=>?_
  refine qam (qal eX (f:=40) (vs:=[aB]) (d:=22) kz Tryz.call40 (qmk _ _ l4 (eP.move am.step nilM am.imm).le _) ?_)
  rintro e_ iv ⟨rfl,cX⟩
  refine ⟨_,rfl,fun iw eY=>?_⟩
  have aO:=am.next_nil cX
  have f9:=am.frN cX
  refine qaj [3] [] [ac,ae,af,aw,(10,.v (.slice A8 ((qax l4).length) c9))] aO eY fun ix eZ=>?_
  refine qae (qaa ?_)
  refine wp_seq (qat [ac,ae,af,aw,(10,.v (.slice A8 ((qax l4).length) c9)),(23,.v (.bool (z1 ag ai aj ah ak al ab aa v n1 s2 b3 l4 u5)))] aO eZ fun iy cC=>?_)
  let bT:Ob:=⟨fS,0,(z13 ag ai aj ah ak al ab cS aa.length cU),true⟩
  let bU:Ob:=⟨fX,0,[.int .i64 n1,.slice A6 s2.length c7,.bool b3,.slice A8 l4.length c9,.slice cQ u5.length cR],true⟩
  let bV:Nat × SV:=(25,.v (.bool (z1 ag ai aj ah ak al ab aa v n1 s2 b3 l4 u5)))
  refine qaA cC (b:=Fld.nul (Fld.mk ag ai aj ah ak al ab aa) v (Tree.mk n1 s2 b3 l4 u5)) kz (fun e9=>?_) (fun e9=>?_)
  ·
   refine qaq [0] kz ?_
   let aI:Nat × SV:=(10,.v (.slice none 0 0))
   refine qaj [0] [] [ac,ae,af,aw,aI] aO cC fun iz fa=>?_
   refine qae (qaa ?_)
   refine qad [0,1,2,3,4,5] kz ?_
   refine qaj [0,1,2,3] [4,5] [ac,ae,af,aI,(24,.v (.bool flex)),bV,(27,.v (.int .i64 0))] aO fa fun iA fb=>?_
   refine qam (qal fb (f:=41) (vs:=[aH,aS,.int .i64 0,.int .i64 4]) (d:=28) kz Tryz.call41 (qeB flex (Fld.nul (Fld.mk ag ai aj ah ak al ab aa) v (Tree.mk n1 s2 b3 l4 u5)) 0 4 (by first | omega | exact Nat.le_trans (qbD _) (by decide) | exact Nat.le_trans (qc8 _) (by decide) | (simp; done) | (have:=hroom; omega)) (by first | decide | omega) _) ?_)
   rintro e_ iB ⟨cO,cP,rfl,fe,ff⟩
   refine ⟨_,rfl,fun iC fg=>?_⟩
   obtain ⟨cE,ga⟩:=aO.frFresh ff (brow cO cP 5 (qao flex (z1 ag ai aj ah ak al ab aa v n1 s2 b3 l4 u5) 0 4)) (Nat.le_refl _) fe
   refine qaj [5] [] [ac,ae,af,aI,(11,.v (.slice cO ((qao flex (z1 ag ai aj ah ak al ab aa v n1 s2 b3 l4 u5) 0 4).length) cP))] cE fg fun iD fh=>?_
   refine qae (qaa ?_)
   refine wp_seq ?_
   let bd:Nat × SV:=(30,.v (.int .i64 0))
   refine qat [ac,ae,af,aI,(11,.v (.slice cO ((qao flex (z1 ag ai aj ah ak al ab aa v n1 s2 b3 l4 u5) 0 4).length) cP)),bd,(31,.v (.int .i64 0))] cE fh fun iE cY=>?_
   refine wp_block ?_
   have hr2:(qao flex (Fld.nul (Fld.mk ag ai aj ah ak al ab aa) v (Tree.mk n1 s2 b3 l4 u5)) 0 4 ++ ([]:List Tree).flatMap (qaN (qa1 d aa v flex) ab false flex)).length ≤ 1099511627776:=by have h_:=hroom; rw [qgl ‹_› ‹_›] at h_; exact h_
   rw [List.length_append] at hr2
   have hr3:=qcF ([]:List Tree) (qaN (qa1 d aa v flex) ab false flex)
   have cZ:(qao flex (Fld.nul (Fld.mk ag ai aj ah ak al ab aa) v (Tree.mk n1 s2 b3 l4 u5)) 0 4) = (qao flex (Fld.nul (Fld.mk ag ai aj ah ak al ab aa) v (Tree.mk n1 s2 b3 l4 u5)) 0 4 ++ (([]:List Tree).take 0).flatMap (qaN (qa1 d aa v flex) ab false flex)):=by simp
   have c5:=congrArg (brow cO cP 5) cZ
   obtain ⟨bW,fu⟩:=cE.rowEq 0 [brow cO cP 5 (qao flex (z1 ag ai aj ah ak al ab aa v n1 s2 b3 l4 u5) 0 4 ++ (([]:List Tree).take 0).flatMap (qaN (qa1 d aa v flex) ab false flex))] c5
   rw [cZ] at cY
   refine wp_loop_ghost (fun n_ a_ w_=>∃ (k:Nat) (A_:Option Addr) (c_:Nat),n_ = 0 - k ∧ k ≤ 0 ∧ LInv bW 76 [bT,bU] [brow A_ c_ 5 (qao flex (Fld.nul (Fld.mk ag ai aj ah ak al ab aa) v (Tree.mk n1 s2 b3 l4 u5)) 0 4 ++ (([]:List Tree).take k).flatMap (qaN (qa1 d aa v flex) ab false flex))] [ac,ae,af,aI,(11,.v (.slice A_ ((qao flex (Fld.nul (Fld.mk ag ai aj ah ak al ab aa) v (Tree.mk n1 s2 b3 l4 u5)) 0 4 ++ (([]:List Tree).take k).flatMap (qaN (qa1 d aa v flex) ab false flex)).length) c_)),bd,(31,.v (.int .i64 ((k:Nat):Int)))] a_ w_) (0) ⟨0,cO,cP,by omega,by omega,cY.pk,bW,Fr.refl _ _ _⟩ ?_
   rintro gb gc gd ⟨k,A_,c_,fv,fw,da,aT,fx⟩
   refine qat [ac,ae,af,aI,(11,.v (.slice A_ ((qao flex (z1 ag ai aj ah ak al ab aa v n1 s2 b3 l4 u5) 0 4 ++ (([]:List Tree).take k).flatMap (qaN (qa1 d aa v flex) ab false flex)).length) c_)),bd,(31,.v (.int .i64 ((k:Nat):Int))),(32,.v (.bool (decide (((k:Nat):Int) < 0))))] aT da fun ge bX=>?_
   refine wp_seq (qau bX (b:=decide (((k:Nat):Int) < 0)) kz (decide_eq_false (by omega)) ?_)
   refine wp_exit (qay (qay (qaQ (qaa (qat [(8,.v (.slice A_ ((qao flex (z1 ag ai aj ah ak al ab aa v n1 s2 b3 l4 u5) 0 4 ++ (([]:List Tree).take k).flatMap (qaN (qa1 d aa v flex) ab false flex)).length) c_))] aT bX fun gg db=>?_)))))
   refine wp_ret (qaE (qaD db aT.cells (v:=.slice A_ ((qao flex (z1 ag ai aj ah ak al ab aa v n1 s2 b3 l4 u5) 0 4 ++ (([]:List Tree).take k).flatMap (qaN (qa1 d aa v flex) ab false flex)).length) c_) kz ?_))
   exact qbc aT (k:=0) rfl (by rw [qgl ‹_› ‹_›]; simp)
  refine wp_skip (qaa (qad [0,1,2,3,4,5] kz ?_))
  refine qaj [0,1,2,3] [4,5] [ac,ae,af,(10,.v (.slice A8 ((qax l4).length) c9)),(24,.v (.bool flex)),bV,(27,.v (.int .i64 (((qax l4).length:Nat):Int)))] aO cC fun gh dc=>?_
  refine qam (qal dc (f:=41) (vs:=[aH,aS,.int .i64 (((qax l4).length:Nat):Int),.int .i64 4]) (d:=28) kz Tryz.call41 (qeB flex (Fld.nul (Fld.mk ag ai aj ah ak al ab aa) v (Tree.mk n1 s2 b3 l4 u5)) ((qax l4).length) 4 (by first | omega | exact Nat.le_trans (qbD _) (by decide) | exact Nat.le_trans (qc8 _) (by decide) | (simp; done) | (have:=hroom; omega)) (by first | decide | omega) _) ?_)
  rintro e_ gi ⟨aZ,ba,rfl,de,df⟩
  refine ⟨_,rfl,fun gj dg=>?_⟩
  obtain ⟨bf,fy⟩:=aO.frFresh df (brow aZ ba 5 (qao flex (z1 ag ai aj ah ak al ab aa v n1 s2 b3 l4 u5) ((qax l4).length) 4)) (Nat.le_refl _) de
  refine qaj [5] [] [ac,ae,af,(10,.v (.slice A8 ((qax l4).length) c9)),(11,.v (.slice aZ ((qao flex (z1 ag ai aj ah ak al ab aa v n1 s2 b3 l4 u5) ((qax l4).length) 4).length) ba))] bf dg fun gk dh=>?_
  refine qae (qaa ?_)
  refine wp_seq (qat [ac,ae,af,(10,.v (.slice A8 ((qax l4).length) c9)),(11,.v (.slice aZ ((qao flex (z1 ag ai aj ah ak al ab aa v n1 s2 b3 l4 u5) ((qax l4).length) 4).length) ba)),(30,.v (.int .i64 (((qax l4).length:Nat):Int))),(31,.v (.int .i64 0))] bf dh fun gl bY=>?_)
  refine wp_block ?_
  have hr2:(qao flex (Fld.nul (Fld.mk ag ai aj ah ak al ab aa) v (Tree.mk n1 s2 b3 l4 u5)) ((qax l4).length) 4 ++ (qax l4).flatMap (qaN (qa1 d aa v flex) ab false flex)).length ≤ 1099511627776:=by have h_:=hroom; rw [qhm ‹_› ‹_›] at h_; exact h_
  rw [List.length_append] at hr2
  have hr3:=qcF (qax l4) (qaN (qa1 d aa v flex) ab false flex)
  have hsm3:(qax l4).length ≤ 32767:=by simp only [qax,List.length_take]; omega
  have bZ:(qao flex (Fld.nul (Fld.mk ag ai aj ah ak al ab aa) v (Tree.mk n1 s2 b3 l4 u5)) ((qax l4).length) 4) = (qao flex (Fld.nul (Fld.mk ag ai aj ah ak al ab aa) v (Tree.mk n1 s2 b3 l4 u5)) ((qax l4).length) 4 ++ ((qax l4).take 0).flatMap (qaN (qa1 d aa v flex) ab false flex)):=by simp
  have di:=congrArg (brow aZ ba 5) bZ
  obtain ⟨b8,fz⟩:=bf.rowEq 0 [brow aZ ba 5 (qao flex (z1 ag ai aj ah ak al ab aa v n1 s2 b3 l4 u5) ((qax l4).length) 4 ++ ((qax l4).take 0).flatMap (qaN (qa1 d aa v flex) ab false flex))] di
  rw [bZ] at bY
  refine wp_loop_ghost (fun n_ a_ w_=>∃ (k:Nat) (A_:Option Addr) (c_:Nat),n_ = (qax l4).length - k ∧ k ≤ (qax l4).length ∧ LInv b8 76 [bT,bU] [brow A_ c_ 5 (qao flex (Fld.nul (Fld.mk ag ai aj ah ak al ab aa) v (Tree.mk n1 s2 b3 l4 u5)) ((qax l4).length) 4 ++ ((qax l4).take k).flatMap (qaN (qa1 d aa v flex) ab false flex))] [ac,ae,af,(10,.v (.slice A8 ((qax l4).length) c9)),(11,.v (.slice A_ ((qao flex (Fld.nul (Fld.mk ag ai aj ah ak al ab aa) v (Tree.mk n1 s2 b3 l4 u5)) ((qax l4).length) 4 ++ ((qax l4).take k).flatMap (qaN (qa1 d aa v flex) ab false flex)).length) c_)),(30,.v (.int .i64 (((qax l4).length:Nat):Int))),(31,.v (.int .i64 ((k:Nat):Int)))] a_ w_) ((qax l4).length) ⟨0,aZ,ba,by omega,by omega,bY.pk,b8,Fr.refl _ _ _⟩ ?_
  rintro gm gn gp ⟨k,A_,c_,fA,fB,dj,aJ,dl⟩
  let aK:Nat × SV:=(31,.v (.int .i64 ((k:Nat):Int)))
  refine qat [ac,ae,af,(10,.v (.slice A8 ((qax l4).length) c9)),(11,.v (.slice A_ ((qao flex (z1 ag ai aj ah ak al ab aa v n1 s2 b3 l4 u5) ((qax l4).length) 4 ++ ((qax l4).take k).flatMap (qaN (qa1 d aa v flex) ab false flex)).length) c_)),(30,.v (.int .i64 (((qax l4).length:Nat):Int))),aK,(32,.v (.bool (decide (((k:Nat):Int) < (((qax l4).length:Nat):Int)))))] aJ dj fun gq bg=>?_
  refine wp_seq (qaA bg (b:=decide (((k:Nat):Int) < (((qax l4).length:Nat):Int))) kz (fun bh=>?_) (fun bh=>?_))
  ·
   have fC:=of_decide_eq_true bh
   refine wp_skip (qaa (wp_seq (wp_block (qat [ac,ae,af,(10,.v (.slice A8 ((qax l4).length) c9)),(11,.v (.slice A_ ((qao flex (z1 ag ai aj ah ak al ab aa v n1 s2 b3 l4 u5) ((qax l4).length) 4 ++ ((qax l4).take k).flatMap (qaN (qa1 d aa v flex) ab false flex)).length) c_)),(12,.v (.int .i64 ((k:Nat):Int))),(30,.v (.int .i64 (((qax l4).length:Nat):Int))),aK] aJ bg fun gt dp=>?_))))
   refine qgE 13 kz aJ fun gv dq ay bj=>?_
   let bk:Nat × SV:=(36,.v (.int .i64 ab))
   let bn:Nat × SV:=(38,.v (.slice cS aa.length cU))
   let bo:Nat × SV:=(39,.v (.int .i64 v))
   let bp:Nat × SV:=(40,.v (.bool flex))
   let bq:Nat × SV:=(42,.v (.int .i64 ((k:Nat):Int)))
   refine qaY [0,1,2,3,4,5,6,7,8] [ac,ae,af,(10,.v (.slice A8 ((qax l4).length) c9)),(11,.v (.slice A_ ((qao flex (z1 ag ai aj ah ak al ab aa v n1 s2 b3 l4 u5) ((qax l4).length) 4 ++ ((qax l4).take k).flatMap (qaN (qa1 d aa v flex) ab false flex)).length) c_)),(30,.v (.int .i64 (((qax l4).length:Nat):Int))),aK,(34,.v (.slice A_ ((qao flex (z1 ag ai aj ah ak al ab aa v n1 s2 b3 l4 u5) ((qax l4).length) 4 ++ ((qax l4).take k).flatMap (qaN (qa1 d aa v flex) ab false flex)).length) c_)),bk,bn,bo,bp,(41,.v (.slice A8 ((qax l4).length) c9)),bq] 5 (qah (qac (qac (qah (qac (qac qai)))))) (fun _ h=>h.cells) bj dp fun gw dr=>?_
   obtain ⟨dt,du,dv,fD,bt⟩:=Slots.get (qhj eP) (i:=k) (by omega)
   obtain ⟨fi,aU⟩:∃ x,(qax l4)[k]? = some x:=⟨_,List.getElem?_eq_getElem (by omega)⟩
   have bu:=(qhZ fR) k fi aU
   obtain ⟨ao,ar,ap,au,av,dw,dx,dy,dA,dB,dC,fE,rfl,bw,fj,fk,gx,gy⟩:=bu.open_
   rw [bw] at bu
   have fl:=fj.small
   have fm:=fk.small
   rw [bw] at bt
   refine qbk dr (i:=9) (t:=25) (A:=A8) (m:=((qax l4).length)) (q:=((k:Nat):Int)) (d:=43) kz (e:=28) (size:=5) (bytes:=88) kz dv rfl (by omega) kz kz (qah (qac (qac (qah (qac (qac qai)))))) bj fun gz dD=>?_
   let bx:Value:=.slice dw ar.length dx
   let bz:Value:=.slice dy au.length dA
   let bA:Value:=.slice dB av.length dC
   refine qbj dD (i:=10) (t:=28) (b:=dt) (o:=du + k * 5) (d:=44) kz (cs:=[.int .i64 ao,bx,.bool ap,bz,bA]) (v:=.agg #[.int .i64 ao,bx,.bool ap,bz,bA]) kz (fun w' h'=>(AtF.move bt (TT.step0 ay h') nilM qa7).at_) kz kz (qah (qac (qac (qah (qac (qac qai)))))) bj fun gA dE=>?_
   refine qaJ (i:=11) kz (qal dE (f:=42) (vs:=[aR,aA,.bool false,aM,aH,.agg #[.int .i64 ao,bx,.bool ap,bz,bA]]) (d:=45) kz Tryz.call42 (qkF hp ab _ _ aa false v flex _ (Tree.mk ao ar ap au av) _ _ ⟨bR,(cV.move ay.step nilM ay.imm),(fun i_ x_ h_=>((eO i_ x_ h_).move ay.step nilM ay.imm))⟩ hd (bu.move ay.step nilM ay.imm) (by have:=qgk (g:=qaN (qa1 d aa v flex) ab false flex) aU; omega)) ?_)
   rintro e_ gB ⟨bB,bC,rfl,dF,dG⟩
   refine ⟨_,rfl,fun gC dH=>?_⟩
   obtain ⟨aV,bD⟩:=ay.frFresh dG (brow bB bC 5 (qaN (qa1 d aa v flex) ab false flex (Tree.mk ao ar ap au av))) (Nat.le_refl _) dF
   have dI:=TT.ofW bD aV
   refine ⟨fun _=>dI,?_⟩
   refine qaJ (i:=12) kz (qaI aV dH (k:=0) (d:=46) (t:=24) (e:=5) (size:=1) (bytes:=1) (A:=A_) (As:=bB) (m0:=((qao flex (Fld.nul (Fld.mk ag ai aj ah ak al ab aa) v (Tree.mk n1 s2 b3 l4 u5)) ((qax l4).length) 4 ++ ((qax l4).take k).flatMap (qaN (qa1 d aa v flex) ab false flex)).length)) (c:=c_) (m:=((qaN (qa1 d aa v flex) ab false flex (Tree.mk ao ar ap au av)).length)) (cs:=bC) (xs:=(bc (qao flex (Fld.nul (Fld.mk ag ai aj ah ak al ab aa) v (Tree.mk n1 s2 b3 l4 u5)) ((qax l4).length) 4 ++ ((qax l4).take k).flatMap (qaN (qa1 d aa v flex) ab false flex)))) (news:=bc (qaN (qa1 d aa v flex) ab false flex (Tree.mk ao ar ap au av))) kz kz rfl (qb8 (aV.own 1 _ rfl) (qcu _)) (qcj (aV.own 1 _ rfl)) (by rw [List.length_append]; have h8_:=hr3 k; have h9_:=qgk (g:=qaN (qa1 d aa v flex) ab false flex) aU; omega) fun aC aD gD gE cd dJ dK=>?_)
   have dL:(⟨aC,aD,5,1,(qao flex (z1 ag ai aj ah ak al ab aa v n1 s2 b3 l4 u5) ((qax l4).length) 4 ++ ((qax l4).take k).flatMap (qaN (qa1 d aa v flex) ab false flex)).length + (qaN (qa1 d aa v flex) ab false flex (Tree.mk ao ar ap au av)).length,bc (qao flex (z1 ag ai aj ah ak al ab aa v n1 s2 b3 l4 u5) ((qax l4).length) 4 ++ ((qax l4).take k).flatMap (qaN (qa1 d aa v flex) ab false flex)) ++ bc (qaN (qa1 d aa v flex) ab false flex (Tree.mk ao ar ap au av))⟩:Rw) = brow aC aD 5 (qao flex (z1 ag ai aj ah ak al ab aa v n1 s2 b3 l4 u5) ((qax l4).length) 4 ++ ((qax l4).take k).flatMap (qaN (qa1 d aa v flex) ab false flex) ++ (qaN (qa1 d aa v flex) ab false flex (Tree.mk ao ar ap au av))):=qa6 (rfl) rfl
   obtain ⟨aW,ce⟩:=dJ.rowEq 0 [brow aC aD 5 (qao flex (z1 ag ai aj ah ak al ab aa v n1 s2 b3 l4 u5) ((qax l4).length) 4 ++ ((qax l4).take k).flatMap (qaN (qa1 d aa v flex) ab false flex) ++ (qaN (qa1 d aa v flex) ab false flex (Tree.mk ao ar ap au av))),brow bB bC 5 (qaN (qa1 d aa v flex) ab false flex (Tree.mk ao ar ap au av))] dL
   let cg:Nat × SV:=(43,.v (.pointer (some ⟨dt,du + k * 5,none⟩)))
   let cm:Nat × SV:=(44,.v (.agg #[.int .i64 ao,.slice dw ar.length dx,.bool ap,.slice dy au.length dA,.slice dB av.length dC]))
   have dM:=EnvOk.pick dK (ks:=[1,2,4,10,11,30,31,34,36,38,39,40,41,42,43,44,45,46]) (env':=[ac,ae,af,(10,.v (.slice A8 ((qax l4).length) c9)),(11,.v (.slice A_ ((qao flex (z1 ag ai aj ah ak al ab aa v n1 s2 b3 l4 u5) ((qax l4).length) 4 ++ ((qax l4).take k).flatMap (qaN (qa1 d aa v flex) ab false flex)).length) c_)),(30,.v (.int .i64 (((qax l4).length:Nat):Int))),aK,(34,.v (.slice A_ ((qao flex (z1 ag ai aj ah ak al ab aa v n1 s2 b3 l4 u5) ((qax l4).length) 4 ++ ((qax l4).take k).flatMap (qaN (qa1 d aa v flex) ab false flex)).length) c_)),bk,bn,bo,bp,(41,.v (.slice A8 ((qax l4).length) c9)),bq,cg,cm,(45,.v (.slice bB ((qaN (qa1 d aa v flex) ab false flex (Tree.mk ao ar ap au av)).length) bC)),(46,.v (.slice aC ((qao flex (z1 ag ai aj ah ak al ab aa v n1 s2 b3 l4 u5) ((qax l4).length) 4 ++ ((qax l4).take k).flatMap (qaN (qa1 d aa v flex) ab false flex)).length + (qaN (qa1 d aa v flex) ab false flex (Tree.mk ao ar ap au av)).length) aD))]) kz
   have dN:=dM.cast (env':=[ac,ae,af,(10,.v (.slice A8 ((qax l4).length) c9)),(11,.v (.slice A_ ((qao flex (Fld.nul (Fld.mk ag ai aj ah ak al ab aa) v (Tree.mk n1 s2 b3 l4 u5)) ((qax l4).length) 4 ++ ((qax l4).take k).flatMap (qaN (qa1 d aa v flex) ab false flex)).length) c_)),(30,.v (.int .i64 (((qax l4).length:Nat):Int))),aK,(34,.v (.slice A_ ((qao flex (Fld.nul (Fld.mk ag ai aj ah ak al ab aa) v (Tree.mk n1 s2 b3 l4 u5)) ((qax l4).length) 4 ++ ((qax l4).take k).flatMap (qaN (qa1 d aa v flex) ab false flex)).length) c_)),bk,bn,bo,bp,(41,.v (.slice A8 ((qax l4).length) c9)),bq,cg,cm,(45,.v (.slice bB ((qaN (qa1 d aa v flex) ab false flex (Tree.mk ao ar ap au av)).length) bC)),(46,.v (.slice aC ((qao flex (Fld.nul (Fld.mk ag ai aj ah ak al ab aa) v (Tree.mk n1 s2 b3 l4 u5)) ((qax l4).length) 4 ++ ((qax l4).take k).flatMap (qaN (qa1 d aa v flex) ab false flex) ++ (qaN (qa1 d aa v flex) ab false flex (Tree.mk ao ar ap au av))).length) aD))]) (by simp only [List.length_append,List.length_cons,List.length_nil,Nat.zero_add])
   have dO:=TT.ofW ((bD.trans cd).trans ce) aW
   refine ⟨fun _=>dO,?_⟩
   refine qaJ (i:=13) kz (qcg [1,2,4,10,11,30,31] aW.cells dN (env':=[ac,ae,af,(10,.v (.slice A8 ((qax l4).length) c9)),(11,.v (.slice aC ((qao flex (z1 ag ai aj ah ak al ab aa v n1 s2 b3 l4 u5) ((qax l4).length) 4 ++ ((qax l4).take k).flatMap (qaN (qa1 d aa v flex) ab false flex) ++ (qaN (qa1 d aa v flex) ab false flex (Tree.mk ao ar ap au av))).length) aD)),(30,.v (.int .i64 (((qax l4).length:Nat):Int))),aK]) kz fun gF dP=>?_)
   refine ⟨fun h=>absurd rfl h,?_⟩
   refine qaW kz ?_ _
   refine qaw (qaa (qaq [0,1] kz ?_))
   refine qaj [0,1] [] [ac,ae,af,(10,.v (.slice A8 ((qax l4).length) c9)),(11,.v (.slice aC ((qao flex (z1 ag ai aj ah ak al ab aa v n1 s2 b3 l4 u5) ((qax l4).length) 4 ++ ((qax l4).take k).flatMap (qaN (qa1 d aa v flex) ab false flex) ++ (qaN (qa1 d aa v flex) ab false flex (Tree.mk ao ar ap au av))).length) aD)),(30,.v (.int .i64 (((qax l4).length:Nat):Int))),(31,.v (.int .i64 (IntKind.i64.wrap (((k:Nat):Int) + 1))))] aW dP fun gG bE=>?_
   refine qae (qaa ?_)
   obtain ⟨dQ,dR⟩:=aW.cutR 1 [brow aC aD 5 (qao flex (z1 ag ai aj ah ak al ab aa v n1 s2 b3 l4 u5) ((qax l4).length) 4 ++ ((qax l4).take k).flatMap (qaN (qa1 d aa v flex) ab false flex) ++ (qaN (qa1 d aa v flex) ab false flex (Tree.mk ao ar ap au av)))]
   have cq:(qao flex (Fld.nul (Fld.mk ag ai aj ah ak al ab aa) v (Tree.mk n1 s2 b3 l4 u5)) ((qax l4).length) 4 ++ ((qax l4).take k).flatMap (qaN (qa1 d aa v flex) ab false flex) ++ (qaN (qa1 d aa v flex) ab false flex (Tree.mk ao ar ap au av))) = (qao flex (Fld.nul (Fld.mk ag ai aj ah ak al ab aa) v (Tree.mk n1 s2 b3 l4 u5)) ((qax l4).length) 4 ++ ((qax l4).take (k + 1)).flatMap (qaN (qa1 d aa v flex) ab false flex)):=by rw [qcP aU,List.append_assoc]
   have dS:=congrArg (brow aC aD 5) cq
   obtain ⟨dT,dU⟩:=dQ.rowEq 0 [brow aC aD 5 (qao flex (z1 ag ai aj ah ak al ab aa v n1 s2 b3 l4 u5) ((qax l4).length) 4 ++ ((qax l4).take (k + 1)).flatMap (qaN (qa1 d aa v flex) ab false flex))] dS
   rw [cq] at bE
   have dV:IntKind.i64.wrap (((k:Nat):Int) + 1) = ((k + 1:Nat):Int):=qbq (by omega)
   rw [dV] at bE
   exact ⟨(qax l4).length - (k + 1),by omega,k + 1,aC,aD,rfl,by omega,bE.pk,dT,((((((dl.trans dq).trans bD).trans cd).trans ce).trans dR).trans dU)⟩
  have fF:=of_decide_eq_false bh
  refine wp_exit (qay (qay (qaQ (qaa (qat [(8,.v (.slice A_ ((qao flex (z1 ag ai aj ah ak al ab aa v n1 s2 b3 l4 u5) ((qax l4).length) 4 ++ ((qax l4).take k).flatMap (qaN (qa1 d aa v flex) ab false flex)).length) c_))] aJ bg fun gH dW=>?_)))))
  refine wp_ret (qaE (qaD dW aJ.cells (v:=.slice A_ ((qao flex (z1 ag ai aj ah ak al ab aa v n1 s2 b3 l4 u5) ((qax l4).length) 4 ++ ((qax l4).take k).flatMap (qaN (qa1 d aa v flex) ab false flex)).length) c_) kz ?_))
  have hkk:(qax l4).take k = qax l4:=List.take_of_length_le (by omega)
  exact qbc aJ (k:=0) rfl (by rw [hkk,qhm ‹_› ‹_›]; rfl)
 have fG:ag ≠ 11:=by simpa using cB
 refine wp_skip (qaa (wp_seq (qad [0,1,2,3,4,5,6,7] kz ?_)))
 refine qaj [0,1,2,3] [4,5,6,7] [ac,ae,af,ax,aw,(52,.v (.bool (ag == 10)))] am cA fun gI cr=>?_
 let cu:Env:=[(68,.v (.int .i64 ag)),(70,.v (.slice cS aa.length cU)),(71,.v (.bool (z1 ag ai aj ah ak al ab aa v n1 s2 b3 l4 u5))),(72,.v (.int .i64 v)),(73,.v (.bool flex)),(74,.v (.agg #[.int .i64 n1,.slice A6 s2.length c7,.bool b3,.slice A8 l4.length c9,.slice cQ u5.length cR]))]
 refine (Bool.eq_false_or_eq_true (ag == 10)).elim (fun aN=>?_) (fun aN=>?_)
 ·
  have fH:ag = 10:=by simpa using aN
  have dX:=cr
  rw [aN] at dX
  refine qaj [4,5,6,7] [] [ac,ae,af,ax,aw,(56,.v (.bool (decide (ah ≥ 0))))] am dX fun gJ bF=>?_
  refine qae (qaa ?_)
  refine qaA bF (b:=decide (ah ≥ 0)) kz (fun bG=>?_) (fun bG=>?_)
  ·
   have fI:=of_decide_eq_true bG
   refine wp_seq (qat [ac,ae,af,ax,(57,.v (.bool (z1 ag ai aj ah ak al ab aa v n1 s2 b3 l4 u5)))] am bF fun gK bH=>?_)
   refine qaA bH (b:=Fld.nul (Fld.mk ag ai aj ah ak al ab aa) v (Tree.mk n1 s2 b3 l4 u5)) kz (fun dY=>?_) (fun dY=>?_)
   ·
    refine qad [0,1] kz ?_
    refine qam (qal bH (f:=22) (vs:=[.int .i64 (-1),.int .i64 1]) (d:=58) kz Tryz.call22 (qcX (-1) 1 (by first | decide | exact qbi _ | omega) _) ?_)
    rintro e_ gL ⟨cG,cH,rfl,dZ,d5⟩
    refine ⟨_,rfl,fun gM d6=>?_⟩
    obtain ⟨bI,fJ⟩:=am.frFresh d5 (brow cG cH 5 (be 1 (-1))) (Nat.le_refl _) dZ
    refine qaj [1] [] [(8,.v (.slice cG ((be 1 (-1)).length) cH))] bI d6 fun gN d7=>?_
    refine qae (qaa ?_)
    refine wp_ret (qaE (qaE (qaD d7 bI.cells (v:=.slice cG ((be 1 (-1)).length) cH) kz ?_)))
    exact qbc bI (k:=0) rfl (by first | rw [qel ‹_› ‹_›] | rw [qek ‹_› ‹_› ‹_›] | rw [qdv ‹_› ‹_› ‹_› ‹_›] | rw [qej ‹_› ‹_› ‹_› ‹_›])
   refine wp_skip (qaa (qbu 8 kz am fun gO fK d8 d9=>?_))
   let bJ:Nat × SV:=(61,.v (.slice cS aa.length cU))
   let bK:Nat × SV:=(62,.v (.int .i64 v))
   let bL:Nat × SV:=(64,.v (.agg #[.int .i64 n1,.slice A6 s2.length c7,.bool b3,.slice A8 l4.length c9,.slice cQ u5.length cR]))
   refine qaY [1,2,3,4,5] [bJ,bK,(63,.v (.bool flex)),bL] 4 (qac (qac qai)) (fun _ h=>h.cells) d9 bH fun gP ea=>?_
   refine qaJ (i:=0) kz (qal ea (f:=22) (vs:=[.int .i64 1,.int .i64 1]) (d:=59) kz Tryz.call22 (qcX 1 1 (by first | decide | exact qbi _ | omega) _) ?_)
   rintro e_ gQ ⟨cI,cJ,rfl,eb,ec⟩
   refine ⟨_,rfl,fun gR ee=>?_⟩
   obtain ⟨az,bM⟩:=d8.frFresh ec (brow cI cJ 5 (be 1 1)) (Nat.le_refl _) eb
   have ef:=TT.ofW bM az
   refine ⟨fun _=>ef,?_⟩
   refine qaJ (i:=6) kz (qal ee (f:=18) (vs:=[aA,aM,aH,.agg #[aE,aF,.bool b3,aB,aG]]) (d:=65) kz Tryz.call18 (hp _ _ aa v flex _ (Tree.mk n1 s2 b3 l4 u5) _ _ ⟨bR,(cV.move az.step nilM az.imm),(fun i_ x_ h_=>((eO i_ x_ h_).move az.step nilM az.imm))⟩ hd (ht.move az.step nilM az.imm) (by have h9_:=hroom; rw [qdv ‹_› ‹_› ‹_› ‹_›,List.length_append] at h9_; omega)) ?_)
   rintro e_ gS ⟨bN,bO,rfl,eg,eh⟩
   refine ⟨_,rfl,fun gT ei=>?_⟩
   obtain ⟨aX,cv⟩:=az.frFresh eh (brow bN bO 5 (qa1 d aa v flex (Tree.mk n1 s2 b3 l4 u5))) (Nat.le_refl _) eg
   have ej:=TT.ofW (bM.trans cv) aX
   refine ⟨fun _=>ej,?_⟩
   refine qaJ (i:=7) kz (qaI aX ei (k:=0) (d:=66) (t:=24) (e:=5) (size:=1) (bytes:=1) (A:=cI) (As:=bN) (m0:=((be 1 1).length)) (c:=cJ) (m:=((qa1 d aa v flex (Tree.mk n1 s2 b3 l4 u5)).length)) (cs:=bO) (xs:=(bc (be 1 1))) (news:=bc (qa1 d aa v flex (Tree.mk n1 s2 b3 l4 u5))) kz kz rfl (qb8 (aX.own 1 _ rfl) (qcu _)) (qcj (aX.own 1 _ rfl)) (by have h9_:=hroom; rw [qdv ‹_› ‹_› ‹_› ‹_›,List.length_append] at h9_; omega) fun aP aQ gU gV ek em eo=>?_)
   have eu:(⟨aP,aQ,5,1,(be 1 1).length + (qa1 d aa v flex (Tree.mk n1 s2 b3 l4 u5)).length,bc (be 1 1) ++ bc (qa1 d aa v flex (Tree.mk n1 s2 b3 l4 u5))⟩:Rw) = brow aP aQ 5 (be 1 1 ++ (qa1 d aa v flex (Tree.mk n1 s2 b3 l4 u5))):=qa6 (rfl) rfl
   obtain ⟨aY,ev⟩:=em.rowEq 0 [brow aP aQ 5 (be 1 1 ++ (qa1 d aa v flex (Tree.mk n1 s2 b3 l4 u5))),brow bN bO 5 (qa1 d aa v flex (Tree.mk n1 s2 b3 l4 u5))] eu
   let cw:Nat × SV:=(59,.v (.slice cI ((be 1 1).length) cJ))
   have ew:=EnvOk.pick eo (ks:=[61,62,63,64,59,65,66]) (env':=[bJ,bK,(63,.v (.bool flex)),bL,cw,(65,.v (.slice bN ((qa1 d aa v flex (Tree.mk n1 s2 b3 l4 u5)).length) bO)),(66,.v (.slice aP ((be 1 1).length + (qa1 d aa v flex (Tree.mk n1 s2 b3 l4 u5)).length) aQ))]) kz
   have ey:=ew.cast (env':=[bJ,bK,(63,.v (.bool flex)),bL,cw,(65,.v (.slice bN ((qa1 d aa v flex (Tree.mk n1 s2 b3 l4 u5)).length) bO)),(66,.v (.slice aP ((be 1 1 ++ (qa1 d aa v flex (Tree.mk n1 s2 b3 l4 u5))).length) aQ))]) (by simp only [List.length_append,List.length_cons,List.length_nil,Nat.zero_add])
   have ez:=TT.ofW (((bM.trans cv).trans ek).trans ev) aY
   refine ⟨fun _=>ez,?_⟩
   refine qaJ (i:=8) kz (qcg [8] aY.cells ey (env':=[(8,.v (.slice aP ((be 1 1 ++ (qa1 d aa v flex (Tree.mk n1 s2 b3 l4 u5))).length) aQ))]) kz fun gW eB=>?_)
   refine ⟨fun h=>absurd rfl h,?_⟩
   refine qaW kz ?_ _
   refine qaa (wp_ret (qaE (qaD eB aY.cells (v:=.slice aP ((be 1 1 ++ (qa1 d aa v flex (Tree.mk n1 s2 b3 l4 u5))).length) aQ) kz ?_)))
   exact qbc aY (k:=0) rfl (by first | rw [qel ‹_› ‹_›] | rw [qek ‹_› ‹_› ‹_›] | rw [qdv ‹_› ‹_› ‹_› ‹_›] | rw [qej ‹_› ‹_› ‹_› ‹_›])
  have fL:=of_decide_eq_false bG
  refine wp_skip (qaa (qad [0,1,2,3,4,5,6,7,8,9] kz ?_))
  refine qaj [0,1,2,3,4,5,6,7] [8,9] cu am bF fun gX eC=>?_
  refine qam (qal eC (f:=42) (vs:=[aL,aA,aS,aM,aH,.agg #[aE,aF,.bool b3,aB,aG]]) (d:=75) kz Tryz.call42 (qkF hp ag _ _ aa (Fld.nul (Fld.mk ag ai aj ah ak al ab aa) v (Tree.mk n1 s2 b3 l4 u5)) v flex _ (Tree.mk n1 s2 b3 l4 u5) _ _ ⟨bR,(cV.move am.step nilM am.imm),(fun i_ x_ h_=>((eO i_ x_ h_).move am.step nilM am.imm))⟩ hd (ht.move am.step nilM am.imm) (by have h_:=hroom; (first | rw [qel ‹_› ‹_›] at h_ | rw [qek ‹_› ‹_› ‹_›] at h_); exact h_)) ?_)
  rintro e_ gY ⟨cK,cL,rfl,eD,eE⟩
  refine ⟨_,rfl,fun gZ eF=>?_⟩
  obtain ⟨bP,fM⟩:=am.frFresh eE (brow cK cL 5 (qaN (qa1 d aa v flex) ag (z1 ag ai aj ah ak al ab aa v n1 s2 b3 l4 u5) flex (Tree.mk n1 s2 b3 l4 u5))) (Nat.le_refl _) eD
  refine qaj [9] [] [(8,.v (.slice cK ((qaN (qa1 d aa v flex) ag (z1 ag ai aj ah ak al ab aa v n1 s2 b3 l4 u5) flex (Tree.mk n1 s2 b3 l4 u5)).length) cL))] bP eF fun hC eG=>?_
  refine qae (qaa ?_)
  refine wp_ret (qaD eG bP.cells (v:=.slice cK ((qaN (qa1 d aa v flex) ag (z1 ag ai aj ah ak al ab aa v n1 s2 b3 l4 u5) flex (Tree.mk n1 s2 b3 l4 u5)).length) cL) kz ?_)
  exact qbc bP (k:=0) rfl (by first | rw [qel ‹_› ‹_›] | rw [qek ‹_› ‹_› ‹_›] | rw [qdv ‹_› ‹_› ‹_› ‹_›] | rw [qej ‹_› ‹_› ‹_› ‹_›])
 have fN:ag ≠ 10:=by simpa using aN
 have eH:=cr.cast (env':=[ac,ae,af,ax,aw,(52,.v (.bool false))]) (by rw [aN])
 refine qaj [4,5,6,7] [] [ac,ae,af,ax,aw,(56,.v (.bool false))] am eH fun hJ cz=>?_
 refine qae (qaa ?_)
 refine qau cz (b:=false) kz rfl ?_
 refine wp_skip (qaa (qad [0,1,2,3,4,5,6,7,8,9] kz ?_))
 refine qaj [0,1,2,3,4,5,6,7] [8,9] cu am cz fun hK eI=>?_
 refine qam (qal eI (f:=42) (vs:=[aL,aA,aS,aM,aH,.agg #[aE,aF,.bool b3,aB,aG]]) (d:=75) kz Tryz.call42 (qkF hp ag _ _ aa (Fld.nul (Fld.mk ag ai aj ah ak al ab aa) v (Tree.mk n1 s2 b3 l4 u5)) v flex _ (Tree.mk n1 s2 b3 l4 u5) _ _ ⟨bR,(cV.move am.step nilM am.imm),(fun i_ x_ h_=>((eO i_ x_ h_).move am.step nilM am.imm))⟩ hd (ht.move am.step nilM am.imm) (by have h_:=hroom; (first | rw [qel ‹_› ‹_›] at h_ | rw [qek ‹_› ‹_› ‹_›] at h_); exact h_)) ?_)
 rintro e_ hZ ⟨cM,cN,rfl,eJ,eK⟩
 refine ⟨_,rfl,fun ia eM=>?_⟩
 obtain ⟨bQ,fO⟩:=am.frFresh eK (brow cM cN 5 (qaN (qa1 d aa v flex) ag (z1 ag ai aj ah ak al ab aa v n1 s2 b3 l4 u5) flex (Tree.mk n1 s2 b3 l4 u5))) (Nat.le_refl _) eJ
 refine qaj [9] [] [(8,.v (.slice cM ((qaN (qa1 d aa v flex) ag (z1 ag ai aj ah ak al ab aa v n1 s2 b3 l4 u5) flex (Tree.mk n1 s2 b3 l4 u5)).length) cN))] bQ eM fun ib eN=>?_
 refine qae (qaa ?_)
 refine wp_ret (qaD eN bQ.cells (v:=.slice cM ((qaN (qa1 d aa v flex) ag (z1 ag ai aj ah ak al ab aa v n1 s2 b3 l4 u5) flex (Tree.mk n1 s2 b3 l4 u5)).length) cN) kz ?_)
 exact qbc bQ (k:=0) rfl (by first | rw [qel ‹_› ‹_›] | rw [qek ‹_› ‹_› ‹_›] | rw [qdv ‹_› ‹_› ‹_› ‹_›] | rw [qej ‹_› ‹_› ‹_› ‹_›])
theorem qiW (Af:Option Addr) (cf:Nat) (l:List Fld) (A:Option Addr) (c:Nat) (u:List (Int × Bs)) (w:World) (F:Nat → Nat → Prop) (hl:FldsR w F Af cf l) (hu:TagsR w F A c u) :
  Calls Tryz.prog 32 #[.slice Af l.length cf,.slice A u.length c] w (qlE w F (qan l u)):=by
 obtain ⟨xf,hf1,hf2⟩:=hl.ex
 obtain ⟨xu,hu1,hu2⟩:=hu.ex
 have hsmu:=hu1.small
 have hule:(u.take 32767).length ≤ 32767:=by rw [List.length_take]; omega
 refine enter (n:=85) Tryz.func32 rfl Tryz.ntmps32 kz fun a hE=>?_
 have hW:=WOk.start w Nil
 let ba:Nat × SV:=(1,.v (.slice A u.length c))
 refine qat [(0,.v (.slice Af l.length cf)),ba] hW hE fun a1 hE2=>?_
 refine qad [0,1,2] kz ?_
 refine qaj [0] [1,2] [ba,(11,.v (.slice Af l.length cf))] hW hE2 fun a3 hE4=>?_
 refine qam (qal hE4 (f:=29) (vs:=[.slice Af l.length cf]) (d:=12) kz Tryz.call29 (qlK _ _ l _ _ ⟨xf,(hf1.move hW.step nilM hW.imm),(fun i_ x_ h_=>((hf2 i_ x_ h_).move hW.step nilM hW.imm))⟩) ?_)
 rintro e_ w6 ⟨rfl,hs5⟩
 refine ⟨_,rfl,fun a7 hE8=>?_⟩
 have hW9:=hW.next_nil hs5
 have f8:=hW.frN hs5
 refine qaj [2] [] [ba,(5,.v (.int .u32 (qar l)))] hW9 hE8 fun iL fi=>?_
 refine qae (qaa ?_)
 let bh:Nat × SV:=(6,.v (.slice none 0 0))
 refine qat [ba,(5,.v (.int .u32 (qar l))),bh] hW9 fi fun iM fj=>?_
 refine wp_seq (qad [0,1,2,3,4,5,6] kz ?_)
 refine qaj [0,1,2,3] [4,5,6] [(5,.v (.int .u32 (qar l))),bh,(13,.v (.slice A u.length c)),(16,.v (.int .i64 (if 32767 < ((u.length:Nat):Int) then 32767 else ((u.length:Nat):Int))))] hW9 fj fun iN fk=>?_
 refine qam (qbL fk (t:=26) (A:=A) (m:=u.length) (cp:=c) (q:=(if 32767 < ((u.length:Nat):Int) then 32767 else ((u.length:Nat):Int))) (d:=17) (j:=(u.take 32767).length) kz (e:=61) (size:=2) (bytes:=32) kz (by simpa using qhW u.length) (by rw [List.length_take]; have:=hu1.le; omega) fun iO fl=>?_)
 let aa:Nat × SV:=(17,.v (.slice A ((u.take 32767).length) c))
 let ab:Nat × SV:=(18,.v (.int .i64 (((u.take 32767).length:Nat):Int)))
 refine qaj [5,6] [] [(5,.v (.int .u32 (qar l))),bh,aa,ab,(19,.v (.int .i64 0))] hW9 fl fun iP fm=>?_
 refine qae (qaa ?_)
 refine wp_block ?_
 have db:=hW9.addNil 61 2
 have f9:=hW9.frNil 61 2
 refine wp_loop_ghost (fun n_ a_ w_=>∃ (k:Nat) (A_:Option Addr) (c_:Nat) (out:List (Int × Bs)) (css:List (List Value)),n_ = (u.take 32767).length - k ∧ k ≤ (u.take 32767).length ∧ (TagsE w_ (Imm F w w_ [] [⟨A_,c_,61,2,out.length,css.flatten⟩]) out css) ∧ (out = ((u.take 32767).take k).foldl (qb3 (qar l)) []) ∧ (out.length ≤ k) ∧ LInv db 85 [] [⟨A_,c_,61,2,out.length,css.flatten⟩] [(5,.v (.int .u32 (qar l))),(6,.v (.slice A_ out.length c_)),aa,ab,(19,.v (.int .i64 ((k:Nat):Int)))] a_ w_) ((u.take 32767).length) ⟨0,none,0,[],[],by omega,by omega,TagsE.nil _ _,rfl,Nat.zero_le _,fm.pk,db,Fr.refl _ _ _⟩ ?_
 rintro iQ iR iS ⟨k,A_,c_,out,css,ga,gb,hT,hout,hlen,fo,bd,bj⟩
 let ag:Nat × SV:=(6,.v (.slice A_ out.length c_))
 let ac:Nat × SV:=(19,.v (.int .i64 ((k:Nat):Int)))
 refine qat [(5,.v (.int .u32 (qar l))),ag,aa,ab,ac,(20,.v (.bool (decide (((k:Nat):Int) < (((u.take 32767).length:Nat):Int)))))] bd fo fun iT cV=>?_
 refine wp_seq (qaA cV (b:=decide (((k:Nat):Int) < (((u.take 32767).length:Nat):Int))) kz (fun cW=>?_) (fun cW=>?_))
 ·
  have gc:=of_decide_eq_true cW
  refine wp_skip (qaa (wp_seq (wp_block (qad [0,1,2,3] kz ?_))))
  obtain ⟨gd,ge,fq,gg,bU⟩:=Slots.get (qfY hu1 32767) (i:=k) (by omega)
  obtain ⟨⟨aE,aV⟩,bf⟩:∃ x,(u.take 32767)[k]? = some x:=⟨_,List.getElem?_eq_getElem (by omega)⟩
  obtain ⟨⟨bP,bQ,dc,de⟩,fG,fH⟩:=(qgb hu2 32767) k aE aV bf
  rw [dc] at bU
  refine qam (qaz cV (t:=26) (A:=A) (m:=((u.take 32767).length)) (q:=((k:Nat):Int)) (d:=21) kz (e:=61) (size:=2) (bytes:=32) kz fq rfl (by omega) fun iU fr=>?_)
  let aH:Value:=.int .u32 aE
  let aI:Value:=.slice bP aV.length bQ
  refine qam (qaH fr (t:=61) (b:=gd) (o:=ge + k * 2) (d:=22) kz (cs:=[aH,aI]) (v:=.agg #[aH,aI]) kz (AtF.move bU bd.step nilM qa7).at_ fun iV ft=>?_)
  let ao:Value:=.int .u32 0
  let ap:Value:=.slice none 0 0
  refine qam (qbo bd ft (d:=8) (cs:=[ao,ap]) kz fun gh iW iX gi gj aj fu fv=>?_)
  refine qam (qaK fu fv (oi:=0) (cs:=[aH,aI]) kz fun iY ak cX fw=>?_)
  refine qae (qaa ?_)
  let ae:Nat × SV:=(8,.p 0 0)
  refine qat [(5,.v (.int .u32 (qar l))),ag,ae,(9,.v (.int .i64 0)),aa,ab,ac] cX fw fun iZ fx=>?_
  refine wp_seq (wp_block ?_)
  let bk:Ob:=⟨gh,0,[.int .u32 aE,.slice bP aV.length bQ],true⟩
  refine wp_loop_ghost (fun n_ a_ w_=>∃ (i:Nat),n_ = out.length - i ∧ (i ≤ out.length) ∧ (∀ q,q < i → (out.getD q (0,[])).1 < aE) ∧ LInv cX 85 [bk] [⟨A_,c_,61,2,out.length,css.flatten⟩] [(5,.v (.int .u32 (qar l))),ag,ae,(9,.v (.int .i64 ((i:Nat):Int))),aa,ab,ac] a_ w_) (out.length - 0) ⟨0,rfl,Nat.zero_le _,fun q h_=>absurd h_ (Nat.not_lt_zero q),fx.pk,cX,Fr.refl _ _ _⟩ ?_
  rintro i6 i7 ja ⟨i,gk,hi,hlt,fy,fz,ah⟩
  refine wp_seq (qcm kz fz fun jb ai aO=>?_)
  let af:Nat × SV:=(9,.v (.int .i64 ((i:Nat):Int)))
  refine qaY [0,1,2,3,4] [(5,.v (.int .u32 (qar l))),ag,ae,af,aa,ab,ac,(27,.v (.bool (decide (((i:Nat):Int) < ((out.length:Nat):Int)))))] 9 (qac (qac (qac (qah (qac (qah (qac (qac (qah (qac qai)))))))))) (fun _ h=>h ▸ aO.cells) rfl fy fun jc df=>?_
  let aJ:Nat × SV:=(43,.v (.bool false))
  let aK:Nat × SV:=(48,.v (.bool (decide (((i:Nat):Int) < ((out.length:Nat):Int)))))
  let bV:Nat × SV:=(60,.v (.agg #[.int .u32 0,.slice none 0 0]))
  let bW:Nat × SV:=(80,.v (.int .i64 ((i:Nat):Int)))
  let bX:Nat × SV:=(81,.v (.agg #[.int .u32 aE,.slice bP aV.length bQ]))
  refine (Bool.eq_false_or_eq_true (decide (((i:Nat):Int) < ((out.length:Nat):Int)))).elim (fun aZ=>?_) (fun aZ=>?_)
  ·
   have gl:=of_decide_eq_true aZ
   let bn:Nat × SV:=(27,.v (.bool true))
   have fA:=df.cast (env':=[(5,.v (.int .u32 (qar l))),ag,ae,af,aa,ab,ac,bn]) (by simp only [aK,aZ]; try rfl)
   refine qaY [5,6,10,11] [(5,.v (.int .u32 (qar l))),ag,ae,af,aa,ab,ac,bn,(28,.v (.slice A_ out.length c_)),(29,.v (.int .i64 ((i:Nat):Int))),(34,.v (.int .u32 aE))] 5 (qac (qac (qac (qah (qac (qah (qac (qac (qah (qac qai)))))))))) (fun _ h=>h ▸ aO.cells) rfl fA fun jd fB=>?_
   obtain ⟨fC,dg⟩:=qcE (aO.own 0 _ rfl) (show 0 < out.length by omega)
   obtain ⟨⟨fh,je⟩,bR⟩:∃ x,out[i]? = some x:=⟨_,List.getElem?_eq_getElem (by omega)⟩
   obtain ⟨jf,jg,fD,gm,jh,ji⟩:=TagsE.get2 (hT.move (((aj.trans ak).trans ah).trans ai).step immM (((aj.trans ak).trans ah).trans ai).to') bR
   have dh:=qhl (aO.own 0 _ rfl) dg (qes (hT.move (((aj.trans ak).trans ah).trans ai).step immM (((aj.trans ak).trans ah).trans ai).to').two fD)
   refine qbk fB (i:=7) (t:=26) (A:=A_) (m:=out.length) (q:=((i:Nat):Int)) (d:=30) kz (e:=61) (size:=2) (bytes:=32) kz (b:=fC) (o:=0) (j:=i) dg (rfl) (by omega) kz kz (qac (qac (qac (qah (qac (qah (qac (qac (qah (qac qai)))))))))) rfl fun jj fE=>?_
   refine qaY [8] [(5,.v (.int .u32 (qar l))),ag,ae,af,aa,ab,ac,bn,(31,.v (.pointer (some ⟨fC,0 + i * 2,none⟩))),(34,.v (.int .u32 aE))] 3 (qac (qac (qac (qah (qac (qah (qac (qac (qah (qac qai)))))))))) (fun _ h=>h ▸ aO.cells) rfl fE fun jk fF=>?_
   refine qbj fF (i:=9) (t:=59) (b:=fC) (o:=0 + i * 2) (d:=32) kz (cs:=[.int .u32 fh]) (v:=.int .u32 fh) kz (fun w' h'=>h' ▸ (At.drop dh 0 1)) kz kz (qac (qac (qac (qah (qac (qah (qac (qac (qah (qac qai)))))))))) rfl fun gn di=>?_
   refine qaY [12,13] [(5,.v (.int .u32 (qar l))),ag,ae,af,aa,ab,ac,(36,.v (.bool (decide (fh < aE))))] 0 (qac (qac (qac (qah (qac (qah (qac (qac (qah (qac qai)))))))))) (fun _ h=>h ▸ aO.cells) rfl di fun gp bo=>?_
   refine qaW kz ?_ _
   refine qaa (qaA bo (b:=decide (fh < aE)) kz (fun bp=>?_) (fun bp=>?_))
   ·
    have fI:=of_decide_eq_true bp
    refine wp_skip (qaa (wp_block (qaq [0,1,2] kz ?_)))
    refine qaj [0,1,2] [] [(5,.v (.int .u32 (qar l))),ag,ae,(9,.v (.int .i64 (IntKind.i64.wrap (((i:Nat):Int) + 1)))),aa,ab,ac] aO bo fun gq bY=>?_
    refine qae (qaw (qaa ?_))
    have dj:IntKind.i64.wrap (((i:Nat):Int) + 1) = ((i + 1:Nat):Int):=qbq (by omega)
    rw [dj] at bY
    exact ⟨out.length - (i + 1),by omega,(i + 1),rfl,by omega,fun q hq=>by rcases Nat.lt_succ_iff_lt_or_eq.1 hq with h_ | h_; exact hlt q h_; rw [h_,qj2 bR]; assumption,bY.pk,aO,(ah.trans ai)⟩
   have fJ:=of_decide_eq_false bp
   refine wp_exit (qay (qay (qaQ (qaa (wp_seq (qcm kz aO fun gt al ax=>?_))))))
   refine qaY [0,1,2,3,4] [(5,.v (.int .u32 (qar l))),ag,ae,af,aa,ab,ac,(43,.v (.bool (decide (aE < (qar l)))))] 15 (qac (qac (qah (qac (qac (qah (qac qai))))))) (fun _ h=>h ▸ ax.cells) rfl bo fun gv bZ=>?_
   refine (Bool.eq_false_or_eq_true (decide (aE < (qar l)))).elim (fun aW=>?_) (fun aW=>?_)
   ·
    have fK:=of_decide_eq_true aW
    have dl:=bZ
    rw [aW] at dl
    refine qaY [5,6,7,8,9,10,11,12,13,14,15,16,17,18,19] [(5,.v (.int .u32 (qar l))),ag,ae,af,aa,ab,ac,(58,.v (.bool true))] 0 (qac (qac (qah (qac (qac (qah (qac qai))))))) (fun _ h=>h ▸ ax.cells) rfl dl fun gw b8=>?_
    refine qaW kz ?_ _
    refine qaa (qbw b8 (b:=true) kz rfl ?_)
    refine wp_exit (qay (qaQ (qaa (qaq [0,1] kz ?_))))
    refine qaj [0,1] [] [(5,.v (.int .u32 (qar l))),ag,aa,ab,(19,.v (.int .i64 (IntKind.i64.wrap (((k:Nat):Int) + 1))))] ax b8 fun gx dp=>?_
    refine qae (qaa ?_)
    obtain ⟨cd,dq,bq⟩:=ax.cutB dp 0 [] [(5,.v (.int .u32 (qar l))),ag,aa,ab,(19,.v (.int .i64 (IntKind.i64.wrap (((k:Nat):Int) + 1))))]
    have dr:IntKind.i64.wrap (((k:Nat):Int) + 1) = ((k + 1:Nat):Int):=qbq (by omega)
    rw [dr] at cd
    exact ⟨(u.take 32767).length - (k + 1),by omega,k + 1,A_,c_,out,css,rfl,by omega,(hT.move (((((aj.trans ak).trans ah).trans ai).trans al).trans bq).step immM (((((aj.trans ak).trans ah).trans ai).trans al).trans bq).to'),by rw [qco bf,← hout]; exact (qj3 ‹_›).symm,by omega,cd.pk,dq,((((((bj.trans aj).trans ak).trans ah).trans ai).trans al).trans bq)⟩
   have fL:=of_decide_eq_false aW
   have dt:=bZ
   rw [aW] at dt
   refine qaY [5,6,7,8,9] [(5,.v (.int .u32 (qar l))),ag,ae,af,aa,ab,ac,aJ,aK] 10 (qac (qac (qah (qac (qac (qah (qac qai))))))) (fun _ h=>h ▸ ax.cells) rfl dt fun gy du=>?_
   have dv:(decide (((i:Nat):Int) < ((out.length:Nat):Int))) = true:=aZ
   have dw:=du.cast (env':=[(5,.v (.int .u32 (qar l))),ag,ae,af,aa,ab,ac,aJ,(48,.v (.bool true))]) (by simp only [aK,dv]; try rfl)
   refine qaY [10,11,15,16] [(5,.v (.int .u32 (qar l))),ag,ae,af,aa,ab,ac,aJ,(48,.v (.bool true)),(49,.v (.slice A_ out.length c_)),(50,.v (.int .i64 ((i:Nat):Int))),(55,.v (.int .u32 aE))] 6 (qac (qac (qah (qac (qac (qah (qac qai))))))) (fun _ h=>h ▸ ax.cells) rfl dw fun gz dx=>?_
   obtain ⟨cY,ce⟩:=qcE (ax.own 0 _ rfl) (show 0 < out.length by omega)
   obtain ⟨⟨bg,gA⟩,aX⟩:∃ x,out[i]? = some x:=⟨_,List.getElem?_eq_getElem (by omega)⟩
   obtain ⟨gB,gC,dy,fM,gD,gE⟩:=TagsE.get2 (hT.move ((((aj.trans ak).trans ah).trans ai).trans al).step immM ((((aj.trans ak).trans ah).trans ai).trans al).to') aX
   have cZ:=qhl (ax.own 0 _ rfl) ce (qes (hT.move ((((aj.trans ak).trans ah).trans ai).trans al).step immM ((((aj.trans ak).trans ah).trans ai).trans al).to').two dy)
   refine qbk dx (i:=12) (t:=26) (A:=A_) (m:=out.length) (q:=((i:Nat):Int)) (d:=51) kz (e:=61) (size:=2) (bytes:=32) kz (b:=cY) (o:=0) (j:=i) ce (rfl) (by omega) kz kz (qac (qac (qah (qac (qac (qah (qac qai))))))) rfl fun gF dA=>?_
   refine qaY [13] [(5,.v (.int .u32 (qar l))),ag,ae,af,aa,ab,ac,aJ,(48,.v (.bool true)),(52,.v (.pointer (some ⟨cY,0 + i * 2,none⟩))),(55,.v (.int .u32 aE))] 4 (qac (qac (qah (qac (qac (qah (qac qai))))))) (fun _ h=>h ▸ ax.cells) rfl dA fun gG dB=>?_
   refine qbj dB (i:=14) (t:=59) (b:=cY) (o:=0 + i * 2) (d:=53) kz (cs:=[.int .u32 bg]) (v:=.int .u32 bg) kz (fun w' h'=>h' ▸ (At.drop cZ 0 1)) kz kz (qac (qac (qah (qac (qac (qah (qac qai))))))) rfl fun gH dC=>?_
   refine qaY [17,18,19] [(5,.v (.int .u32 (qar l))),ag,ae,af,aa,ab,ac,(58,.v (.bool (bg == aE)))] 0 (qac (qac (qah (qac (qac (qah (qac qai))))))) (fun _ h=>h ▸ ax.cells) rfl dC fun gI bt=>?_
   refine qaW kz ?_ _
   refine qaa (qaA bt (b:=bg == aE) kz (fun bu=>?_) (fun bu=>?_))
   ·
    have fN:bg = aE:=by simpa using bu
    refine wp_exit (qay (qaQ (qaa (qaq [0,1] kz ?_))))
    refine qaj [0,1] [] [(5,.v (.int .u32 (qar l))),ag,aa,ab,(19,.v (.int .i64 (IntKind.i64.wrap (((k:Nat):Int) + 1))))] ax bt fun gJ dD=>?_
    refine qae (qaa ?_)
    obtain ⟨cg,dE,bw⟩:=ax.cutB dD 0 [] [(5,.v (.int .u32 (qar l))),ag,aa,ab,(19,.v (.int .i64 (IntKind.i64.wrap (((k:Nat):Int) + 1))))]
    have dF:IntKind.i64.wrap (((k:Nat):Int) + 1) = ((k + 1:Nat):Int):=qbq (by omega)
    rw [dF] at cg
    exact ⟨(u.take 32767).length - (k + 1),by omega,k + 1,A_,c_,out,css,rfl,by omega,(hT.move (((((aj.trans ak).trans ah).trans ai).trans al).trans bw).step immM (((((aj.trans ak).trans ah).trans ai).trans al).trans bw).to'),by rw [qco bf,← hout]; exact (qld (qfX hi hlt (fun _=>by rw [qet aX]; omega)) (by omega) (by rw [qet aX]; omega)).symm,by omega,cg.pk,dE,((((((bj.trans aj).trans ak).trans ah).trans ai).trans al).trans bw)⟩
   have fO:bg ≠ aE:=by simpa using bu
   refine wp_skip (qaa (qad [0,1,2,3,4] kz ?_))
   refine qaj [0,1] [2,3,4] [(5,.v (.int .u32 (qar l))),ae,af,aa,ab,ac,(59,.v (.slice A_ out.length c_)),bV] ax bt fun gK dG=>?_
   refine qby ax dG (k:=0) (e:=61) (size:=2) (len:=1) (cs:=[ao,ap]) (d1:=61) (d:=62) kz (t:=26) (bytes:=32) kz (fun _=>by kernel_rfl) rfl kz (by omega) fun ar aA gL gM au bx ⟨_,dH⟩=>?_
   let aF:Nat × SV:=(6,.v (.slice ar (out.length + 1) aA))
   refine qaj [4] [] [(5,.v (.int .u32 (qar l))),aF,ae,af,aa,ab,ac] bx dH fun gN dI=>?_
   refine qae (qaa ?_)
   refine wp_seq (qat [(5,.v (.int .u32 (qar l))),aF,ae,af,(10,.v (.int .i64 (IntKind.i64.wrap (((out.length + 1:Nat):Int) - 1)))),aa,ab,ac] bx dI fun gO cm=>?_)
   refine wp_block ?_
   have hcl0:=(hT.move (((((aj.trans ak).trans ah).trans ai).trans al).trans au).step immM (((((aj.trans ak).trans ah).trans ai).trans al).trans au).to').len
   have dJ:(⟨ar,aA,61,2,out.length + 1,css.flatten ++ [.int .u32 0,.slice none 0 0]⟩:Rw) = ⟨ar,aA,61,2,out.length + 1,(qcc css [.int .u32 0,.slice none 0 0] out.length).flatten⟩:=by rw [qiF hcl0]
   obtain ⟨cq,aB⟩:=bx.rowEq 0 [⟨ar,aA,61,2,out.length + 1,(qcc css [ao,ap] out.length).flatten⟩] dJ
   have dK:IntKind.i64.wrap (((out.length + 1:Nat):Int) - 1) = ((out.length:Nat):Int):=by rw [wrap_i64 (by omega) (by omega)]; omega
   simp only [aK,dK] at cm
   refine wp_loop_ghost (fun n_ a_ w_=>∃ (j:Nat),n_ = j ∧ (i ≤ j) ∧ (j ≤ out.length) ∧ LInv cq 85 [bk] [⟨ar,aA,61,2,out.length + 1,(qcc css [ao,ap] j).flatten⟩] [(5,.v (.int .u32 (qar l))),aF,ae,af,(10,.v (.int .i64 ((j:Nat):Int))),aa,ab,ac] a_ w_) (out.length) ⟨out.length,rfl,hi,Nat.le_refl _,cm.pk,cq,Fr.refl _ _ _⟩ ?_
   rintro gP gQ gR ⟨j,fP,hij,hjl,dL,aL,ay⟩
   refine wp_seq (qat [(5,.v (.int .u32 (qar l))),aF,ae,af,(10,.v (.int .i64 ((j:Nat):Int))),aa,ab,ac,(68,.v (.bool (decide (((j:Nat):Int) > ((i:Nat):Int)))))] aL dL fun gS bz=>?_)
   refine qaA bz (b:=decide (((j:Nat):Int) > ((i:Nat):Int))) kz (fun bA=>?_) (fun bA=>?_)
   ·
    have fQ:=of_decide_eq_true bA
    refine wp_skip (qaa (wp_seq (wp_block (qaq [0,1,2,3,4,5,6,7,8] kz ?_))))
    refine qaj [0,1,2,3,4] [5,6,7,8] [(5,.v (.int .u32 (qar l))),aF,ae,af,(10,.v (.int .i64 ((j:Nat):Int))),aa,ab,ac,(71,.v (.slice ar (out.length + 1) aA)),(72,.v (.int .i64 ((j:Nat):Int))),(73,.v (.slice ar (out.length + 1) aA)),(75,.v (.int .i64 (IntKind.i64.wrap (((j:Nat):Int) - 1))))] aL bz fun gT dM=>?_
    obtain ⟨dN,cr⟩:=qcE (aL.own 0 _ rfl) (show 0 < out.length + 1 by omega)
    obtain ⟨⟨bS,dO⟩,dP⟩:∃ x,out[j - 1]? = some x:=⟨_,List.getElem?_eq_getElem (by omega)⟩
    obtain ⟨dQ,dR,cu,fR,gU,gV⟩:=TagsE.get2 (hT.move (((((((aj.trans ak).trans ah).trans ai).trans al).trans au).trans aB).trans ay).step immM (((((((aj.trans ak).trans ah).trans ai).trans al).trans au).trans aB).trans ay).to') dP
    have c5:=qhl (aL.own 0 _ rfl) cr (qes (qe7 (hT.move (((((((aj.trans ak).trans ah).trans ai).trans al).trans au).trans aB).trans ay).step immM (((((((aj.trans ak).trans ah).trans ai).trans al).trans au).trans aB).trans ay).to').two rfl j) (qhr (show j - 1 < j by omega) cu))
    refine qam (qaz dM (t:=26) (A:=ar) (m:=(out.length + 1)) (q:=(IntKind.i64.wrap (((j:Nat):Int) - 1))) (d:=76) kz (e:=61) (size:=2) (bytes:=32) kz (b:=dN) (o:=0) (j:=(j - 1)) cr (by rw [wrap_i64 (by omega) (by omega)]; omega) (by omega) fun gW dS=>?_)
    let bB:Value:=.slice dQ dO.length dR
    refine qam (qaH dS (t:=61) (b:=dN) (o:=0 + (j - 1) * 2) (d:=77) kz (cs:=[.int .u32 bS,bB]) (v:=.agg #[.int .u32 bS,bB]) kz c5 fun gX dT=>?_)
    obtain ⟨dU,cv⟩:=qcE (aL.own 0 _ rfl) (show 0 < out.length + 1 by omega)
    refine qam (qaz dT (t:=26) (A:=ar) (m:=(out.length + 1)) (q:=((j:Nat):Int)) (d:=78) kz (e:=61) (size:=2) (bytes:=32) kz (b:=dU) (o:=0) (j:=j) cv (rfl) (by omega) fun gY dV=>?_)
    refine qam (qdB aL dV (k:=0) (g:=dU) (o:=j * 2) (c:=aA) (m:=(out.length + 1)) (size:=2) (e:=61) (A:=ar) (xs:=((qcc css [ao,ap] j).flatten)) (vs:=[.int .u32 bS,bB]) kz rfl cv (by simp only [List.length_cons,List.length_nil]; omega) fun gZ bC cw dW=>?_)
    refine qae (qaw (qaa (qaq [0,1,2] kz ?_)))
    refine qaj [0,1,2] [] [(5,.v (.int .u32 (qar l))),aF,ae,af,(10,.v (.int .i64 (IntKind.i64.wrap (((j:Nat):Int) - 1)))),aa,ab,ac] cw dW fun hC cz=>?_
    refine qae (qaa ?_)
    have dX:(⟨ar,aA,61,2,out.length + 1,qbx ((qcc css [.int .u32 0,.slice none 0 0] j).flatten) (j * 2) [.int .u32 bS,.slice dQ dO.length dR]⟩:Rw) = ⟨ar,aA,61,2,out.length + 1,(qcc css [.int .u32 0,.slice none 0 0] (j - 1)).flatten⟩:=by rw [qhs (hT.move ((((((((aj.trans ak).trans ah).trans ai).trans al).trans au).trans aB).trans ay).trans bC).step immM ((((((((aj.trans ak).trans ah).trans ai).trans al).trans au).trans aB).trans ay).trans bC).to').two rfl (by omega) (by omega) cu]
    obtain ⟨dY,dZ⟩:=cw.rowEq 0 [⟨ar,aA,61,2,out.length + 1,(qcc css [ao,ap] (j - 1)).flatten⟩] dX
    have d5:IntKind.i64.wrap (((j:Nat):Int) - 1) = ((j - 1:Nat):Int):=by rw [wrap_i64 (by omega) (by omega)]; omega
    rw [d5] at cz
    exact ⟨(j - 1),by omega,(j - 1),rfl,by omega,by omega,cz.pk,dY,((ay.trans bC).trans dZ)⟩
   have fS:=of_decide_eq_false bA
   refine wp_exit (qay (qay (qaQ (qaa (qaq [0,1,2,3,4] kz ?_)))))
   refine qaj [0,1,2] [3,4] [(5,.v (.int .u32 (qar l))),aF,aa,ab,ac,(79,.v (.slice ar (out.length + 1) aA)),bW,bX] aL bz fun hJ d6=>?_
   have hji:j = i:=by omega
   have d7:(⟨ar,aA,61,2,out.length + 1,(qcc css [.int .u32 0,.slice none 0 0] j).flatten⟩:Rw) = ⟨ar,aA,61,2,out.length + 1,(qcc css [.int .u32 0,.slice none 0 0] i).flatten⟩:=by rw [hji]
   obtain ⟨cA,aP⟩:=aL.rowEq 0 [⟨ar,aA,61,2,out.length + 1,(qcc css [ao,ap] i).flatten⟩] d7
   obtain ⟨d8,cB⟩:=qcE (cA.own 0 _ rfl) (show 0 < out.length + 1 by omega)
   refine qam (qaz d6 (t:=26) (A:=ar) (m:=(out.length + 1)) (q:=((i:Nat):Int)) (d:=82) kz (e:=61) (size:=2) (bytes:=32) kz (b:=d8) (o:=0) (j:=i) cB (rfl) (by omega) fun hK d9=>?_)
   refine qam (qdB cA d9 (k:=0) (g:=d8) (o:=i * 2) (c:=aA) (m:=(out.length + 1)) (size:=2) (e:=61) (A:=ar) (xs:=((qcc css [ao,ap] i).flatten)) (vs:=[aH,aI]) kz rfl cB (by simp only [List.length_cons,List.length_nil]; omega) fun hZ aQ cC ea=>?_)
   refine qae (qaw (qaa (qaq [0,1] kz ?_)))
   refine qaj [0,1] [] [(5,.v (.int .u32 (qar l))),aF,aa,ab,(19,.v (.int .i64 (IntKind.i64.wrap (((k:Nat):Int) + 1))))] cC ea fun ia eb=>?_
   refine qae (qaa ?_)
   obtain ⟨bD,ec,aR⟩:=cC.cutB eb 0 [] [(5,.v (.int .u32 (qar l))),aF,aa,ab,(19,.v (.int .i64 (IntKind.i64.wrap (((k:Nat):Int) + 1))))]
   have hcl:=(hT.move ((((((((((aj.trans ak).trans ah).trans ai).trans al).trans au).trans aB).trans ay).trans aP).trans aQ).trans aR).step immM ((((((((((aj.trans ak).trans ah).trans ai).trans al).trans au).trans aB).trans ay).trans aP).trans aQ).trans aR).to').len
   have ee:(⟨ar,aA,61,2,out.length + 1,qbx ((qcc css [.int .u32 0,.slice none 0 0] i).flatten) (i * 2) [.int .u32 aE,.slice bP aV.length bQ]⟩:Rw) = ⟨ar,aA,61,2,(out.take i ++ (aE,aV) :: out.drop i).length,(css.take i ++ [.int .u32 aE,.slice bP aV.length bQ] :: css.drop i).flatten⟩:=by rw [qht (hT.move ((((((((((aj.trans ak).trans ah).trans ai).trans al).trans au).trans aB).trans ay).trans aP).trans aQ).trans aR).step immM ((((((((((aj.trans ak).trans ah).trans ai).trans al).trans au).trans aB).trans ay).trans aP).trans aQ).trans aR).to').two rfl (by omega) rfl,qc4 (aE,aV) hi]
   obtain ⟨bE,bF⟩:=ec.rowEq 0 [⟨ar,aA,61,2,(out.take i ++ (aE,aV) :: out.drop i).length,(css.take i ++ [aH,aI] :: css.drop i).flatten⟩] ee
   have ef:IntKind.i64.wrap (((k:Nat):Int) + 1) = ((k + 1:Nat):Int):=qbq (by omega)
   rw [ef] at bD
   have eg:out.length + 1 = (out.take i ++ (aE,aV) :: out.drop i).length:=qc4 (aE,aV) hi
   simp only [aF,eg] at bD
   exact ⟨(u.take 32767).length - (k + 1),by omega,k + 1,ar,aA,(out.take i ++ (aE,aV) :: out.drop i),(css.take i ++ [aH,aI] :: css.drop i),rfl,by omega,(hT.move (((((((((((aj.trans ak).trans ah).trans ai).trans al).trans au).trans aB).trans ay).trans aP).trans aQ).trans aR).trans bF).step immM (((((((((((aj.trans ak).trans ah).trans ai).trans al).trans au).trans aB).trans ay).trans aP).trans aQ).trans aR).trans bF).to').ins ⟨⟨bP,bQ,rfl,(de.move bE.step nilM bE.imm)⟩,fG,fH⟩ hi,by rw [qco bf,← hout]; exact (qj4 (qfX hi hlt (fun _=>by first | (rw [qet bR]; omega) | (rw [qet aX]; omega))) ‹_› (fun _=>by first | (rw [qet bR]; omega) | (rw [qet aX]; omega))).symm,by rw [← qc4 (aE,aV) hi]; omega,bD.pk,bE,((((((((((((bj.trans aj).trans ak).trans ah).trans ai).trans al).trans au).trans aB).trans ay).trans aP).trans aQ).trans aR).trans bF)⟩
  have fT:=of_decide_eq_false aZ
  have eh:=df.cast (env':=[(5,.v (.int .u32 (qar l))),ag,ae,af,aa,ab,ac,(27,.v (.bool false))]) (by simp only [aK,aZ]; try rfl)
  refine qaY [5,6,7,8,9,10,11,12,13] [(5,.v (.int .u32 (qar l))),ag,ae,af,aa,ab,ac,(36,.v (.bool false))] 0 (qac (qac (qac (qah (qac (qah (qac (qac (qah (qac qai)))))))))) (fun _ h=>h ▸ aO.cells) rfl eh fun ib cE=>?_
  refine qaW kz ?_ _
  refine qaa (qau cE (b:=false) kz rfl ?_)
  refine wp_exit (qay (qay (qaQ (qaa (wp_seq (qcm kz aO fun ic am aM=>?_))))))
  refine qaY [0,1,2,3,4] [(5,.v (.int .u32 (qar l))),ag,ae,af,aa,ab,ac,(43,.v (.bool (decide (aE < (qar l)))))] 15 (qac (qac (qah (qac (qac (qah (qac qai))))))) (fun _ h=>h ▸ aM.cells) rfl cE fun ig cG=>?_
  refine (Bool.eq_false_or_eq_true (decide (aE < (qar l)))).elim (fun aY=>?_) (fun aY=>?_)
  ·
   have fV:=of_decide_eq_true aY
   have ei:=cG
   rw [aY] at ei
   refine qaY [5,6,7,8,9,10,11,12,13,14,15,16,17,18,19] [(5,.v (.int .u32 (qar l))),ag,ae,af,aa,ab,ac,(58,.v (.bool true))] 0 (qac (qac (qah (qac (qac (qah (qac qai))))))) (fun _ h=>h ▸ aM.cells) rfl ei fun ii cH=>?_
   refine qaW kz ?_ _
   refine qaa (qbw cH (b:=true) kz rfl ?_)
   refine wp_exit (qay (qaQ (qaa (qaq [0,1] kz ?_))))
   refine qaj [0,1] [] [(5,.v (.int .u32 (qar l))),ag,aa,ab,(19,.v (.int .i64 (IntKind.i64.wrap (((k:Nat):Int) + 1))))] aM cH fun ij ej=>?_
   refine qae (qaa ?_)
   obtain ⟨cI,ek,bG⟩:=aM.cutB ej 0 [] [(5,.v (.int .u32 (qar l))),ag,aa,ab,(19,.v (.int .i64 (IntKind.i64.wrap (((k:Nat):Int) + 1))))]
   have em:IntKind.i64.wrap (((k:Nat):Int) + 1) = ((k + 1:Nat):Int):=qbq (by omega)
   rw [em] at cI
   exact ⟨(u.take 32767).length - (k + 1),by omega,k + 1,A_,c_,out,css,rfl,by omega,(hT.move (((((aj.trans ak).trans ah).trans ai).trans am).trans bG).step immM (((((aj.trans ak).trans ah).trans ai).trans am).trans bG).to'),by rw [qco bf,← hout]; exact (qj3 ‹_›).symm,by omega,cI.pk,ek,((((((bj.trans aj).trans ak).trans ah).trans ai).trans am).trans bG)⟩
  have fW:=of_decide_eq_false aY
  have eo:=cG
  rw [aY] at eo
  refine qaY [5,6,7,8,9] [(5,.v (.int .u32 (qar l))),ag,ae,af,aa,ab,ac,aJ,aK] 10 (qac (qac (qah (qac (qac (qah (qac qai))))))) (fun _ h=>h ▸ aM.cells) rfl eo fun ik eu=>?_
  have ev:(decide (((i:Nat):Int) < ((out.length:Nat):Int))) = false:=aZ
  have ew:=eu.cast (env':=[(5,.v (.int .u32 (qar l))),ag,ae,af,aa,ab,ac,aJ,(48,.v (.bool false))]) (by simp only [aK,ev]; try rfl)
  refine qaY [10,11,12,13,14,15,16,17,18,19] [(5,.v (.int .u32 (qar l))),ag,ae,af,aa,ab,ac,(58,.v (.bool false))] 0 (qac (qac (qah (qac (qac (qah (qac qai))))))) (fun _ h=>h ▸ aM.cells) rfl ew fun il cJ=>?_
  refine qaW kz ?_ _
  refine qaa (qau cJ (b:=false) kz rfl ?_)
  refine wp_skip (qaa (qad [0,1,2,3,4] kz ?_))
  refine qaj [0,1] [2,3,4] [(5,.v (.int .u32 (qar l))),ae,af,aa,ab,ac,(59,.v (.slice A_ out.length c_)),bV] aM cJ fun im ey=>?_
  refine qby aM ey (k:=0) (e:=61) (size:=2) (len:=1) (cs:=[ao,ap]) (d1:=61) (d:=62) kz (t:=26) (bytes:=32) kz (fun _=>by kernel_rfl) rfl kz (by omega) fun av aC io ip aw bH ⟨_,ez⟩=>?_
  let aG:Nat × SV:=(6,.v (.slice av (out.length + 1) aC))
  refine qaj [4] [] [(5,.v (.int .u32 (qar l))),aG,ae,af,aa,ab,ac] bH ez fun iq eB=>?_
  refine qae (qaa ?_)
  refine wp_seq (qat [(5,.v (.int .u32 (qar l))),aG,ae,af,(10,.v (.int .i64 (IntKind.i64.wrap (((out.length + 1:Nat):Int) - 1)))),aa,ab,ac] bH eB fun ir cK=>?_)
  refine wp_block ?_
  have hcl0:=(hT.move (((((aj.trans ak).trans ah).trans ai).trans am).trans aw).step immM (((((aj.trans ak).trans ah).trans ai).trans am).trans aw).to').len
  have eC:(⟨av,aC,61,2,out.length + 1,css.flatten ++ [.int .u32 0,.slice none 0 0]⟩:Rw) = ⟨av,aC,61,2,out.length + 1,(qcc css [.int .u32 0,.slice none 0 0] out.length).flatten⟩:=by rw [qiF hcl0]
  obtain ⟨cL,aD⟩:=bH.rowEq 0 [⟨av,aC,61,2,out.length + 1,(qcc css [ao,ap] out.length).flatten⟩] eC
  have eD:IntKind.i64.wrap (((out.length + 1:Nat):Int) - 1) = ((out.length:Nat):Int):=by rw [wrap_i64 (by omega) (by omega)]; omega
  simp only [aK,eD] at cK
  refine wp_loop_ghost (fun n_ a_ w_=>∃ (j:Nat),n_ = j ∧ (i ≤ j) ∧ (j ≤ out.length) ∧ LInv cL 85 [bk] [⟨av,aC,61,2,out.length + 1,(qcc css [ao,ap] j).flatten⟩] [(5,.v (.int .u32 (qar l))),aG,ae,af,(10,.v (.int .i64 ((j:Nat):Int))),aa,ab,ac] a_ w_) (out.length) ⟨out.length,rfl,hi,Nat.le_refl _,cK.pk,cL,Fr.refl _ _ _⟩ ?_
  rintro iu iv iw ⟨j,fX,hij,hjl,eE,aN,az⟩
  refine wp_seq (qat [(5,.v (.int .u32 (qar l))),aG,ae,af,(10,.v (.int .i64 ((j:Nat):Int))),aa,ab,ac,(68,.v (.bool (decide (((j:Nat):Int) > ((i:Nat):Int)))))] aN eE fun ix bI=>?_)
  refine qaA bI (b:=decide (((j:Nat):Int) > ((i:Nat):Int))) kz (fun bJ=>?_) (fun bJ=>?_)
  ·
   have fY:=of_decide_eq_true bJ
   refine wp_skip (qaa (wp_seq (wp_block (qaq [0,1,2,3,4,5,6,7,8] kz ?_))))
   refine qaj [0,1,2,3,4] [5,6,7,8] [(5,.v (.int .u32 (qar l))),aG,ae,af,(10,.v (.int .i64 ((j:Nat):Int))),aa,ab,ac,(71,.v (.slice av (out.length + 1) aC)),(72,.v (.int .i64 ((j:Nat):Int))),(73,.v (.slice av (out.length + 1) aC)),(75,.v (.int .i64 (IntKind.i64.wrap (((j:Nat):Int) - 1))))] aN bI fun iy eF=>?_
   obtain ⟨eG,cM⟩:=qcE (aN.own 0 _ rfl) (show 0 < out.length + 1 by omega)
   obtain ⟨⟨bT,eH⟩,eI⟩:∃ x,out[j - 1]? = some x:=⟨_,List.getElem?_eq_getElem (by omega)⟩
   obtain ⟨eJ,eK,cN,fZ,iz,iA⟩:=TagsE.get2 (hT.move (((((((aj.trans ak).trans ah).trans ai).trans am).trans aw).trans aD).trans az).step immM (((((((aj.trans ak).trans ah).trans ai).trans am).trans aw).trans aD).trans az).to') eI
   have da:=qhl (aN.own 0 _ rfl) cM (qes (qe7 (hT.move (((((((aj.trans ak).trans ah).trans ai).trans am).trans aw).trans aD).trans az).step immM (((((((aj.trans ak).trans ah).trans ai).trans am).trans aw).trans aD).trans az).to').two rfl j) (qhr (show j - 1 < j by omega) cN))
   refine qam (qaz eF (t:=26) (A:=av) (m:=(out.length + 1)) (q:=(IntKind.i64.wrap (((j:Nat):Int) - 1))) (d:=76) kz (e:=61) (size:=2) (bytes:=32) kz (b:=eG) (o:=0) (j:=(j - 1)) cM (by rw [wrap_i64 (by omega) (by omega)]; omega) (by omega) fun iB eM=>?_)
   let bK:Value:=.slice eJ eH.length eK
   refine qam (qaH eM (t:=61) (b:=eG) (o:=0 + (j - 1) * 2) (d:=77) kz (cs:=[.int .u32 bT,bK]) (v:=.agg #[.int .u32 bT,bK]) kz da fun iC eN=>?_)
   obtain ⟨eO,cO⟩:=qcE (aN.own 0 _ rfl) (show 0 < out.length + 1 by omega)
   refine qam (qaz eN (t:=26) (A:=av) (m:=(out.length + 1)) (q:=((j:Nat):Int)) (d:=78) kz (e:=61) (size:=2) (bytes:=32) kz (b:=eO) (o:=0) (j:=j) cO (rfl) (by omega) fun iD eP=>?_)
   refine qam (qdB aN eP (k:=0) (g:=eO) (o:=j * 2) (c:=aC) (m:=(out.length + 1)) (size:=2) (e:=61) (A:=av) (xs:=((qcc css [ao,ap] j).flatten)) (vs:=[.int .u32 bT,bK]) kz rfl cO (by simp only [List.length_cons,List.length_nil]; omega) fun iE bL cP eQ=>?_)
   refine qae (qaw (qaa (qaq [0,1,2] kz ?_)))
   refine qaj [0,1,2] [] [(5,.v (.int .u32 (qar l))),aG,ae,af,(10,.v (.int .i64 (IntKind.i64.wrap (((j:Nat):Int) - 1)))),aa,ab,ac] cP eQ fun iF cQ=>?_
   refine qae (qaa ?_)
   have eR:(⟨av,aC,61,2,out.length + 1,qbx ((qcc css [.int .u32 0,.slice none 0 0] j).flatten) (j * 2) [.int .u32 bT,.slice eJ eH.length eK]⟩:Rw) = ⟨av,aC,61,2,out.length + 1,(qcc css [.int .u32 0,.slice none 0 0] (j - 1)).flatten⟩:=by rw [qhs (hT.move ((((((((aj.trans ak).trans ah).trans ai).trans am).trans aw).trans aD).trans az).trans bL).step immM ((((((((aj.trans ak).trans ah).trans ai).trans am).trans aw).trans aD).trans az).trans bL).to').two rfl (by omega) (by omega) cN]
   obtain ⟨eS,eT⟩:=cP.rowEq 0 [⟨av,aC,61,2,out.length + 1,(qcc css [ao,ap] (j - 1)).flatten⟩] eR
   have eU:IntKind.i64.wrap (((j:Nat):Int) - 1) = ((j - 1:Nat):Int):=by rw [wrap_i64 (by omega) (by omega)]; omega
   rw [eU] at cQ
   exact ⟨(j - 1),by omega,(j - 1),rfl,by omega,by omega,cQ.pk,eS,((az.trans bL).trans eT)⟩
  have f5:=of_decide_eq_false bJ
  refine wp_exit (qay (qay (qaQ (qaa (qaq [0,1,2,3,4] kz ?_)))))
  refine qaj [0,1,2] [3,4] [(5,.v (.int .u32 (qar l))),aG,aa,ab,ac,(79,.v (.slice av (out.length + 1) aC)),bW,bX] aN bI fun iG eV=>?_
  have hji:j = i:=by omega
  have eW:(⟨av,aC,61,2,out.length + 1,(qcc css [.int .u32 0,.slice none 0 0] j).flatten⟩:Rw) = ⟨av,aC,61,2,out.length + 1,(qcc css [.int .u32 0,.slice none 0 0] i).flatten⟩:=by rw [hji]
  obtain ⟨cR,aS⟩:=aN.rowEq 0 [⟨av,aC,61,2,out.length + 1,(qcc css [ao,ap] i).flatten⟩] eW
  obtain ⟨eX,cS⟩:=qcE (cR.own 0 _ rfl) (show 0 < out.length + 1 by omega)
  refine qam (qaz eV (t:=26) (A:=av) (m:=(out.length + 1)) (q:=((i:Nat):Int)) (d:=82) kz (e:=61) (size:=2) (bytes:=32) kz (b:=eX) (o:=0) (j:=i) cS (rfl) (by omega) fun iH eY=>?_)
  refine qam (qdB cR eY (k:=0) (g:=eX) (o:=i * 2) (c:=aC) (m:=(out.length + 1)) (size:=2) (e:=61) (A:=av) (xs:=((qcc css [ao,ap] i).flatten)) (vs:=[aH,aI]) kz rfl cS (by simp only [List.length_cons,List.length_nil]; omega) fun iI aT cU eZ=>?_)
  refine qae (qaw (qaa (qaq [0,1] kz ?_)))
  refine qaj [0,1] [] [(5,.v (.int .u32 (qar l))),aG,aa,ab,(19,.v (.int .i64 (IntKind.i64.wrap (((k:Nat):Int) + 1))))] cU eZ fun iJ e9=>?_
  refine qae (qaa ?_)
  obtain ⟨bM,fa,aU⟩:=cU.cutB e9 0 [] [(5,.v (.int .u32 (qar l))),aG,aa,ab,(19,.v (.int .i64 (IntKind.i64.wrap (((k:Nat):Int) + 1))))]
  have hcl:=(hT.move ((((((((((aj.trans ak).trans ah).trans ai).trans am).trans aw).trans aD).trans az).trans aS).trans aT).trans aU).step immM ((((((((((aj.trans ak).trans ah).trans ai).trans am).trans aw).trans aD).trans az).trans aS).trans aT).trans aU).to').len
  have fb:(⟨av,aC,61,2,out.length + 1,qbx ((qcc css [.int .u32 0,.slice none 0 0] i).flatten) (i * 2) [.int .u32 aE,.slice bP aV.length bQ]⟩:Rw) = ⟨av,aC,61,2,(out.take i ++ (aE,aV) :: out.drop i).length,(css.take i ++ [.int .u32 aE,.slice bP aV.length bQ] :: css.drop i).flatten⟩:=by rw [qht (hT.move ((((((((((aj.trans ak).trans ah).trans ai).trans am).trans aw).trans aD).trans az).trans aS).trans aT).trans aU).step immM ((((((((((aj.trans ak).trans ah).trans ai).trans am).trans aw).trans aD).trans az).trans aS).trans aT).trans aU).to').two rfl (by omega) rfl,qc4 (aE,aV) hi]
  obtain ⟨bN,bO⟩:=fa.rowEq 0 [⟨av,aC,61,2,(out.take i ++ (aE,aV) :: out.drop i).length,(css.take i ++ [aH,aI] :: css.drop i).flatten⟩] fb
  have fe:IntKind.i64.wrap (((k:Nat):Int) + 1) = ((k + 1:Nat):Int):=qbq (by omega)
  rw [fe] at bM
  have ff:out.length + 1 = (out.take i ++ (aE,aV) :: out.drop i).length:=qc4 (aE,aV) hi
  simp only [aG,ff] at bM
  exact ⟨(u.take 32767).length - (k + 1),by omega,k + 1,av,aC,(out.take i ++ (aE,aV) :: out.drop i),(css.take i ++ [aH,aI] :: css.drop i),rfl,by omega,(hT.move (((((((((((aj.trans ak).trans ah).trans ai).trans am).trans aw).trans aD).trans az).trans aS).trans aT).trans aU).trans bO).step immM (((((((((((aj.trans ak).trans ah).trans ai).trans am).trans aw).trans aD).trans az).trans aS).trans aT).trans aU).trans bO).to').ins ⟨⟨bP,bQ,rfl,(de.move bN.step nilM bN.imm)⟩,fG,fH⟩ hi,by rw [qco bf,← hout]; exact (qj4 (qfX hi hlt (fun h_=>absurd h_ (by omega))) ‹_› (fun h_=>absurd h_ (by omega))).symm,by rw [← qc4 (aE,aV) hi]; omega,bM.pk,bN,((((((((((((bj.trans aj).trans ak).trans ah).trans ai).trans am).trans aw).trans aD).trans az).trans aS).trans aT).trans aU).trans bO)⟩
 have f7:=of_decide_eq_false cW
 refine wp_exit (qay (qay (qaQ (qaa (qat [(4,.v (.slice A_ out.length c_))] bd cV fun iK fg=>?_)))))
 refine wp_ret (qaD fg bd.cells (v:=.slice A_ out.length c_) kz ?_)
 exact qic bd (k:=0) rfl rfl rfl hT (by omega) (by rw [hout,List.take_of_length_le (by omega)]; rfl)
def qkG (d:Nat):Prop:=∀ (cf:List Value) (f:Fld) (ct:List Value) (t:Tree) (w:World) (F:Nat → Nat → Prop),FldR w F cf f → f.depth ≤ d → TreeR w F ct t →
  Calls Tryz.prog 30 #[.agg cf.toArray,.agg ct.toArray] w (qcK w (.bool (f.usual t)))
theorem qiq {d:Nat} (hu:qkG d) (cf:List Value) (f:Fld) (ct:List Value) (t:Tree) (w:World) (F:Nat → Nat → Prop) (hf:FldR w F cf f) (hd:f.depth ≤ d + 1) (ht:TreeR w F ct t) :
  Calls Tryz.prog 30 #[.agg cf.toArray,.agg ct.toArray] w (qcK w (.bool (f.usual t))):=by
 obtain ⟨k1,y2,y3,y4,y5,y6,y7,l8,A9,cC,d5,rfl,rfl,d6,eV⟩:=hf.open_
 have eW:=d6.small
 obtain ⟨aH,ak,aQ,bH,bG,dZ,d7,eX,eY,d8,d9,fL,rfl,rfl,eZ,fM,ir,fN⟩:=ht.open_
 have e9:=eZ.small
 have fa:=fM.small
 refine enter (n:=91) Tryz.func30 rfl Tryz.ntmps30 kz fun a hE=>?_
 have hW:=WOk.start w Nil
 refine qad [0,1,2] kz ?_
 refine qam (qbt hW hE (d:=2) (cs:=(z13 k1 y2 y3 y4 y5 y6 y7 A9 l8.length cC)) kz fun fO iu iv fP fQ fR ea eb=>?_)
 let aI:Value:=.int .i64 aH
 let aR:Value:=.slice dZ ak.length d7
 let aS:Value:=.slice eX bH.length eY
 let aJ:Value:=.slice d8 bG.length d9
 refine qam (qbt ea eb (d:=3) (cs:=[aI,aR,.bool aQ,aS,aJ]) kz fun fS iw ix fT fV fW aa ec=>?_)
 let ab:Nat × SV:=(2,.p 0 0)
 let ac:Nat × SV:=(3,.p 1 0)
 refine qaj [2] [] [ab,ac] aa ec fun iy ee=>?_
 refine qae (qaa ?_)
 refine wp_seq ?_
 let ao:Nat × SV:=(10,.v (.int .i64 k1))
 refine qat [ab,ac,ao] aa ee fun iz ef=>?_
 refine wp_block (qat [ab,ac,ao,(11,.v (.bool (k1 == 0)))] aa ef fun iA bZ=>?_)
 refine qaA bZ (b:=k1 == 0) kz (fun b8=>?_) (fun b8=>?_)
 ·
  have fX:k1 = 0:=by simpa using b8
  refine qat [(4,.v (.bool ((IntKind.i64.wrap (BitVec.ofInt 64 aH &&& BitVec.ofInt 64 1).toNat) == y6)))] aa bZ fun iB eg=>?_
  refine wp_ret (qa2 (qaE (qaD eg aa.cells (v:=.bool ((IntKind.i64.wrap (BitVec.ofInt 64 aH &&& BitVec.ofInt 64 1).toNat) == y6)) kz ?_)))
  refine ⟨congrArg (fun b_=>Ending.returned (Value.bool b_)) ?_,aa.step⟩
  first
   | (rw [qda ‹_›]; simp only [and1]; done)
   | (rw [qbY ‹_› ‹_›]; exact qbU hz (by omega); done)
   | (rw [qbY ‹_› ‹_›]; exact qbH (k:=k) (by omega) (by omega) ‹_›; done)
   | (rw [qcp ‹_› ‹_› (by omega) ‹_›]; done)
   | (rw [qcG ‹_› ‹_› (by omega) ‹_›]; done)
   | (rw [qcH ‹_› ‹_› ‹_› ‹_› ‹_›]; done)
   | (rw [qcy ‹_› ‹_› ‹_› ‹_› ‹_› ‹_›,huu,qca (by omega),Bool.true_and]; done)
   | (rw [qb9 ‹_› ‹_› ‹_› ‹_› ‹_› ‹_›]; done)
 have fY:k1 ≠ 0:=by simpa using b8
 refine qat [ab,ac,ao,(19,.v (.bool (k1 == 7)))] aa bZ fun iC cd=>?_
 let aT:Ob:=⟨fO,0,(z13 k1 y2 y3 y4 y5 y6 y7 A9 l8.length cC),true⟩
 let aU:Ob:=⟨fS,0,[.int .i64 aH,.slice dZ ak.length d7,.bool aQ,.slice eX bH.length eY,.slice d8 bG.length d9],true⟩
 refine qaA cd (b:=k1 == 7) kz (fun ce=>?_) (fun ce=>?_)
 ·
  have fZ:k1 = 7:=by simpa using ce
  refine wp_seq ?_
  let af:Nat × SV:=(22,.v (.slice dZ ak.length d7))
  let ag:Nat × SV:=(23,.v (.int .i64 ((ak.length:Nat):Int)))
  refine qat [af,ag,(24,.v (.int .i64 0))] aa cd fun iD eh=>?_
  refine wp_block (wp_loop_ghost (fun n_ a_ w_=>∃ (k:Nat),n_ = ak.length - k ∧ k ≤ ak.length ∧ (∀ q,q < k → q < 16 → (((ak.getD q 0).toNat:Nat):Int) = 0) ∧ LInv aa 91 [aT,aU] [] [af,ag,(24,.v (.int .i64 ((k:Nat):Int)))] a_ w_) (ak.length) ⟨0,by omega,by omega,fun q h_=>absurd h_ (Nat.not_lt_zero q),eh.pk,aa,Fr.refl _ _ _⟩ ?_)
  rintro iE iF iG ⟨k,f5,f7,hz,ei,ah,cE⟩
  let al:Nat × SV:=(24,.v (.int .i64 ((k:Nat):Int)))
  refine qat [af,ag,al,(25,.v (.bool (decide (((k:Nat):Int) < ((ak.length:Nat):Int)))))] ah ei fun iH cg=>?_
  refine wp_seq (qaA cg (b:=decide (((k:Nat):Int) < ((ak.length:Nat):Int))) kz (fun cm=>?_) (fun cm=>?_))
  ·
   have f8:=of_decide_eq_true cm
   refine wp_skip (qaa (wp_seq (wp_block (qad [0,1,2,3,4] kz ?_))))
   refine qaj [0] [1,2,3,4] [af,ag,al,(26,.v (.int .i64 ((k:Nat):Int)))] ah cg fun iI ej=>?_
   obtain ⟨f9,ga,ek,gb,cG⟩:=Slots.get eZ (i:=k) (by omega)
   refine qam (qaz ej (t:=24) (A:=dZ) (m:=ak.length) (q:=((k:Nat):Int)) (d:=27) kz (e:=5) (size:=1) (bytes:=1) kz ek rfl (by omega) fun iJ em=>?_)
   refine qam (qaH em (t:=5) (b:=f9) (o:=ga + k * 1) (d:=28) kz (cs:=[.int .u8 ((ak.getD k 0).toNat:Int)]) (v:=.int .u8 ((ak.getD k 0).toNat:Int)) kz (AtF.move cG ah.step nilM qa7).at_ fun iK eo=>?_)
   let aK:Nat × SV:=(6,.v (.int .u8 ((ak.getD k 0).toNat:Int)))
   refine qaj [3,4] [] [(5,.v (.int .i64 ((k:Nat):Int))),aK,af,ag,al] ah eo fun iL eu=>?_
   refine qae (qaa ?_)
   refine qad [0,1,2,3,4,5] kz ?_
   refine qaj [0,1,2] [3,4,5] [aK,af,ag,al,(31,.v (.bool (decide (((k:Nat):Int) < 16))))] ah eu fun iM cH=>?_
   refine (Bool.eq_false_or_eq_true (decide (((k:Nat):Int) < 16))).elim (fun aV=>?_) (fun aV=>?_)
   ·
    have gc:=of_decide_eq_true aV
    have ev:=cH
    rw [aV] at ev
    refine qaj [3,4,5] [] [af,ag,al,(34,.v (.bool (((ak.getD k 0).toNat:Int) != 0)))] ah ev fun iN aW=>?_
    refine qae (qaa ?_)
    refine qaA aW (b:=((ak.getD k 0).toNat:Int) != 0) kz (fun aX=>?_) (fun aX=>?_)
    ·
     have fb:((ak.getD k 0).toNat:Int) ≠ 0:=by simpa using aX
     refine qat [(4,.v (.bool false))] ah aW fun gd cI=>?_
     refine wp_ret (qa2 (qaE (qaE (qa2 (qaE (qa2 (qaE (qaD cI ah.cells (v:=.bool false) kz ?_))))))))
     refine ⟨congrArg (fun b_=>Ending.returned (Value.bool b_)) ?_,ah.step⟩
     first
      | (rw [qda ‹_›]; simp only [and1]; done)
      | (rw [qbY ‹_› ‹_›]; exact qbU hz (by omega); done)
      | (rw [qbY ‹_› ‹_›]; exact qbH (k:=k) (by omega) (by omega) ‹_›; done)
      | (rw [qcp ‹_› ‹_› (by omega) ‹_›]; done)
      | (rw [qcG ‹_› ‹_› (by omega) ‹_›]; done)
      | (rw [qcH ‹_› ‹_› ‹_› ‹_› ‹_›]; done)
      | (rw [qcy ‹_› ‹_› ‹_› ‹_› ‹_› ‹_›,huu,qca (by omega),Bool.true_and]; done)
      | (rw [qb9 ‹_› ‹_› ‹_› ‹_› ‹_› ‹_›]; done)
    have fe:((ak.getD k 0).toNat:Int) = 0:=by simpa using aX
    refine wp_skip (qaw (qaa (qaq [0,1] kz ?_)))
    refine qaj [0,1] [] [af,ag,(24,.v (.int .i64 (IntKind.i64.wrap (((k:Nat):Int) + 1))))] ah aW fun ge bI=>?_
    refine qae (qaa ?_)
    have cJ:IntKind.i64.wrap (((k:Nat):Int) + 1) = ((k + 1:Nat):Int):=qbq (by omega)
    rw [cJ] at bI
    exact ⟨ak.length - (k + 1),by omega,k + 1,rfl,by omega,fun q hq cK=>by rcases Nat.lt_succ_iff_lt_or_eq.1 hq with h_ | h_; exact hz q h_ cK; rw [h_] at cK ⊢; first | assumption | omega,bI.pk,ah,cE⟩
   have ff:=of_decide_eq_false aV
   have cL:=cH
   rw [aV] at cL
   refine qaj [3,4,5] [] [af,ag,al,(34,.v (.bool false))] ah cL fun gg bJ=>?_
   refine qae (qaa ?_)
   refine qau bJ (b:=false) kz rfl ?_
   refine wp_skip (qaw (qaa (qaq [0,1] kz ?_)))
   refine qaj [0,1] [] [af,ag,(24,.v (.int .i64 (IntKind.i64.wrap (((k:Nat):Int) + 1))))] ah bJ fun gh bK=>?_
   refine qae (qaa ?_)
   have cM:IntKind.i64.wrap (((k:Nat):Int) + 1) = ((k + 1:Nat):Int):=qbq (by omega)
   rw [cM] at bK
   exact ⟨ak.length - (k + 1),by omega,k + 1,rfl,by omega,fun q hq cK=>by rcases Nat.lt_succ_iff_lt_or_eq.1 hq with h_ | h_; exact hz q h_ cK; rw [h_] at cK ⊢; first | assumption | omega,bK.pk,ah,cE⟩
  have fg:=of_decide_eq_false cm
  refine wp_exit (qay (qay (qaQ (qaa (qat [(4,.v (.bool true))] ah cg fun gi cN=>?_)))))
  refine wp_ret (qa2 (qaE (qaD cN ah.cells (v:=.bool true) kz ?_)))
  refine ⟨congrArg (fun b_=>Ending.returned (Value.bool b_)) ?_,ah.step⟩
  first
   | (rw [qda ‹_›]; simp only [and1]; done)
   | (rw [qbY ‹_› ‹_›]; exact qbU hz (by omega); done)
   | (rw [qbY ‹_› ‹_›]; exact qbH (k:=k) (by omega) (by omega) ‹_›; done)
   | (rw [qcp ‹_› ‹_› (by omega) ‹_›]; done)
   | (rw [qcG ‹_› ‹_› (by omega) ‹_›]; done)
   | (rw [qcH ‹_› ‹_› ‹_› ‹_› ‹_›]; done)
   | (rw [qcy ‹_› ‹_› ‹_› ‹_› ‹_› ‹_›,huu,qca (by omega),Bool.true_and]; done)
   | (rw [qb9 ‹_› ‹_› ‹_› ‹_› ‹_› ‹_›]; done)
 have fh:k1 ≠ 7:=by simpa using ce
 refine wp_seq (qat [ab,ac,ao,(36,.v (.bool (k1 == 8)))] aa cd fun gj aL=>?_)
 let bL:Env:=[(3,.p 1 0),(41,.v (.bool (decide (y4 ≥ 0))))]
 let bM:Env:=[(4,.v (.bool (((ak.length:Nat):Int) == 0)))]
 refine qaA aL (b:=k1 == 8) kz (fun aM=>?_) (fun aM=>?_)
 ·
  have fi:k1 = 8:=by simpa using aM
  refine wp_skip (qaa (qbw aL (b:=k1 == 8) kz (aM) ?_))
  refine wp_seq (qat bL aa aL fun gk aY=>?_)
  refine qaA aY (b:=decide (y4 ≥ 0)) kz (fun aZ=>?_) (fun aZ=>?_)
  ·
   have fj:=of_decide_eq_true aZ
   refine qat [(4,.v (.bool aQ))] aa aY fun gl cO=>?_
   refine wp_ret (qaE (qa2 (qaE (qaD cO aa.cells (v:=.bool aQ) kz ?_))))
   refine ⟨congrArg (fun b_=>Ending.returned (Value.bool b_)) ?_,aa.step⟩
   first
    | (rw [qda ‹_›]; simp only [and1]; done)
    | (rw [qbY ‹_› ‹_›]; exact qbU hz (by omega); done)
    | (rw [qbY ‹_› ‹_›]; exact qbH (k:=k) (by omega) (by omega) ‹_›; done)
    | (rw [qcp ‹_› ‹_› (by omega) ‹_›]; done)
    | (rw [qcG ‹_› ‹_› (by omega) ‹_›]; done)
    | (rw [qcH ‹_› ‹_› ‹_› ‹_› ‹_›]; done)
    | (rw [qcy ‹_› ‹_› ‹_› ‹_› ‹_› ‹_›,huu,qca (by omega),Bool.true_and]; done)
    | (rw [qb9 ‹_› ‹_› ‹_› ‹_› ‹_› ‹_›]; done)
  have fk:=of_decide_eq_false aZ
  refine wp_skip (qaa (qat bM aa aY fun gm cP=>?_))
  refine wp_ret (qa2 (qaE (qaD cP aa.cells (v:=.bool (((ak.length:Nat):Int) == 0)) kz ?_)))
  refine ⟨congrArg (fun b_=>Ending.returned (Value.bool b_)) ?_,aa.step⟩
  first
   | (rw [qda ‹_›]; simp only [and1]; done)
   | (rw [qbY ‹_› ‹_›]; exact qbU hz (by omega); done)
   | (rw [qbY ‹_› ‹_›]; exact qbH (k:=k) (by omega) (by omega) ‹_›; done)
   | (rw [qcp ‹_› ‹_› (by omega) ‹_›]; done)
   | (rw [qcG ‹_› ‹_› (by omega) ‹_›]; done)
   | (rw [qcH ‹_› ‹_› ‹_› ‹_› ‹_›]; done)
   | (rw [qcy ‹_› ‹_› ‹_› ‹_› ‹_› ‹_›,huu,qca (by omega),Bool.true_and]; done)
   | (rw [qb9 ‹_› ‹_› ‹_› ‹_› ‹_› ‹_›]; done)
 have fl:k1 ≠ 8:=by simpa using aM
 refine qaq [0,1] kz ?_
 refine qaj [0,1] [] [ab,ac,ao,(36,.v (.bool (k1 == 9)))] aa aL fun gn ba=>?_
 refine qae (qaa ?_)
 refine qaA ba (b:=k1 == 9) kz (fun bd=>?_) (fun bd=>?_)
 ·
  have fm:k1 = 9:=by simpa using bd
  refine wp_seq (qat bL aa ba fun gp bf=>?_)
  refine qaA bf (b:=decide (y4 ≥ 0)) kz (fun bg=>?_) (fun bg=>?_)
  ·
   have fo:=of_decide_eq_true bg
   refine qat [(4,.v (.bool aQ))] aa bf fun gq cQ=>?_
   refine wp_ret (qaE (qa2 (qaE (qaD cQ aa.cells (v:=.bool aQ) kz ?_))))
   refine ⟨congrArg (fun b_=>Ending.returned (Value.bool b_)) ?_,aa.step⟩
   first
    | (rw [qda ‹_›]; simp only [and1]; done)
    | (rw [qbY ‹_› ‹_›]; exact qbU hz (by omega); done)
    | (rw [qbY ‹_› ‹_›]; exact qbH (k:=k) (by omega) (by omega) ‹_›; done)
    | (rw [qcp ‹_› ‹_› (by omega) ‹_›]; done)
    | (rw [qcG ‹_› ‹_› (by omega) ‹_›]; done)
    | (rw [qcH ‹_› ‹_› ‹_› ‹_› ‹_›]; done)
    | (rw [qcy ‹_› ‹_› ‹_› ‹_› ‹_› ‹_›,huu,qca (by omega),Bool.true_and]; done)
    | (rw [qb9 ‹_› ‹_› ‹_› ‹_› ‹_› ‹_›]; done)
  have fq:=of_decide_eq_false bg
  refine wp_skip (qaa (qat bM aa bf fun gt cR=>?_))
  refine wp_ret (qa2 (qaE (qaD cR aa.cells (v:=.bool (((ak.length:Nat):Int) == 0)) kz ?_)))
  refine ⟨congrArg (fun b_=>Ending.returned (Value.bool b_)) ?_,aa.step⟩
  first
   | (rw [qda ‹_›]; simp only [and1]; done)
   | (rw [qbY ‹_› ‹_›]; exact qbU hz (by omega); done)
   | (rw [qbY ‹_› ‹_›]; exact qbH (k:=k) (by omega) (by omega) ‹_›; done)
   | (rw [qcp ‹_› ‹_› (by omega) ‹_›]; done)
   | (rw [qcG ‹_› ‹_› (by omega) ‹_›]; done)
   | (rw [qcH ‹_› ‹_› ‹_› ‹_› ‹_›]; done)
   | (rw [qcy ‹_› ‹_› ‹_› ‹_› ‹_› ‹_›,huu,qca (by omega),Bool.true_and]; done)
   | (rw [qb9 ‹_› ‹_› ‹_› ‹_› ‹_› ‹_›]; done)
 have fr:k1 ≠ 9:=by simpa using bd
 refine qat [ab,ac,ao,(48,.v (.bool (k1 == 11)))] aa ba fun gv bh=>?_
 refine qaA bh (b:=k1 == 11) kz (fun bj=>?_) (fun bj=>?_)
 ·
  have ft:k1 = 11:=by simpa using bj
  refine qat [(4,.v (.bool (((bH.length:Nat):Int) == 0)))] aa bh fun gw cS=>?_
  refine wp_ret (qa2 (qaE (qaD cS aa.cells (v:=.bool (((bH.length:Nat):Int) == 0)) kz ?_)))
  refine ⟨congrArg (fun b_=>Ending.returned (Value.bool b_)) ?_,aa.step⟩
  first
   | (rw [qda ‹_›]; simp only [and1]; done)
   | (rw [qbY ‹_› ‹_›]; exact qbU hz (by omega); done)
   | (rw [qbY ‹_› ‹_›]; exact qbH (k:=k) (by omega) (by omega) ‹_›; done)
   | (rw [qcp ‹_› ‹_› (by omega) ‹_›]; done)
   | (rw [qcG ‹_› ‹_› (by omega) ‹_›]; done)
   | (rw [qcH ‹_› ‹_› ‹_› ‹_› ‹_›]; done)
   | (rw [qcy ‹_› ‹_› ‹_› ‹_› ‹_› ‹_›,huu,qca (by omega),Bool.true_and]; done)
   | (rw [qb9 ‹_› ‹_› ‹_› ‹_› ‹_› ‹_›]; done)
 have fu:k1 ≠ 11:=by simpa using bj
 refine qat [ab,ac,(54,.v (.bool (k1 == 10)))] aa bh fun gx bk=>?_
 refine qaA bk (b:=k1 == 10) kz (fun bn=>?_) (fun bn=>?_)
 ·
  have fv:k1 = 10:=by simpa using bn
  refine wp_seq ?_
  let ai:Nat × SV:=(57,.v (.slice A9 l8.length cC))
  let aj:Nat × SV:=(58,.v (.int .i64 ((l8.length:Nat):Int)))
  refine qat [ab,ac,ai,aj,(59,.v (.int .i64 0))] aa bk fun gy cU=>?_
  refine wp_block (wp_loop_ghost (fun n_ a_ w_=>∃ (k:Nat),n_ = l8.length - k ∧ k ≤ l8.length ∧ (usuals l8 (Tree.mk aH ak aQ bH bG) 0 = usuals (l8.drop k) (Tree.mk aH ak aQ bH bG) k) ∧ LInv aa 91 [aT,aU] [] [ab,ac,ai,aj,(59,.v (.int .i64 ((k:Nat):Int)))] a_ w_) (l8.length) ⟨0,by omega,by omega,rfl,cU.pk,aa,Fr.refl _ _ _⟩ ?_)
  rintro gz gA gB ⟨k,fw,fx,huu,cV,ae,cW⟩
  let aB:Nat × SV:=(59,.v (.int .i64 ((k:Nat):Int)))
  refine qat [ab,ac,ai,aj,aB,(60,.v (.bool (decide (((k:Nat):Int) < ((l8.length:Nat):Int)))))] ae cV fun gC bo=>?_
  refine wp_seq (qaA bo (b:=decide (((k:Nat):Int) < ((l8.length:Nat):Int))) kz (fun bp=>?_) (fun bp=>?_))
  ·
   have fy:=of_decide_eq_true bp
   refine wp_skip (qaa (wp_seq (wp_block (qad [0,1,2,3,4,5] kz ?_))))
   refine qaj [0] [1,2,3,4,5] [ab,ac,ai,aj,aB,(61,.v (.int .i64 ((k:Nat):Int)))] ae bo fun gD cX=>?_
   obtain ⟨ew,ey,cY,fz,bq⟩:=Slots.get d6 (i:=k) (by omega)
   obtain ⟨ez,aN⟩:∃ x,l8[k]? = some x:=⟨_,List.getElem?_eq_getElem (by omega)⟩
   have bt:=eV k ez aN
   obtain ⟨cq,cr,cu,cv,cw,cz,cA,cB,eB,eC,fA,rfl,bu,eD,gE⟩:=bt.open_
   rw [bu] at bt
   have eE:=eD.small
   rw [bu] at bq
   refine qam (qaz cX (t:=32) (A:=A9) (m:=l8.length) (q:=((k:Nat):Int)) (d:=62) kz (e:=50) (size:=8) (bytes:=80) kz cY rfl (by omega) fun gF cZ=>?_)
   let ap:Value:=.int .i64 cq
   let ar:Value:=.int .i64 cr
   let au:Value:=.int .i64 cu
   let av:Value:=.int .i64 cv
   let aw:Value:=.int .i64 cw
   let ax:Value:=.int .i64 cz
   let ay:Value:=.int .i64 cA
   let az:Value:=.slice eB cB.length eC
   refine qam (qaH cZ (t:=50) (b:=ew) (o:=ey + k * 8) (d:=63) kz (cs:=[ap,ar,au,av,aw,ax,ay,az]) (v:=.agg #[ap,ar,au,av,aw,ax,ay,az]) kz (AtF.move bq ae.step nilM qa7).at_ fun gG c5=>?_)
   let am:Value:=.int .i64 0
   refine qam (qbo ae c5 (d:=8) (cs:=[am,am,am,am,am,am,am,.slice none 0 0]) kz fun gH gI gJ fB fC da bN db=>?_)
   refine qaj [4] [5] [ab,ac,(7,.v (.int .i64 ((k:Nat):Int))),(8,.p 2 0),ai,aj,aB,(63,.v (.agg #[ap,ar,au,av,aw,ax,ay,az]))] bN db fun gK dc=>?_
   refine qam (qaK bN dc (oi:=2) (cs:=[ap,ar,au,av,aw,ax,ay,az]) kz fun gL de df dg=>?_)
   refine qae (qaa ?_)
   refine qbu 6 kz df fun gM dh aC di=>?_
   refine qaY [0,1,2] [ab,ac,ai,aj,aB,(64,.v (.agg #[ap,ar,au,av,aw,ax,ay,az])),(65,.v (.agg #[aI,aR,.bool aQ,aS,aJ])),(66,.v (.int .i64 ((k:Nat):Int)))] 3 (qac (qah (qac (qac (qah (qac (qah (qac qai)))))))) (fun _ h=>h.cells) di dg fun gN dj=>?_
   refine qaJ (i:=3) kz (qal dj (f:=28) (vs:=[.agg #[aI,aR,.bool aQ,aS,aJ],.int .i64 ((k:Nat):Int)]) (d:=67) kz Tryz.call28 (sAt _ _ k _ _ (ht.move aC.step nilM aC.imm)) ?_)
   rintro e_ gO ⟨fD,rfl,dl,aD⟩
   have bw:=dl.move aD nilM (fun b o h_ hb_=>aC.laid (G:=F) aD b o (.inl h_) (Nat.lt_of_lt_of_le hb_ aD.size))
   obtain ⟨eF,eG,eH,eI,eJ,eK,eM,eN,eO,eP,eQ,fE,fF,bx,eR,eS,gP,gQ⟩:=bw.open_
   rw [bx] at bw
   have eT:=eR.small
   have eU:=eS.small
   rw [bx]
   refine ⟨_,rfl,fun gR dp=>?_⟩
   have aE:=aC.next_nil aD
   have bz:=aC.frN aD
   have dq:=TT.ofW bz aE
   refine ⟨fun _=>dq,?_⟩
   refine qaJ (i:=4) kz (qal dp (f:=30) (vs:=[.agg #[ap,ar,au,av,aw,ax,ay,az],.agg #[.int .i64 eF,.slice eK eG.length eM,.bool eH,.slice eN eI.length eO,.slice eP eJ.length eQ]]) (d:=68) kz Tryz.call30 ( hu _ _ _ _ _ _ (bt.move aE.step nilM aE.imm) (by have h_:=qeu aN; rw [qfG] at hd; omega) bw) ?_)
   rintro e_ gS ⟨rfl,bO⟩
   refine ⟨_,rfl,fun gT dr=>?_⟩
   have aA:=aE.next_nil bO
   have bP:=aE.frN bO
   have bQ:=TT.ofW (bz.trans bP) aA
   refine ⟨fun _=>bQ,?_⟩
   refine qaY [5] [ab,ac,ai,aj,aB,(69,.v (.bool (!(Fld.usual (Fld.mk cq cr cu cv cw cz cA cB) (Tree.at_ (Tree.mk aH ak aQ bH bG) k)))))] 0 (qac (qah (qac (qac (qah (qac (qah (qac qai)))))))) (fun _ h=>h.cells) bQ dr fun gU bA=>?_
   refine qaW kz ?_ _
   refine qaa (qaA bA (b:=!(Fld.usual (Fld.mk cq cr cu cv cw cz cA cB) (Tree.at_ (Tree.mk aH ak aQ bH bG) k))) kz (fun bB=>?_) (fun bB=>?_))
   ·
    refine qat [(4,.v (.bool false))] aA bA fun gV dt=>?_
    refine wp_ret (qa2 (qaE (qaE (qa2 (qaE (qa2 (qaE (qaD dt aA.cells (v:=.bool false) kz ?_))))))))
    refine ⟨congrArg (fun b_=>Ending.returned (Value.bool b_)) ?_,aA.step⟩
    first
     | (rw [qda ‹_›]; simp only [and1]; done)
     | (rw [qbY ‹_› ‹_›]; exact qbU hz (by omega); done)
     | (rw [qbY ‹_› ‹_›]; exact qbH (k:=k) (by omega) (by omega) ‹_›; done)
     | (rw [qcp ‹_› ‹_› (by omega) ‹_›]; done)
     | (rw [qcG ‹_› ‹_› (by omega) ‹_›]; done)
     | (rw [qcH ‹_› ‹_› ‹_› ‹_› ‹_›]; done)
     | (rw [qcy ‹_› ‹_› ‹_› ‹_› ‹_› ‹_›,huu,qca (by omega),Bool.true_and]; done)
     | (rw [qb9 ‹_› ‹_› ‹_› ‹_› ‹_› ‹_›]; done)
     | (rw [qcy ‹_› ‹_› ‹_› ‹_› ‹_› ‹_›,huu,qie aN (by simpa using bB),Bool.false_and]; done)
   refine wp_skip (qaw (qaa (qaq [0,1] kz ?_)))
   refine qaj [0,1] [] [ab,ac,ai,aj,(59,.v (.int .i64 (IntKind.i64.wrap (((k:Nat):Int) + 1))))] aA bA fun gW du=>?_
   refine qae (qaa ?_)
   obtain ⟨bR,dv,dw⟩:=aA.cutB du 2 [aT,aU] [ab,ac,ai,aj,(59,.v (.int .i64 (IntKind.i64.wrap (((k:Nat):Int) + 1))))]
   have dx:IntKind.i64.wrap (((k:Nat):Int) + 1) = ((k + 1:Nat):Int):=qbq (by omega)
   rw [dx] at bR
   exact ⟨l8.length - (k + 1),by omega,k + 1,rfl,by omega,by rw [huu]; exact qid aN (by simpa using bB),bR.pk,dv,((((((cW.trans da).trans de).trans dh).trans bz).trans bP).trans dw)⟩
  have fG:=of_decide_eq_false bp
  refine wp_exit (qay (qay (qaQ (qaa (qad [0,1,2,3,4,5,6,7] kz ?_)))))
  refine qaj [0,1,2,3] [4,5,6,7] [(72,.v (.slice A9 l8.length cC)),(74,.v (.slice d8 bG.length d9))] ae bo fun gX dy=>?_
  refine qam (qal dy (f:=32) (vs:=[.slice A9 l8.length cC,aJ]) (d:=75) kz Tryz.call32 (qiW _ _ l8 _ _ bG _ _ ⟨d5,(d6.move ae.step nilM ae.imm),(fun i_ x_ h_=>((eV i_ x_ h_).move ae.step nilM ae.imm))⟩ (fN.move ae.step nilM ae.imm)) ?_)
  rintro e_ gY ⟨gZ,hC,rfl,dA,bC⟩
  have fH:=dA.move (Step.refl _ Nil) nilM (ae.laid (G:=F) bC)
  refine ⟨_,rfl,fun hJ dB=>?_⟩
  have bD:=ae.next_nil bC
  have fI:=ae.frN bC
  refine qaj [5,6,7] [] [(4,.v (.bool ((((qan l8 bG).length:Nat):Int) == 0)))] bD dB fun hK dC=>?_
  refine qae (qaa ?_)
  refine wp_ret (qa2 (qaE (qaD dC bD.cells (v:=.bool ((((qan l8 bG).length:Nat):Int) == 0)) kz ?_)))
  refine ⟨congrArg (fun b_=>Ending.returned (Value.bool b_)) ?_,bD.step⟩
  first
   | (rw [qda ‹_›]; simp only [and1]; done)
   | (rw [qbY ‹_› ‹_›]; exact qbU hz (by omega); done)
   | (rw [qbY ‹_› ‹_›]; exact qbH (k:=k) (by omega) (by omega) ‹_›; done)
   | (rw [qcp ‹_› ‹_› (by omega) ‹_›]; done)
   | (rw [qcG ‹_› ‹_› (by omega) ‹_›]; done)
   | (rw [qcH ‹_› ‹_› ‹_› ‹_› ‹_›]; done)
   | (rw [qcy ‹_› ‹_› ‹_› ‹_› ‹_› ‹_›,huu,qca (by omega),Bool.true_and]; done)
   | (rw [qb9 ‹_› ‹_› ‹_› ‹_› ‹_› ‹_›]; done)
 have fJ:k1 ≠ 10:=by simpa using bn
 refine wp_skip (qaw (qaa (qbu 13 kz aa fun hZ fK bS dD=>?_)))
 refine qaY [0,1,2,3,6,7,8,9] [(79,.v (.int .i64 aH)),(81,.v (.int .i64 k1)),(85,.v (.int .i64 y6)),(87,.v (.int .i64 k1))] 6 (qac qai) (fun _ h=>h.cells) dD bk fun ia dE=>?_
 refine qaJ (i:=4) kz (qal dE (f:=43) (vs:=[.int .i64 k1]) (d:=82) kz Tryz.call43 (qkC k1 _) ?_)
 rintro e_ ib ⟨rfl,bT⟩
 refine ⟨_,rfl,fun ic dF=>?_⟩
 have bU:=bS.next_nil bT
 have aF:=bS.frN bT
 have dG:=TT.ofW aF bU
 refine ⟨fun _=>dG,?_⟩
 refine qaJ (i:=5) kz (qal dF (f:=22) (vs:=[aI,.int .i64 ((qbG k1:Nat):Int)]) (d:=83) kz Tryz.call22 (qcX aH (qbG k1) (by first | decide | exact qbi _ | omega) _) ?_)
 rintro e_ ig ⟨dH,dI,rfl,dJ,dK⟩
 refine ⟨_,rfl,fun ii dL=>?_⟩
 obtain ⟨bE,aO⟩:=bU.frFresh dK (brow dH dI 5 (be (qbG k1) aH)) (Nat.le_refl _) dJ
 have dM:=TT.ofW (aF.trans aO) bE
 refine ⟨fun _=>dM,?_⟩
 refine qaJ (i:=10) kz (qal dL (f:=43) (vs:=[.int .i64 k1]) (d:=88) kz Tryz.call43 (qkC k1 _) ?_)
 rintro e_ ij ⟨rfl,bV⟩
 refine ⟨_,rfl,fun ik dN=>?_⟩
 have bW:=bE.next_nil bV
 have bF:=bE.frN bV
 have dO:=TT.ofW ((aF.trans aO).trans bF) bW
 refine ⟨fun _=>dO,?_⟩
 refine qaJ (i:=11) kz (qal dN (f:=22) (vs:=[.int .i64 y6,.int .i64 ((qbG k1:Nat):Int)]) (d:=89) kz Tryz.call22 (qcX y6 (qbG k1) (by first | decide | exact qbi _ | omega) _) ?_)
 rintro e_ il ⟨dP,dQ,rfl,dR,dS⟩
 refine ⟨_,rfl,fun im dT=>?_⟩
 obtain ⟨aG,bX⟩:=bW.frFresh dS (brow dP dQ 5 (be (qbG k1) y6)) (Nat.le_refl _) dR
 have dU:=TT.ofW (((aF.trans aO).trans bF).trans bX) aG
 refine ⟨fun _=>dU,?_⟩
 refine qaJ (i:=12) kz (qal dT (f:=11) (vs:=[.slice dH ((be (qbG k1) aH).length) dI,.slice dP ((be (qbG k1) y6).length) dQ]) (d:=90) kz Tryz.call11 (qml _ _ _ _ (be (qbG k1) aH) (be (qbG k1) y6) _ _ (qcR (aG.own 0 _ rfl) (by first | omega | (rw [qbC]; decide) | (simp only [be_length]; exact Nat.le_trans (qbi _) (by decide)) | (have:=hroom; omega) | (have:=hmade; omega) | (simp only [List.length_append,List.length_nil]; omega)) (F:=fun _ _=>True) (fun _ _ _=>trivial)) (qcR (aG.own 1 _ rfl) (by first | omega | (rw [qbC]; decide) | (simp only [be_length]; exact Nat.le_trans (qbi _) (by decide)) | (have:=hroom; omega) | (have:=hmade; omega) | (simp only [List.length_append,List.length_nil]; omega)) (F:=fun _ _=>True) (fun _ _ _=>trivial))) ?_)
 rintro e_ io ⟨rfl,bY⟩
 refine ⟨_,rfl,fun ip dV=>?_⟩
 have aP:=aG.next_nil bY
 have dW:=aG.frN bY
 have dX:=TT.ofW ((((aF.trans aO).trans bF).trans bX).trans dW) aP
 refine ⟨fun _=>dX,?_⟩
 refine qaJ (i:=13) kz (qcg [4] aP.cells dV (env':=[(4,.v (.bool (decide (be (qbG k1) aH = be (qbG k1) y6))))]) kz fun iq dY=>?_)
 refine ⟨fun h=>absurd rfl h,?_⟩
 refine qaW kz ?_ _
 refine qaa (wp_ret (qaD dY aP.cells (v:=.bool (decide (be (qbG k1) aH = be (qbG k1) y6))) kz ?_))
 refine ⟨congrArg (fun b_=>Ending.returned (Value.bool b_)) ?_,aP.step⟩
 first
  | (rw [qda ‹_›]; simp only [and1]; done)
  | (rw [qbY ‹_› ‹_›]; exact qbU hz (by omega); done)
  | (rw [qbY ‹_› ‹_›]; exact qbH (k:=k) (by omega) (by omega) ‹_›; done)
  | (rw [qcp ‹_› ‹_› (by omega) ‹_›]; done)
  | (rw [qcG ‹_› ‹_› (by omega) ‹_›]; done)
  | (rw [qcH ‹_› ‹_› ‹_› ‹_› ‹_›]; done)
  | (rw [qcy ‹_› ‹_› ‹_› ‹_› ‹_› ‹_›,huu,qca (by omega),Bool.true_and]; done)
  | (rw [qb9 ‹_› ‹_› ‹_› ‹_› ‹_› ‹_›]; done)
theorem qlL:∀ d,qkG d
 | 0=>fun cf f ct t w F hf hd ht=>by
  obtain ⟨k,x1,x2,x3,x4,x5,x6,l,A,c,xs,rfl,_⟩:=hf.open_
  rw [qfG] at hd; omega
 | d + 1=>qiq (qlL d)
end Go.Proofs.YtoclgihkbmaolabGreatDoor.ME