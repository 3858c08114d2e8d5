/- The texts of a claim, put together: the engine, the contracts, the law. Own work. -/
import Derived.Test.YtcbpjflgkefidaaGreatDoorWd0P3
import Derived.Lib.ConvBytes
namespace Go.Proofs.YtcbpjflgkefidaaGreatDoor.ME
open Go
open Go.RowKit
set_option linter.unusedVariables false
set_option linter.unusedSimpArgs false
set_option maxRecDepth 20000
section
variable {P:Program} {ops:Array Oper} {Q:Exit → Act → World → Prop} {n:Nat} {tb:Tb} {env:Env} {rs:List Rw} {w0:World} {M:Nat → Nat → Prop} {a:Act} {w:World}
theorem qep {i d j:Nat} {t e:TypeId} {size bytes:Nat} (z:Value) (cs:List Value) {N:Act → World → Prop} (hW:WOk w0 M w tb rs) (hE:EnvOk n tb env a)
  (K:∀ b a' w',b = w.heap.size → w0.heap.size ≤ b → Fr w tb rs w' (tb ++ [⟨b,0,cs,true⟩]) rs → WOk w0 M w' (tb ++ [⟨b,0,cs,true⟩]) rs → EnvOk n (tb ++ [⟨b,0,cs,true⟩]) ((d,.v (.slice (some ⟨b,0,none⟩) j j)) :: env) a' → N a' w')
  (h:qh2 env ops n i = some (t,((j:Nat):Int),((j:Nat):Int),d):=by kernel_rfl) (ht:qcD P t = some (e,size,bytes):=by kernel_rfl) (hz:(P.info? e).bind (·.zero) = some z:=by kernel_rfl) (hcs:(madeCells z.cells (j * size)).toList = cs:=by kernel_rfl) (hb:Nat.ble (bytes * j) 1000000 = true:=by kernel_rfl):wpOp P ops Q i N a w:=by
 obtain ⟨ht',inf,z',hi,hz',hzs,hs1,rfl,hsz,hbp⟩:=qcr ht
 obtain ⟨op,ho,hd,kl,kc,hrun⟩:=qfB (P:=P) (w:=w) hE h
 have hzz:z' = z:=by rw [hi] at hz; simp only [Option.bind_some,hz',Option.some.injEq] at hz; exact hz
 subst hzz
 have hb':=Nat.le_of_ble_eq_true hb
 have hjm:j ≤ 1000000:=by
  have:=Nat.le_mul_of_pos_left j hbp
  omega
 have hr:=run_make (P:=P) w t e inf z' ht' hi hz' kl kc (j:Int) (j:Int) (by omega) (Int.le_refl _) (by
  have:((inf.bytes * j:Nat):Int) ≤ 281474976710656:=by omega
  rwa [Int.natCast_mul] at this) (by omega)
 simp only [Int.toNat_natCast,hs1] at hr
 have hca:madeCells z'.cells (j * size) = cs.toArray:=by rw [← hcs]
 rw [hca] at hr
 refine qa9 hE ho (fun o hop=>hrun o _ _ hop hr) ?_
 refine K w.heap.size _ _ rfl hW.step.size (Fr.alloc w tb rs _ cs true) (hW.alloc cs e) ?_
 exact (hE.put hd (.v (.slice (some ⟨w.heap.size,0,none⟩) j j)) trivial).grow _
theorem qfq {i d:Nat} {src dst e:TypeId} {s:ByteArray} {N:Act → World → Prop} (hW:WOk w0 M w tb rs) (hE:EnvOk n tb env a) (hsm:s.size ≤ 1099511627776)
  (K:∀ b c a' w',Fr w tb rs w' tb rs → WOk w0 M w' tb rs → (∀ G,Octs w' (Imm G w0 w' tb rs) (some ⟨b,0,none⟩) c (sb s)) → EnvOk n tb ((d,.v (.slice (some ⟨b,0,none⟩) (sb s).length c)) :: env) a' → N a' w')
  (h:qjq tb env ops n i = some (src,dst,.string s,d):=by kernel_rfl) (hs:P.underlying src = some .string:=by kernel_rfl) (hd:P.underlying dst = some (.slice e):=by kernel_rfl) (he:P.underlying e = some (.int .u8):=by kernel_rfl):wpOp P ops Q i N a w:=by
 unfold qjq at h
 split at h
 ·rename_i src' dst' x d' hop
  split at h
  ·rename_i v hx
   simp only [Option.some.injEq,Prod.mk.injEq] at h
   obtain ⟨rfl,rfl,rfl,rfl⟩:=h
   have hdn:=(qbj hE hop).choose_spec.2.2.2.1
   have hrun:=Lib.run_convert_string_bytes (P:=P) w src' dst' e s hs hd he
   have hst:Step w (Lib.bytesWorld w e s) Nil:=⟨rfl,rfl,by rw [Lib.bytesWorld_size]; omega,fun b hb=>by rw [Lib.bytesWorld_at_old w e s b hb]; exact Keeps.refl _ _⟩
   have hlen:(sb s).length = s.size:=qhZ s
   have e1:=(qa5 hE hx).1
   refine qa9 hE hop (v:=.slice (some ⟨w.heap.size,0,none⟩) (sb s).length (grownCap w s.size 0 e)) (w':=Lib.bytesWorld w e s) (fun o' ho'=>?_) (K w.heap.size _ _ _ (Fr.nil tb rs hst) (hW.next_nil hst) (fun G=>?_) (hE.put hdn (.v _) trivial))
   ·unfold execOp
    rw [ho']
    simp only [SV.val] at e1
    simp only [e1,Sem.run_bind,hrun,Result.andThen_ok,Sem.run_pure,hlen]
   refine ⟨by rw [hlen]; exact grownCap_ge w s.size 0 e,by rw [hlen]; exact hsm,fun h=>(by cases h),fun ad hA _=>?_⟩
   obtain rfl:=Option.some.inj hA
   refine ⟨w.heap.size,0,rfl,fun q hq=>⟨rfl,fun j v hj=>?_⟩⟩
   have hj0:j = 0:=by
    cases j with
    | zero=>rfl
    | succ j=>simp at hj
   subst hj0
   simp only [List.getElem?_cons_zero,Option.some.injEq] at hj
   subst hj
   have h2:(Lib.bytesWorld w e s).heap.size = w.heap.size + 1:=Lib.bytesWorld_size w e s
   refine ⟨⟨.inr hW.step.size,by rw [h2]; exact Nat.lt_succ_self _,fun ha=>?_⟩,?_⟩
   ·have:=hW.act_live ha
    exact absurd this (Nat.lt_irrefl _)
   rw [Nat.zero_add,Nat.mul_one,Nat.add_zero,Lib.bytesWorld_cell w e s q (by rw [← hlen]; exact hq)]
   rfl
  cases h
 cases h
end
structure TBox (w:World) (B eT:Nat) (A:Option Addr) (cp n:Nat) (x0 x1 x2 x3:Value) (xs:List Value):Prop where
 str:Str w B [x0,x1,x2,x3,.slice A n cp]
 own:w.ownsRow 0 eT 2 (.slice A n cp) n xs
 ne:A.map (·.block) ≠ some B
def TM (B:Nat) (A:Option Addr):Nat → Nat → Prop:=fun b o=>(b = B ∧ o < 5) ∨ Blk A b o
def qjy (w:World) (B eT:Nat) (A:Option Addr) (n:Nat) (x0 x1 x2 x3:Value) (xs:List Value) (k:Int) (x:Bs):Ending → World → Prop:=fun en w' =>
 en = .returned (.tuple #[]) ∧ ∃ A' cp' Av cv,TBox w' B eT A' cp' (n + 1) x0 x1 x2 x3 (xs ++ [.int .u32 k,.slice Av x.length cv]) ∧ Octs w' (fun b o=>(w.heap.size ≤ b ∨ A.map (·.block) = some b) ∧ ¬ TM B A' b o) Av cv x ∧ Near w A A' ∧ Step w w' (TM B A)
def qe3 (P:Program) (fc eT:Nat):Prop:=∀ (w:World) (B cp c n:Nat) (k:Int) (A Av:Option Addr) (x:Bs) (x0 x1 x2 x3:Value) (xs:List Value) (G:Nat → Nat → Prop),TBox w B eT A cp n x0 x1 x2 x3 xs → Octs w G Av c x → (∀ b o,G b o → ¬ TM B A b o) → n ≤ 1000000 →
 Calls P fc [.int .u32 k,.slice Av x.length c,.pointer (some ⟨B,0,none⟩)].toArray w (qjy w B eT A n x0 x1 x2 x3 xs k x)
theorem TBox.wok {w:World} {B eT cp n:Nat} {A:Option Addr} {x0 x1 x2 x3:Value} {xs:List Value} (h:TBox w B eT A cp n x0 x1 x2 x3 xs):WOk w (TM B A) w [⟨B,0,[x0,x1,x2,x3,.slice A n cp],true⟩] [⟨A,cp,eT,2,n,xs⟩]:=by
 have h1:WOk w (TM B A) w [⟨B,0,[x0,x1,x2,x3,.slice A n cp],true⟩] [] :=
  (WOk.start w _).add ⟨B,0,[x0,x1,x2,x3,.slice A n cp],true⟩ (World.lt_of_cell (h.str.at_ 0 _ rfl)) (fun j v hj=>by rw [Nat.zero_add]; exact h.str.at_ j v hj) (fun _ j hj=>⟨.inr (.inl ⟨rfl,by rw [Nat.zero_add]; exact hj⟩),by rw [Nat.zero_add]; exact h.str.frz j hj⟩) (fun i ob hi=>by simp at hi) (fun i r hi=>by simp at hi)
 refine h1.addRow ⟨A,cp,eT,2,n,xs⟩ h.own (fun g hg=>.inr fun o=>.inr hg) (fun i ob hi=>?_) (fun i r hi=>by simp at hi)
 cases i with
 | zero =>
  simp only [List.getElem?_cons_zero,Option.some.injEq] at hi; subst hi
  exact h.ne
 | succ i=>simp at hi
theorem qfO {w0 w:World} {B eT cp n:Nat} {A0 A:Option Addr} {x0 x1 x2 x3:Value} {xs:List Value} {rs:List Rw} (hW:WOk w0 (TM B A0) w [⟨B,0,[x0,x1,x2,x3,.slice A n cp],true⟩] (⟨A,cp,eT,2,n,xs⟩ :: rs)) (hB:B < w0.heap.size):TBox w B eT A cp n x0 x1 x2 x3 xs ∧ Near w0 A0 A ∧ Step w0 w (TM B A0):=by
 refine ⟨⟨Str.of hW 0 rfl,hW.own 0 _ rfl,fun e=>hW.rtb 0 _ rfl B e 0 _ rfl rfl⟩,fun g hg=>?_,hW.step⟩
 rcases hW.ownM 0 _ rfl g hg with h | h
 ·exact .inr h
 rcases h 5 with ⟨_,h⟩ | h
 ·omega
 exact .inl h
theorem qee {w0 w:World} {B eT cp n c e8:Nat} {A0 A Av:Option Addr} {cs:List Value} {xs:List Value} {s:Bs} (hl:cs.length = 5) (hW:WOk w0 (TM B A0) w [⟨B,0,cs,true⟩] [⟨A,cp,eT,2,n,xs⟩,brow Av c e8 s]) (hsm:s.length ≤ 1099511627776):Octs w (fun b o=>(w0.heap.size ≤ b ∨ A0.map (·.block) = some b) ∧ ¬ TM B A b o) Av c s:=by
 refine qd4 (hW.own 1 _ rfl) hsm fun g hg o=>⟨?_,?_⟩
 ·rcases hW.ownM 1 _ rfl g hg with h | h
  ·exact .inl h
  rcases h 5 with ⟨_,h⟩ | h
  ·omega
  exact .inr h
 rintro (⟨rfl,_⟩ | h)
 ·exact hW.rtb 1 _ rfl g hg 0 _ rfl rfl
 exact hW.rr 1 0 _ _ (by decide) rfl rfl g hg h
theorem qe4 {fc eT B b o:Nat} {m:Option Nat} {u:List (Int × Bs)} {w:World} {F:Nat → Nat → Prop} {x0 x1 x2 x3:Value} (hcf:∀ args w,(callFunc fc args).run Tryz.prog w = .ok (.enter fc args) w) (hone:qe3 Tryz.prog fc eT) (hat:AtF w F b o [.map m]) (hm:MapR w F m u) (hB:Str w B [x0,x1,x2,x3,.slice none 0 0]) (hF:∀ b o,F b o → ¬ (b = B ∧ o < 5)) (hul:u.length ≤ 1000000) :
  Calls Tryz.prog 103 [.pointer (some ⟨b,o,none⟩),cloV fc (.pointer (some ⟨B,0,none⟩))].toArray w (fun e w'=>e = .returned (.tuple #[]) ∧ ∃ A c,Str w' B [x0,x1,x2,x3,.slice A u.length c] ∧ TagsR w' (fun b o=>w.heap.size ≤ b) A c u ∧ Step w w' (fun b o=>b = B ∧ o < 5)):=by
 have hBl:B < w.heap.size:=World.lt_of_cell (hB.at_ 0 _ rfl)
 refine (qkU (M:=fun b o=>b = B ∧ o < 5) hcf (fun w7 j w8=>∃ A cp xs css,TBox w8 B eT A cp j x0 x1 x2 x3 xs ∧ Tags w8 (fun b o=>w7.heap.size ≤ b ∧ ¬ TM B A b o) xs (u.take j) css ∧ (∀ g,A.map (·.block) = some g → w7.heap.size ≤ g) ∧ Step w7 w8 (fun b o=>b = B ∧ o < 5)) hat hm hF (fun b o h=>by rw [h.1]; exact hBl) (fun w7 hs=>?_) (fun w7 j w8 h=>by obtain ⟨_,_,_,_,_,_,_,h⟩:=h; exact h) (fun w7 hs j k x w8 Ax cx hI hu hk hox=>?_) hul).mono ?_
 ·exact ⟨none,0,[],[],⟨hB.move hs fun _ h=>h,World.ownsRow_nil _ 0 eT 2,fun h=>by cases h⟩,Tags.nil _ _,fun g h=>(by cases h),Step.refl _ _⟩
 ·obtain ⟨A,cp,xs,css,hbx,hT,hA,hs8⟩:=hI
  have hj:j < u.length:=(List.getElem?_eq_some_iff.1 hu).1
  refine (hone w8 B cp cx j k A Ax x x0 x1 x2 x3 xs _ hbx hox (fun b o hf=>?_) (by omega)).mono ?_
  ·rintro (h | h)
   ·exact hF _ _ hf.1 h
   have:=hA b h; have:=hf.2; omega
  rintro e w9 ⟨rfl,A',cp',Av,cv,hbx',ho',hn,hs9⟩
  refine ⟨rfl,A',cp',_,css ++ [[.int .u32 k,.slice Av x.length cv]],hbx',?_,fun g hg=>?_,hs8.trans hs9 fun b o hb h=>?_⟩
  ·rw [qcR hu]
   have e1:Tags w9 (fun b o=>w7.heap.size ≤ b ∧ ¬ TM B A' b o) xs (u.take j) css:=hT.move hs9 (fun b o h _=>h.2) (fun b o h hb=>⟨h.1,fun h'=>by
    rcases h' with h' | h'
    ·exact h.2 (.inl h')
    rcases hn b h' with h' | h'
    ·exact h.2 (.inr h')
    omega⟩)
   have e2:Octs w9 (fun b o=>w7.heap.size ≤ b ∧ ¬ TM B A' b o) Av cv x:=ho'.move (Step.refl _ Nil) nilM fun b o h _=>⟨by
    rcases h.1 with h' | h'
    ·exact Nat.le_trans hs8.size h'
    exact hA b h',h.2⟩
   exact e1.snoc (c:=[.int .u32 k,.slice Av x.length cv]) (x:=(k,x)) ⟨⟨_,_,rfl,e2⟩,hk.1,hk.2⟩
  ·rcases hn g hg with h | h
   ·exact hA g h
   exact Nat.le_trans hs8.size h
  rcases h with h | h
  ·exact h
  have:=hA b h; omega
 rintro e w' ⟨rfl,w7,hs,A,cp,xs,css,hbx,hT,hA,hs8⟩
 rw [List.take_length] at hT
 refine ⟨rfl,A,cp,hbx.str,?_,(hs.mono (N:=fun b o=>b = B ∧ o < 5) fun _ _ _ f=>f.elim).trans hs8 fun b o _ h=>h⟩
 exact ((hT.move (Step.refl _ Nil) nilM fun b o h _=>Nat.le_trans hs.size h.1).slots (F:=fun b o=>w.heap.size ≤ b) hbx.own rfl (by omega) fun g hg o=>Nat.le_trans hs.size (hA g hg))
def qiZ (A:Option Addr) (s:ByteArray):Tree:=.mk 0 (if A.isNone = true then [] else sb s) A.isNone [] []
def qjz (b:Bool):Tree:=.mk (if b = true then 1 else 0) [] false [] []
abbrev NoF:Nat → Nat → Prop:=fun _ _=>False
theorem WOk.strOut {G:Nat → Nat → Prop} {w0 w:World} {tb:Tb} {rs:List Rw} {p:Nat} {cs:List Value} (tb':Tb) (hW:WOk w0 Nil w tb rs) (ht:tb' ++ [⟨p,0,cs,true⟩] = tb:=by rfl):AtF w (Imm G w0 w tb' rs) p 0 cs:=fun j v hj=>by
 subst ht
 have hi:(tb' ++ [(⟨p,0,cs,true⟩:Ob)])[tb'.length]? = some ⟨p,0,cs,true⟩:=by rw [List.getElem?_append_right (Nat.le_refl _),Nat.sub_self]; rfl
 have h1:=hW.cells _ _ hi j v hj
 have hlt:j < cs.length:=(List.getElem?_eq_some_iff.1 hj).1
 refine ⟨⟨?_,hW.live _ _ hi,fun ha=>?_⟩,h1⟩
 ·rcases (hW.rw_ _ _ hi rfl j hlt).1 with h2 | h2
  ·exact .inr h2
  exact h2.elim
 rcases ha with ⟨k,ob,h2,h3,h4,h5,h6⟩ | ⟨k,r,h2,h3⟩
 ·have hk:k < tb'.length:=(List.getElem?_eq_some_iff.1 h2).1
  have h7:(tb' ++ [(⟨p,0,cs,true⟩:Ob)])[k]? = some ob:=by rw [List.getElem?_append_left hk]; exact h2
  rcases hW.apart k _ ob _ (by omega) h7 hi (.inr rfl) with h8 | h8 | h8
  ·exact h8 h4
  ·simp only [Nat.zero_add] at h5 h6; simp only [Nat.le_zero] at h8; omega
  simp only [Nat.zero_add] at h5 h6 h8; omega
 exact hW.rtb k r h2 p h3 _ _ hi rfl
theorem qhI {u:List (Int × Bs)} (h:qc3 u) {i j:Nat} {k k':Int} {s s':Bs} (hi:u[i]? = some (k,s)) (hj:u[j]? = some (k',s')) (hij:j < i):¬ k < k':=by
 obtain ⟨h1,h2⟩:=List.getElem?_eq_some_iff.1 hi
 obtain ⟨h3,h4⟩:=List.getElem?_eq_some_iff.1 hj
 have:=List.pairwise_iff_getElem.1 h j i h3 h1 hij
 rw [h2,h4] at this
 simp only at this
 omega
section
variable {w0 w:World} {tb:Tb} {rs:List Rw} {F:Nat → Nat → Prop}
theorem WOk.objFp (hW:WOk w0 Nil w tb rs) (i:Nat) {b:Nat} {cs:List Value} (hi:tb[i]? = some ⟨b,0,cs,true⟩):AtF w (Fp F w0) b 0 cs:=fun j v hj=>by
 have hlt:=(List.getElem?_eq_some_iff.1 hj).1
 refine ⟨?_,hW.cells i _ hi j v hj⟩
 rcases (hW.rw_ i _ hi rfl j hlt).1 with h | h
 ·exact .inr h
 exact h.elim
def TrL (w:World) (F:Nat → Nat → Prop):List (List Value) → List Tree → Prop
 | [],[]=>True
 | c :: cs,x :: xs=>TreeR w F c x ∧ TrL w F cs xs
 | _,_=>False
theorem TrL.move {w w':World} {F F' M:Nat → Nat → Prop} (hs:Step w w' M) (hM:∀ b o,F b o → b < w.heap.size → ¬ M b o) (hF:∀ b o,F b o → b < w.heap.size → F' b o):∀ {cs:List (List Value)} {l:List Tree},TrL w F cs l → TrL w' F' cs l
 | [],[],_=>trivial
 | _ :: _,_ :: _,h=>⟨h.1.move hs hM hF,TrL.move hs hM hF h.2⟩
 | [],_ :: _,h=>h.elim
 | _ :: _,[],h=>h.elim
theorem TrL.len:∀ {cs:List (List Value)} {l:List Tree},TrL w F cs l → cs.length = l.length
 | [],[],_=>rfl
 | _ :: _,_ :: _,h=>congrArg (· + 1) (TrL.len h.2)
 | [],_ :: _,h=>h.elim
 | _ :: _,[],h=>h.elim
theorem TrL.five:∀ {cs:List (List Value)} {l:List Tree},TrL w F cs l → ∀ c ∈ cs,c.length = 5
 | [],[],_=>fun c hc=>by cases hc
 | _ :: _,_ :: _,h=>fun c hc=>by
  rcases List.mem_cons.1 hc with rfl | hc
  ·exact h.1.five
  exact TrL.five h.2 c hc
 | [],_ :: _,h=>h.elim
 | _ :: _,[],h=>h.elim
theorem TrL.get:∀ {cs:List (List Value)} {l:List Tree},TrL w F cs l → ∀ (i:Nat) (x:Tree),l[i]? = some x → TreeR w F (cs.getD i []) x
 | [],[],_,i,x,hx=>by simp at hx
 | _ :: _,_ :: _,h,0,x,hx=>by
  simp only [List.getElem?_cons_zero,Option.some.injEq] at hx
  subst hx
  exact h.1
 | _ :: _,_ :: _,h,i + 1,x,hx=>TrL.get h.2 i x hx
 | [],_ :: _,h,_,_,_=>h.elim
 | _ :: _,[],h,_,_,_=>h.elim
theorem qkV {b:Nat}:∀ (css:List (List Value)) (o:Nat),AtF w F b o css.flatten → (∀ c ∈ css,c.length = 5) → ∀ i,i < css.length → (css.getD i []).length = 5 ∧ AtF w F b (o + i * 5) (css.getD i [])
 | [],o,h,hl,i,hi=>absurd hi (Nat.not_lt_zero _)
 | c :: r,o,h,hl,0,_=>⟨hl c List.mem_cons_self,fun j v hj=>by
   have hj':c[j]? = some v:=hj
   have:=h j v (by rw [List.flatten_cons,List.getElem?_append_left (List.getElem?_eq_some_iff.1 hj').1]; exact hj')
   rw [show o + 0 * 5 + j = o + j by omega]
   exact this⟩
 | c :: r,o,h,hl,i + 1,hi=>by
  have hc:=hl c List.mem_cons_self
  have:=qkV r (o + 5) (fun j v hj=>by
   have:=h (5 + j) v (by rw [List.flatten_cons,List.getElem?_append_right (by omega),show 5 + j - c.length = j by omega]; exact hj)
   rw [show o + 5 + j = o + (5 + j) by omega]
   exact this) (fun d hd=>hl d (List.mem_cons_of_mem _ hd)) i (by simpa using hi)
  rw [show o + (i + 1) * 5 = o + 5 + i * 5 by omega]
  exact this
theorem qhJ {b:Nat} {css:List (List Value)} {l:List Tree} (h:AtF w F b 0 css.flatten) (hT:TrL w F css l) (hsm:l.length ≤ 1099511627776):Slots w F 5 (some ⟨b,0,none⟩) l.length l.length (fun i=>css.getD i []) :=
 ⟨Nat.le_refl _,hsm,fun h=>(by cases h),fun ad hA _=>⟨b,0,(Option.some.inj hA).symm,fun i hi=>qkV css 0 h hT.five i (by rw [hT.len]; exact hi)⟩⟩
theorem Trees.xslen {w:World} {xs:List Value} {l:List Tree} {css:List (List Value)} (h:Trees w F xs l css):xs.length = l.length * 5:=by
 have h1:∀ css:List (List Value),(∀ c ∈ css,c.length = 5) → css.flatten.length = css.length * 5:=fun css hc=>by
  induction css with
  | nil=>rfl
  | cons c r ih =>
   rw [List.flatten_cons,List.length_append,hc c List.mem_cons_self,ih fun d hd=>hc d (List.mem_cons_of_mem _ hd),List.length_cons]
   omega
 rw [h.flat.eq,h1 css,h.len]
 intro c hc
 obtain ⟨i,hi,rfl⟩:=List.getElem_of_mem hc
 have hl:=h.len
 exact (h.each i _ _ (List.getElem?_eq_getElem hi) (List.getElem?_eq_getElem (show i < l.length by omega))).five
theorem qdd {xs zs cs:List Value} {k:Nat} (hx:xs.length = k * 5) (hz:zs.length = cs.length:=by rfl):qbi (xs ++ zs) (k * 5) cs = xs ++ cs:=by
 unfold qbi
 rw [List.take_left' hx,List.drop_of_length_le (by rw [List.length_append]; omega),List.append_nil]
theorem qgn (hW:WOk w0 Nil w tb rs) {k:Nat} {A:Option Addr} {c e n:Nat} {xs:List Value} {l:List Tree} {css:List (List Value)} {b:Bool} (hk:rs[k]? = some ⟨A,c,e,5,n,xs⟩) (hT:Trees w (Imm F w0 w tb rs) xs l css) (hn:n = l.length) (hsm:l.length ≤ 1099511627776):TreeR w (Fp F w0) [.int .i64 0,.slice none 0 0,.bool b,.slice A n c,.slice none 0 0] (.mk 0 [] b l []):=by
 have h:=qgW hW hk hT hn hsm
 subst hn
 exact TreeR.mk (s:=[]) (u:=[]) _ (Octs.nil _ _) h.1 h.2 (TagsR.nil _ _)
theorem qcJ {L k:Nat} {f:Nat → Tree} (h:k < L):((List.range L).map f).take (k + 1) = ((List.range L).map f).take k ++ [f k] :=
 qcR (by rw [List.getElem?_map,List.getElem?_range h]; rfl)
theorem qhf {L k:Nat} {f:Nat → Tree} (h:L ≤ k):((List.range L).map f).take k = (List.range L).map f:=List.take_of_length_le (by rw [List.length_map,List.length_range]; exact h)
theorem qcA {L:Nat} {f:Nat → Tree}:((List.range L).map f).length = L:=by rw [List.length_map,List.length_range]
theorem qfP (hW:WOk w0 Nil w tb rs) (i:Nat) {b n2 c3:Nat} {A3:Option Addr} {u:List (Int × Bs)} {css:List (List Value)} {cs:List Value} {l:List Tree} (hi:tb[i]? = some ⟨b,0,cs,true⟩) (hT':TrL w (Fp F w0) css l) (hU:TagsR w (Fp F w0) A3 c3 u) (hf:css.flatten = cs:=by rfl) (hl:l.length = n2:=by rfl) (hn:Nat.ble n2 1000000 = true:=by kernel_rfl) :
  qc0 w0 F (.mk 0 [] false l u) (.returned (.agg #[.int .i64 0,.slice none 0 0,.bool false,.slice (some ⟨b,0,none⟩) n2 n2,.slice A3 u.length c3])) w:=by
 subst hf
 subst hl
 have hn':=Nat.le_of_ble_eq_true hn
 exact ⟨_,rfl,TreeR.mk (s:=[]) _ (Octs.nil _ _) (qhJ (hW.objFp i hi) hT' (by omega)) hT'.get hU,hW.step⟩
end
def qkW (m:Nat):Prop:=∀ (ct:List Value) (t:Tree) (w:World) (F:Nat → Nat → Prop),TreeR w F ct t → t.depth ≤ m →
  Calls Tryz.prog 17 #[.agg ct.toArray] w (qc0 w F t)
theorem qi0 {m:Nat} (hg:qkW m) (ct:List Value) (t:Tree) (w:World) (F:Nat → Nat → Prop) (ht:TreeR w F ct t) (hd:t.depth ≤ m + 1) :
  Calls Tryz.prog 17 #[.agg ct.toArray] w (qc0 w F t):=by
 obtain ⟨n1,s2,b3,l4,u5,A6,c7,A8,c9,ap,ar,dT,rfl,rfl,dw,dx,dU,dV⟩:=ht.open_
 have dy:=dw.small
 have dz:=dx.small
 obtain ⟨dW,dA,dX⟩:=dV.ex
 have dB:=dA.small
 refine enter (n:=49) Tryz.func17 rfl Tryz.ntmps17 kz fun a hE=>?_
 have hW:=WOk.start w Nil
 refine qad [0,1] kz ?_
 refine qai (qbu hW hE (d:=1) (cs:=[.int .i64 n1,.slice A6 s2.length c7,.bool b3,.slice A8 l4.length c9,.slice ap u5.length ar]) kz fun bF fk fl dY dZ d5 cX cY=>?_)
 refine qai (qaO cX cY (d:=2) (cs:=[.int .i64 0,.slice none 0 0,.bool false,.slice none 0 0,.slice none 0 0]) kz fun bG fm fo d6 d7 d8 bI cZ=>?_)
 refine qae (qab ?_)
 refine qad [0,1,2,3,4,5,6,7,8] kz ?_
 refine qaj [0,1,2,3,4,5,6] [7,8] [(1,.p 0 0),(2,.p 1 0),(14,.v (.agg #[.int .i64 n1,.slice A6 s2.length c7,.bool b3,.slice none 0 0,.slice none 0 0]))] bI cZ fun fq c5=>?_
 refine qai (qaO bI c5 (d:=3) (cs:=[.int .i64 0,.slice none 0 0,.bool false,.slice none 0 0,.slice none 0 0]) kz fun bH fr ft d9 ea eb c6 da=>?_)
 refine qai (qam c6 da (oi:=2) (cs:=[.int .i64 n1,.slice A6 s2.length c7,.bool b3,.slice none 0 0,.slice none 0 0]) kz fun fu ec bz db=>?_)
 refine qae (qab ?_)
 refine wp_seq ?_
 refine qas [(1,.p 0 0),(2,.p 1 0),(3,.p 2 0),(16,.v (.slice A8 l4.length c9)),(17,.v (.int .i64 ((l4.length:Nat):Int))),(18,.v (.int .i64 0))] bz db fun fv dc=>?_
 refine wp_block ?_
 have bJ:=bz.addNil 26 5
 have ee:=bz.frNil 26 5
 refine wp_loop_ghost (fun n_ a_ w_=>∃ (k:Nat) (A_:Option Addr) (c_:Nat) (xs:List Value) (css:List (List Value)),n_ = l4.length - k ∧ k ≤ l4.length ∧ (Trees w_ (Imm F w w_ [⟨bF,0,[.int .i64 n1,.slice A6 s2.length c7,.bool b3,.slice A8 l4.length c9,.slice ap u5.length ar],true⟩,⟨bG,0,[.int .i64 0,.slice none 0 0,.bool false,.slice none 0 0,.slice none 0 0],true⟩,⟨bH,0,[.int .i64 n1,.slice A6 s2.length c7,.bool b3,.slice A_ k c_,.slice none 0 0],true⟩] [⟨A_,c_,26,5,k,xs⟩]) xs (l4.take k) css) ∧ LInv bJ 49 [⟨bF,0,[.int .i64 n1,.slice A6 s2.length c7,.bool b3,.slice A8 l4.length c9,.slice ap u5.length ar],true⟩,⟨bG,0,[.int .i64 0,.slice none 0 0,.bool false,.slice none 0 0,.slice none 0 0],true⟩,⟨bH,0,[.int .i64 n1,.slice A6 s2.length c7,.bool b3,.slice A_ k c_,.slice none 0 0],true⟩] [⟨A_,c_,26,5,k,xs⟩] [(1,.p 0 0),(2,.p 1 0),(3,.p 2 0),(16,.v (.slice A8 l4.length c9)),(17,.v (.int .i64 ((l4.length:Nat):Int))),(18,.v (.int .i64 ((k:Nat):Int)))] a_ w_) (l4.length) ⟨0,none,0,[],[],by omega,by omega,Trees.nil _ _,dc.pk,bJ,Fr.refl _ _ _⟩ ?_
 rintro fw fx fy ⟨k,A_,c_,xs,css,ef,eg,hT,de,aw,dg⟩
 refine qas [(1,.p 0 0),(2,.p 1 0),(3,.p 2 0),(16,.v (.slice A8 l4.length c9)),(17,.v (.int .i64 ((l4.length:Nat):Int))),(18,.v (.int .i64 ((k:Nat):Int))),(19,.v (.bool (decide (((k:Nat):Int) < ((l4.length:Nat):Int)))))] aw de fun fz bA=>?_
 refine wp_seq ?_
 refine qaE bA (b:=decide (((k:Nat):Int) < ((l4.length:Nat):Int))) kz (fun bB=>?_) (fun bB=>?_)
 ·
  have eh:=of_decide_eq_true bB
  refine wp_skip ?_
  refine qab ?_
  refine wp_seq ?_
  refine wp_block ?_
  refine qad [0,1,2,3] kz ?_
  obtain ⟨ei,ej,dh,ek,bf⟩:=Slots.get dx (i:=k) (by omega)
  obtain ⟨em,bC⟩:∃ x,l4[k]? = some x:=⟨_,List.getElem?_eq_getElem (by omega)⟩
  have bD:=dU k em bC
  obtain ⟨bK,bL,bM,bN,bO,bP,bQ,bR,bS,bT,bU,eo,rfl,bg,ep,eu,fA,fB⟩:=bD.open_
  rw [bg] at bD
  have dC:=ep.small
  have dD:=eu.small
  rw [bg] at bf
  refine qai (qat bA (t:=34) (A:=A8) (m:=l4.length) (q:=((k:Nat):Int)) (d:=20) kz (e:=37) (size:=5) (bytes:=88) kz dh rfl (by omega) fun fC bV=>?_)
  refine qai (qaK bV (t:=37) (b:=ei) (o:=ej + k * 5) (d:=21) kz (cs:=[.int .i64 bK,.slice bP bL.length bQ,.bool bM,.slice bR bN.length bS,.slice bT bO.length bU]) (v:=.agg #[.int .i64 bK,.slice bP bL.length bQ,.bool bM,.slice bR bN.length bS,.slice bT bO.length bU]) kz (AtF.move bf aw.step nilM qbb).at_ fun ev bW=>?_)
  refine qai (qaO aw bW (d:=5) (cs:=[.int .i64 0,.slice none 0 0,.bool false,.slice none 0 0,.slice none 0 0]) kz fun ew ey ez dE dF ax bX bY=>?_)
  refine qai (qam bX bY (oi:=3) (cs:=[.int .i64 bK,.slice bP bL.length bQ,.bool bM,.slice bR bN.length bS,.slice bT bO.length bU]) kz fun eB ay bZ b8=>?_)
  refine qae (qab ?_)
  refine qcE 7 kz bZ fun eC az ag cd=>?_
  refine qaN [0,1,2] [(1,.p 0 0),(2,.p 1 0),(3,.p 2 0),(16,.v (.slice A8 l4.length c9)),(17,.v (.int .i64 ((l4.length:Nat):Int))),(18,.v (.int .i64 ((k:Nat):Int))),(23,.v (.slice A_ k c_)),(24,.v (.agg #[.int .i64 bK,.slice bP bL.length bQ,.bool bM,.slice bR bN.length bS,.slice bT bO.length bU]))] 5 (qac (qaa (qaa (qac (qaa qaf))))) (fun _ h=>h.cells) cd b8 fun eD ce=>?_
  refine qav (i:=3) kz (qak ce (f:=17) (vs:=[.agg #[.int .i64 bK,.slice bP bL.length bQ,.bool bM,.slice bR bN.length bS,.slice bT bO.length bU]]) (d:=25) kz Tryz.call17 ( hg _ _ _ _ (bD.move ag.step nilM ag.imm) (by have h_:=qgV bC; rw [qf7] at hd; omega)) ?_)
  rintro e_ eE ⟨dG,rfl,cg,aA⟩
  have aB:=cg.move (Step.refl _ Nil) nilM (ag.laid (G:=F) aA)
  obtain ⟨aC,aD,aE,aF,aG,aH,aI,aJ,aK,aL,aM,dH,dI,aN,di,dj,eF,eG⟩:=aB.open_
  rw [aN] at aB
  have dl:=di.small
  have dp:=dj.small
  rw [aN]
  refine ⟨_,rfl,fun eH cm=>?_⟩
  have bh:=ag.next_nil aA
  have ae:=ag.frN aA
  have cq:=TT.ofW ae bh
  refine ⟨fun _=>cq,?_⟩
  refine qav (i:=4) kz (qbL bh cm (e:=26) (size:=5) (len:=1) (cs:=[.int .i64 aC,.slice aH aD.length aI,.bool aE,.slice aJ aF.length aK,.slice aL aG.length aM]) (d:=26) kz kz fun dq eI eJ dJ dK aa au cr=>?_)
  have cu:=TT.ofW (ae.trans aa) au
  refine ⟨fun _=>cu,?_⟩
  refine qav (i:=5) kz (qaQ au cr (k:=0) (d:=27) (t:=23) (e:=26) (size:=5) (bytes:=88) (A:=A_) (As:=(some ⟨dq,0,none⟩)) (m0:=k) (c:=c_) (m:=1) (cs:=1) (xs:=xs) (news:=[.int .i64 aC,.slice aH aD.length aI,.bool aE,.slice aJ aF.length aK,.slice aL aG.length aM]) kz kz rfl (qby (au.own 1 _ rfl) (qbx kz)) (qbJ (au.own 1 _ rfl)) (by omega) fun aO aP eK eL af bi cw=>?_)
  have bj:=TT.ofW ((ae.trans aa).trans af) bi
  refine ⟨fun _=>bj,?_⟩
  refine qaN [6] [(1,.p 0 0),(2,.p 1 0),(3,.p 2 0),(16,.v (.slice A8 l4.length c9)),(17,.v (.int .i64 ((l4.length:Nat):Int))),(18,.v (.int .i64 ((k:Nat):Int))),(27,.v (.slice aO (k + 1) aP)),(28,.p 2 3)] 1 (qac (qaa (qaa (qac (qaa qaf))))) (fun _ h=>h.cells) bj cw fun eM cz=>?_
  refine qav (i:=7) kz (qam bi cz (oi:=2) (cs:=[.int .i64 n1,.slice A6 s2.length c7,.bool b3,.slice aO (k + 1) aP,.slice none 0 0]) kz fun eN ah bk cA=>?_)
  refine ⟨fun h=>absurd rfl h,?_⟩
  refine qaJ kz ?_ _
  refine qax ?_
  refine qab ?_
  refine qap [0,1] kz ?_
  refine qaj [0,1] [] [(1,.p 0 0),(2,.p 1 0),(3,.p 2 0),(16,.v (.slice A8 l4.length c9)),(17,.v (.int .i64 ((l4.length:Nat):Int))),(18,.v (.int .i64 (IntKind.i64.wrap (((k:Nat):Int) + 1))))] bk cA fun eO cB=>?_
  refine qae (qab ?_)
  obtain ⟨bn,cC,ai⟩:=bk.cutB cB 3 [⟨bF,0,[.int .i64 n1,.slice A6 s2.length c7,.bool b3,.slice A8 l4.length c9,.slice ap u5.length ar],true⟩,⟨bG,0,[.int .i64 0,.slice none 0 0,.bool false,.slice none 0 0,.slice none 0 0],true⟩,⟨bH,0,[.int .i64 n1,.slice A6 s2.length c7,.bool b3,.slice aO (k + 1) aP,.slice none 0 0],true⟩] [(1,.p 0 0),(2,.p 1 0),(3,.p 2 0),(16,.v (.slice A8 l4.length c9)),(17,.v (.int .i64 ((l4.length:Nat):Int))),(18,.v (.int .i64 (IntKind.i64.wrap (((k:Nat):Int) + 1))))]
  obtain ⟨cD,aj⟩:=cC.cutR 1 [⟨aO,aP,26,5,k + 1,xs ++ [.int .i64 aC,.slice aH aD.length aI,.bool aE,.slice aJ aF.length aK,.slice aL aG.length aM]⟩]
  have cE:IntKind.i64.wrap (((k:Nat):Int) + 1) = ((k + 1:Nat):Int):=qa3 (by omega)
  rw [cE] at bn
  exact ⟨l4.length - (k + 1),by omega,k + 1,aO,aP,xs ++ [Value.int .i64 aC,.slice aH aD.length aI,.bool aE,.slice aJ aF.length aK,.slice aL aG.length aM],(css ++ [[Value.int .i64 aC,.slice aH aD.length aI,.bool aE,.slice aJ aF.length aK,.slice aL aG.length aM]]),rfl,by omega,by rw [qcR bC]; exact (hT.move ((((((((ax.trans ay).trans az).trans ae).trans aa).trans af).trans ah).trans ai).trans aj).step immM ((((((((ax.trans ay).trans az).trans ae).trans aa).trans af).trans ah).trans ai).trans aj).to').snoc (aB.move ((((aa.trans af).trans ah).trans ai).trans aj).step immM ((((aa.trans af).trans ah).trans ai).trans aj).to'),bn.pk,cD,(((((((((dg.trans ax).trans ay).trans az).trans ae).trans aa).trans af).trans ah).trans ai).trans aj)⟩
 have dL:=of_decide_eq_false bB
 refine wp_exit ?_
 refine qaw ?_
 refine qaw ?_
 refine qaT ?_
 refine qab ?_
 refine wp_seq ?_
 refine qas [(2,.p 1 0),(3,.p 2 0),(31,.v (.slice ap u5.length ar)),(32,.v (.int .i64 ((u5.length:Nat):Int))),(33,.v (.int .i64 0))] aw bA fun eP cG=>?_
 refine wp_block ?_
 have hk0:k = l4.length:=by omega
 have bo:=aw.addNil 65 2
 have bp:=aw.frNil 65 2
 refine wp_loop_ghost (fun n_ a_ w_=>∃ (q:Nat) (A5_:Option Addr) (c5_:Nat) (ys:List Value) (dss:List (List Value)),n_ = u5.length - q ∧ q ≤ u5.length ∧ (Tags w_ (Imm F w w_ [⟨bF,0,[.int .i64 n1,.slice A6 s2.length c7,.bool b3,.slice A8 l4.length c9,.slice ap u5.length ar],true⟩,⟨bG,0,[.int .i64 0,.slice none 0 0,.bool false,.slice none 0 0,.slice none 0 0],true⟩,⟨bH,0,[.int .i64 n1,.slice A6 s2.length c7,.bool b3,.slice A_ k c_,.slice A5_ q c5_],true⟩] [⟨A_,c_,26,5,k,xs⟩,⟨A5_,c5_,65,2,q,ys⟩]) ys (u5.take q) dss) ∧ LInv bo 49 [⟨bF,0,[.int .i64 n1,.slice A6 s2.length c7,.bool b3,.slice A8 l4.length c9,.slice ap u5.length ar],true⟩,⟨bG,0,[.int .i64 0,.slice none 0 0,.bool false,.slice none 0 0,.slice none 0 0],true⟩,⟨bH,0,[.int .i64 n1,.slice A6 s2.length c7,.bool b3,.slice A_ k c_,.slice A5_ q c5_],true⟩] [⟨A_,c_,26,5,k,xs⟩,⟨A5_,c5_,65,2,q,ys⟩] [(2,.p 1 0),(3,.p 2 0),(31,.v (.slice ap u5.length ar)),(32,.v (.int .i64 ((u5.length:Nat):Int))),(33,.v (.int .i64 ((q:Nat):Int)))] a_ w_) (u5.length) ⟨0,none,0,[],[],by omega,by omega,Tags.nil _ _,cG.pk,bo,Fr.refl _ _ _⟩ ?_
 rintro eQ eR eS ⟨q,A5_,c5_,ys,dss,dM,dN,hU,cH,ak,aQ⟩
 refine qas [(2,.p 1 0),(3,.p 2 0),(31,.v (.slice ap u5.length ar)),(32,.v (.int .i64 ((u5.length:Nat):Int))),(33,.v (.int .i64 ((q:Nat):Int))),(34,.v (.bool (decide (((q:Nat):Int) < ((u5.length:Nat):Int)))))] ak cH fun eU aR=>?_
 refine wp_seq ?_
 refine qaE aR (b:=decide (((q:Nat):Int) < ((u5.length:Nat):Int))) kz (fun aS=>?_) (fun aS=>?_)
 ·
  have dO:=of_decide_eq_true aS
  refine wp_skip ?_
  refine qab ?_
  refine wp_seq ?_
  refine wp_block ?_
  refine qad [0,1,2,3] kz ?_
  obtain ⟨dr,dt,cI,dP,aT⟩:=Slots.get dA (i:=q) (by omega)
  obtain ⟨⟨ab,ac⟩,bq⟩:∃ x,u5[q]? = some x:=⟨_,List.getElem?_eq_getElem (by omega)⟩
  obtain ⟨⟨al,am,bE,cJ⟩,du,dv⟩:=dX q ab ac bq
  rw [bE] at aT
  refine qai (qat aR (t:=35) (A:=ap) (m:=u5.length) (q:=((q:Nat):Int)) (d:=35) kz (e:=64) (size:=2) (bytes:=32) kz cI rfl (by omega) fun eV cK=>?_)
  refine qai (qaK cK (t:=64) (b:=dr) (o:=dt + q * 2) (d:=36) kz (cs:=[.int .u32 ab,.slice al ac.length am]) (v:=.agg #[.int .u32 ab,.slice al ac.length am]) kz (AtF.move aT ak.step nilM qbb).at_ fun eW cL=>?_)
  refine qai (qaO ak cL (d:=7) (cs:=[.int .u32 0,.slice none 0 0]) kz fun eX eY eZ dQ dR aU cM cN=>?_)
  refine qai (qam cM cN (oi:=3) (cs:=[.int .u32 ab,.slice al ac.length am]) kz fun e9 aV bt cO=>?_)
  refine qae (qab ?_)
  refine qap [0,1,2,3,4,5,6,7,8,9,10] kz ?_
  refine qaj [0,1,2,3,4,5,6] [7,8,9,10] [(2,.p 1 0),(3,.p 2 0),(31,.v (.slice ap u5.length ar)),(32,.v (.int .i64 ((u5.length:Nat):Int))),(33,.v (.int .i64 ((q:Nat):Int))),(38,.v (.slice A5_ q c5_)),(43,.v (.agg #[.int .u32 ab,.slice al ac.length am]))] bt cO fun fa cP=>?_
  refine qcx bt cP (k:=1) (e:=65) (size:=2) (len:=1) (cs:=[.int .u32 ab,.slice al ac.length am]) (d1:=44) (d:=45) kz (t:=24) (bytes:=32) kz (fun _=>by kernel_rfl) rfl kz (by omega) fun ba bd fb fe aW bu ⟨_,cQ⟩=>?_
  refine qaj [9] [10] [(2,.p 1 0),(3,.p 2 0),(31,.v (.slice ap u5.length ar)),(32,.v (.int .i64 ((u5.length:Nat):Int))),(33,.v (.int .i64 ((q:Nat):Int))),(45,.v (.slice ba (q + 1) bd)),(46,.p 2 4)] bu cQ fun ff cR=>?_
  refine qai (qam bu cR (oi:=2) (cs:=[.int .i64 n1,.slice A6 s2.length c7,.bool b3,.slice A_ k c_,.slice ba (q + 1) bd]) kz fun fg aX bw cS=>?_)
  refine qae ?_
  refine qax ?_
  refine qab ?_
  refine qap [0,1] kz ?_
  refine qaj [0,1] [] [(2,.p 1 0),(3,.p 2 0),(31,.v (.slice ap u5.length ar)),(32,.v (.int .i64 ((u5.length:Nat):Int))),(33,.v (.int .i64 (IntKind.i64.wrap (((q:Nat):Int) + 1))))] bw cS fun fh cT=>?_
  refine qae (qab ?_)
  obtain ⟨bx,aY,aZ⟩:=bw.cutB cT 3 [⟨bF,0,[.int .i64 n1,.slice A6 s2.length c7,.bool b3,.slice A8 l4.length c9,.slice ap u5.length ar],true⟩,⟨bG,0,[.int .i64 0,.slice none 0 0,.bool false,.slice none 0 0,.slice none 0 0],true⟩,⟨bH,0,[.int .i64 n1,.slice A6 s2.length c7,.bool b3,.slice A_ k c_,.slice ba (q + 1) bd],true⟩] [(2,.p 1 0),(3,.p 2 0),(31,.v (.slice ap u5.length ar)),(32,.v (.int .i64 ((u5.length:Nat):Int))),(33,.v (.int .i64 (IntKind.i64.wrap (((q:Nat):Int) + 1))))]
  have cU:IntKind.i64.wrap (((q:Nat):Int) + 1) = ((q + 1:Nat):Int):=qa3 (by omega)
  rw [cU] at bx
  exact ⟨u5.length - (q + 1),by omega,q + 1,ba,bd,ys ++ [Value.int .u32 ab,.slice al ac.length am],(dss ++ [[Value.int .u32 ab,.slice al ac.length am]]),rfl,by omega,by rw [qcR bq]; exact (hU.move ((((aU.trans aV).trans aW).trans aX).trans aZ).step immM ((((aU.trans aV).trans aW).trans aX).trans aZ).to').snoc (c:=[.int .u32 ab,.slice al ac.length am]) (x:=(ab,ac)) ⟨⟨_,_,rfl,(cJ.move aY.step nilM aY.imm)⟩,du,dv⟩,bx.pk,aY,(((((aQ.trans aU).trans aV).trans aW).trans aX).trans aZ)⟩
 have dS:=of_decide_eq_false aS
 refine wp_exit ?_
 refine qaw ?_
 refine qaw ?_
 refine qaT ?_
 refine qab ?_
 refine qad [0,1] kz ?_
 refine qaj [0] [1] [(2,.p 1 0),(48,.v (.agg #[.int .i64 n1,.slice A6 s2.length c7,.bool b3,.slice A_ k c_,.slice A5_ q c5_]))] ak aR fun fi cV=>?_
 refine qai (qam ak cV (oi:=1) (cs:=[.int .i64 n1,.slice A6 s2.length c7,.bool b3,.slice A_ k c_,.slice A5_ q c5_]) kz fun fj av ao cW=>?_)
 refine qae (qab ?_)
 refine wp_ret ?_
 refine qaX cW ao.cells (v:=.agg #[.int .i64 n1,.slice A6 s2.length c7,.bool b3,.slice A_ k c_,.slice A5_ q c5_]) kz ?_
 have hq0:q = u5.length:=by omega
 have hT':=(hT.move ((bp.trans aQ).trans av).step immM ((bp.trans aQ).trans av).to')
 have hU':=(hU.move av.step immM av.to')
 rw [show l4.take k = l4 by rw [hk0,List.take_length]] at hT'
 rw [show u5.take q = u5 by rw [hq0,List.take_length]] at hU'
 exact qjm ao rfl (dw.move ao.step nilM qka) hk0 (qgW ao (k:=0) rfl hT' hk0 (by omega)) hq0 (qj9 ao (k:=1) rfl hU' hq0 (by omega)) rfl
theorem lGot:∀ m,qkW m
 | 0=>fun ct t w F ht hd=>by
  obtain ⟨n,s,b,l,u,A1,c1,A2,c2,A3,c3,xs,rfl,_⟩:=ht.open_
  rw [qf7] at hd; omega
 | m + 1=>qi0 (lGot m)
theorem qgN {u:List (Int × Bs)} {A:Option Addr} {c:Nat} {w:World} {F:Nat → Nat → Prop} (hu:TagsR w F A c u) (hsrt:qc3 u):Calls Tryz.prog 105 #[.slice A u.length c] w (qcG w (.tuple #[])):=by
 obtain ⟨cs1,h2,h3⟩:=hu.ex
 have hsm4:=h2.small
 refine enter (n:=45) Tryz.func105 rfl Tryz.ntmps105 kz fun a hE=>?_
 have hW:=WOk.start w Nil
 refine qas [(0,.v (.slice A u.length c)),(5,.v (.int .i64 ((u.length:Nat):Int))),(6,.v (.int .i64 0))] hW hE fun a5 hE6=>?_
 refine wp_block ?_
 refine wp_loop_ghost (fun n_ a_ w_=>∃ (k:Nat),n_ = u.length - k ∧ k ≤ u.length ∧ LInv hW 45 [] [] [(0,.v (.slice A u.length c)),(5,.v (.int .i64 ((u.length:Nat):Int))),(6,.v (.int .i64 ((k:Nat):Int)))] a_ w_) (u.length) ⟨0,by omega,by omega,hE6.pk,hW,Fr.refl _ _ _⟩ ?_
 rintro n7 a8 w9 ⟨k,aW,aX,aB,ab,aj⟩
 refine qas [(0,.v (.slice A u.length c)),(5,.v (.int .i64 ((u.length:Nat):Int))),(6,.v (.int .i64 ((k:Nat):Int))),(7,.v (.bool (decide (((k:Nat):Int) < ((u.length:Nat):Int)))))] ab aB fun bn ah=>?_
 refine wp_seq ?_
 refine qaE ah (b:=decide (((k:Nat):Int) < ((u.length:Nat):Int))) kz (fun ai=>?_) (fun ai=>?_)
 ·
  have aY:=of_decide_eq_true ai
  refine wp_skip ?_
  refine qab ?_
  refine wp_seq ?_
  refine wp_block ?_
  refine qas [(0,.v (.slice A u.length c)),(2,.v (.int .i64 ((k:Nat):Int))),(5,.v (.int .i64 ((u.length:Nat):Int))),(6,.v (.int .i64 ((k:Nat):Int)))] ab ah fun bo aC=>?_
  refine qas [(0,.v (.slice A u.length c)),(3,.v (.int .i64 ((k:Nat):Int))),(5,.v (.int .i64 ((u.length:Nat):Int))),(6,.v (.int .i64 ((k:Nat):Int)))] ab aC fun bp aD=>?_
  refine wp_block ?_
  refine qfN ?_
  refine wp_seq ?_
  refine qb1 kz ab fun bq ak aa=>?_
  refine qaN [0,1,2] [(0,.v (.slice A u.length c)),(3,.v (.int .i64 ((k:Nat):Int))),(5,.v (.int .i64 ((u.length:Nat):Int))),(6,.v (.int .i64 ((k:Nat):Int))),(12,.v (.bool (decide (((k:Nat):Int) > 0))))] 13 (qaa (qaa (qaa (qac (qac (qaa (qaa (qac qaf)))))))) (fun _ h=>h ▸ aa.cells) rfl aD fun bt al=>?_
  refine (Bool.eq_false_or_eq_true (decide (((k:Nat):Int) > 0))).elim (fun ac=>?_) (fun ac=>?_)
  ·
   have aZ:=of_decide_eq_true ac
   have aE:=al.cast (env':=[(0,.v (.slice A u.length c)),(3,.v (.int .i64 ((k:Nat):Int))),(5,.v (.int .i64 ((u.length:Nat):Int))),(6,.v (.int .i64 ((k:Nat):Int))),(12,.v (.bool true))]) (by rw [ac])
   refine qaN [3,4,8,9,10] [(0,.v (.slice A u.length c)),(3,.v (.int .i64 ((k:Nat):Int))),(5,.v (.int .i64 ((u.length:Nat):Int))),(6,.v (.int .i64 ((k:Nat):Int))),(12,.v (.bool true)),(13,.v (.slice A u.length c)),(14,.v (.int .i64 ((k:Nat):Int))),(18,.v (.slice A u.length c)),(20,.v (.int .i64 (IntKind.i64.wrap (((k:Nat):Int) - 1))))] 8 (qaa (qaa (qaa (qac (qac (qaa (qaa (qac qaf)))))))) (fun _ h=>h ▸ aa.cells) rfl aE fun bu aF=>?_
   obtain ⟨az,aA,aG,ba,ae⟩:=Slots.get h2 (i:=k) (by omega)
   obtain ⟨⟨af,bd⟩,am⟩:∃ x,u[k]? = some x:=⟨_,List.getElem?_eq_getElem (by omega)⟩
   obtain ⟨⟨bw,bx,ao,bf⟩,bz,bA⟩:=h3 k af bd am
   rw [ao] at ae
   refine qaW aF (i:=5) (t:=35) (A:=A) (m:=u.length) (q:=((k:Nat):Int)) (d:=15) kz (e:=64) (size:=2) (bytes:=32) kz aG rfl (by omega) kz kz (qaa (qaa (qaa (qac (qac (qaa (qaa (qac qaf)))))))) rfl fun bB aH=>?_
   refine qaN [6] [(0,.v (.slice A u.length c)),(3,.v (.int .i64 ((k:Nat):Int))),(5,.v (.int .i64 ((u.length:Nat):Int))),(6,.v (.int .i64 ((k:Nat):Int))),(12,.v (.bool true)),(16,.v (.pointer (some ⟨az,aA + k * 2,none⟩))),(18,.v (.slice A u.length c)),(20,.v (.int .i64 (IntKind.i64.wrap (((k:Nat):Int) - 1))))] 6 (qaa (qaa (qaa (qac (qac (qaa (qaa (qac qaf)))))))) (fun _ h=>h ▸ aa.cells) rfl aH fun bC aI=>?_
   refine qbn aI (i:=7) (t:=62) (b:=az) (o:=aA + k * 2) (d:=17) kz (cs:=[.int .u32 af]) (v:=.int .u32 af) kz (fun w' h'=>h' ▸ (At.drop (AtF.move ae aa.step nilM qbb).at_ 0 1)) kz kz (qaa (qaa (qaa (qac (qac (qaa (qaa (qac qaf)))))))) rfl fun bD aJ=>?_
   have aK:IntKind.i64.wrap (((k:Nat):Int) - 1) = (((k - 1):Nat):Int):=by simp only [qcF,qan,qbv,IntKind.wrap_i64,IntKind.wrap_i32]; omega
   have aL:=EnvOk.pick aJ (ks:=[0,3,5,6,12,16,18,20,17]) (env':=[(0,.v (.slice A u.length c)),(3,.v (.int .i64 ((k:Nat):Int))),(5,.v (.int .i64 ((u.length:Nat):Int))),(6,.v (.int .i64 ((k:Nat):Int))),(12,.v (.bool true)),(16,.v (.pointer (some ⟨az,aA + k * 2,none⟩))),(18,.v (.slice A u.length c)),(20,.v (.int .i64 (IntKind.i64.wrap (((k:Nat):Int) - 1)))),(17,.v (.int .u32 af))]) kz
   have aM:=aL.cast (env':=[(0,.v (.slice A u.length c)),(3,.v (.int .i64 ((k:Nat):Int))),(5,.v (.int .i64 ((u.length:Nat):Int))),(6,.v (.int .i64 ((k:Nat):Int))),(12,.v (.bool true)),(16,.v (.pointer (some ⟨az,aA + k * 2,none⟩))),(18,.v (.slice A u.length c)),(20,.v (.int .i64 (((k - 1):Nat):Int))),(17,.v (.int .u32 af))]) (by rw [aK])
   obtain ⟨aU,aV,aN,bg,ag⟩:=Slots.get h2 (i:=(k - 1)) (by omega)
   obtain ⟨⟨ap,bh⟩,ar⟩:∃ x,u[(k - 1)]? = some x:=⟨_,List.getElem?_eq_getElem (by omega)⟩
   obtain ⟨⟨bE,bF,au,bi⟩,bG,bH⟩:=h3 (k - 1) ap bh ar
   rw [au] at ag
   refine qaW aM (i:=11) (t:=35) (A:=A) (m:=u.length) (q:=(((k - 1):Nat):Int)) (d:=21) kz (e:=64) (size:=2) (bytes:=32) kz aN rfl (by omega) kz kz (qaa (qaa (qaa (qac (qac (qaa (qaa (qac qaf)))))))) rfl fun bI aO=>?_
   refine qaN [12] [(0,.v (.slice A u.length c)),(3,.v (.int .i64 ((k:Nat):Int))),(5,.v (.int .i64 ((u.length:Nat):Int))),(6,.v (.int .i64 ((k:Nat):Int))),(12,.v (.bool true)),(17,.v (.int .u32 af)),(22,.v (.pointer (some ⟨aU,aV + (k - 1) * 2,none⟩)))] 3 (qaa (qaa (qaa (qac (qac (qaa (qaa (qac qaf)))))))) (fun _ h=>h ▸ aa.cells) rfl aO fun bJ aP=>?_
   refine qbn aP (i:=13) (t:=62) (b:=aU) (o:=aV + (k - 1) * 2) (d:=23) kz (cs:=[.int .u32 ap]) (v:=.int .u32 ap) kz (fun w' h'=>h' ▸ (At.drop (AtF.move ag aa.step nilM qbb).at_ 0 1)) kz kz (qaa (qaa (qaa (qac (qac (qaa (qaa (qac qaf)))))))) rfl fun bK aQ=>?_
   refine qaN [14,15] [(0,.v (.slice A u.length c)),(3,.v (.int .i64 ((k:Nat):Int))),(5,.v (.int .i64 ((u.length:Nat):Int))),(6,.v (.int .i64 ((k:Nat):Int))),(25,.v (.bool (decide (af < ap))))] 0 (qaa (qaa (qaa (qac (qac (qaa (qaa (qac qaf)))))))) (fun _ h=>h ▸ aa.cells) rfl aQ fun bL av=>?_
   refine qaJ kz ?_ _
   refine qab ?_
   refine qau av (b:=decide (af < ap)) kz (decide_eq_false (qhI hsrt am ar (by omega))) ?_
   refine wp_exit ?_
   refine qaw ?_
   refine qaw ?_
   refine qaT ?_
   refine qax ?_
   refine qab ?_
   refine qap [0,1] kz ?_
   refine qaj [0,1] [] [(0,.v (.slice A u.length c)),(5,.v (.int .i64 ((u.length:Nat):Int))),(6,.v (.int .i64 (IntKind.i64.wrap (((k:Nat):Int) + 1))))] aa av fun bM aw=>?_
   refine qae (qab ?_)
   have aR:IntKind.i64.wrap (((k:Nat):Int) + 1) = ((k + 1:Nat):Int):=qa3 (by omega)
   rw [aR] at aw
   exact ⟨u.length - (k + 1),by omega,k + 1,rfl,by omega,aw.pk,aa,(aj.trans ak)⟩
  have bj:=of_decide_eq_false ac
  have aS:=al.cast (env':=[(0,.v (.slice A u.length c)),(3,.v (.int .i64 ((k:Nat):Int))),(5,.v (.int .i64 ((u.length:Nat):Int))),(6,.v (.int .i64 ((k:Nat):Int))),(12,.v (.bool false))]) (by rw [ac])
  refine qaN [3,4,5,6,7,8,9,10,11,12,13,14,15] [(0,.v (.slice A u.length c)),(3,.v (.int .i64 ((k:Nat):Int))),(5,.v (.int .i64 ((u.length:Nat):Int))),(6,.v (.int .i64 ((k:Nat):Int))),(25,.v (.bool false))] 0 (qaa (qaa (qaa (qac (qac (qaa (qaa (qac qaf)))))))) (fun _ h=>h ▸ aa.cells) rfl aS fun bN ax=>?_
  refine qaJ kz ?_ _
  refine qab ?_
  refine qau ax (b:=false) kz rfl ?_
  refine wp_exit ?_
  refine qaw ?_
  refine qaw ?_
  refine qaT ?_
  refine qax ?_
  refine qab ?_
  refine qap [0,1] kz ?_
  refine qaj [0,1] [] [(0,.v (.slice A u.length c)),(5,.v (.int .i64 ((u.length:Nat):Int))),(6,.v (.int .i64 (IntKind.i64.wrap (((k:Nat):Int) + 1))))] aa ax fun bO ay=>?_
  refine qae (qab ?_)
  have aT:IntKind.i64.wrap (((k:Nat):Int) + 1) = ((k + 1:Nat):Int):=qa3 (by omega)
  rw [aT] at ay
  exact ⟨u.length - (k + 1),by omega,k + 1,rfl,by omega,ay.pk,aa,(aj.trans ak)⟩
 have bk:=of_decide_eq_false ai
 refine wp_exit ?_
 refine qaw ?_
 refine qaw ?_
 refine qaT ?_
 refine qbF ah ab.cells (v:=.tuple #[]) kz ?_
 exact ⟨rfl,ab.step⟩
theorem qkX (s:ByteArray) (w:World) (F:Nat → Nat → Prop):Calls Tryz.prog 101 #[.pointer none] w (qc0 w F (.mk 0 [] true [] [])):=by
 refine enter (n:=11) Tryz.func101 rfl Tryz.ntmps101 kz fun a hE=>?_
 have hW:=WOk.start w Nil
 refine qad [0] kz ?_
 refine qai (qaO hW hE (d:=2) (cs:=[.int .i64 0,.slice none 0 0,.bool false,.slice none 0 0,.slice none 0 0]) kz fun b1 a2 w3 hb4 hz5 hF6 hW7 hE8=>?_)
 refine qae (qab ?_)
 refine wp_seq ?_
 refine qas [(0,.v (.pointer none)),(2,.p 0 0),(4,.v (.bool true))] hW7 hE8 fun a9 aa=>?_
 refine qbl aa (b:=true) kz rfl ?_
 refine qad [0,1] kz ?_
 refine qaj [0] [1] [(2,.p 0 0),(5,.v (.agg #[.int .i64 0,.slice none 0 0,.bool true,.slice none 0 0,.slice none 0 0]))] hW7 aa fun ah ac=>?_
 refine qai (qam hW7 ac (oi:=0) (cs:=[.int .i64 0,.slice none 0 0,.bool true,.slice none 0 0,.slice none 0 0]) kz fun af ag ab ae=>?_)
 refine qae (qab ?_)
 refine wp_ret ?_
 refine qaD ?_
 refine qaX ae ab.cells (v:=.agg #[.int .i64 0,.slice none 0 0,.bool true,.slice none 0 0,.slice none 0 0]) kz ?_
 exact ⟨_,rfl,(show TreeR _ (Imm F w af [⟨b1,0,[.int .i64 0,.slice none 0 0,.bool true,.slice none 0 0,.slice none 0 0],true⟩] []) _ (Tree.mk 0 [] true [] []) from (TreeR.mk (n:=0) (b:=true) (s:=[]) (l:=[]) (u:=[]) (fun _=>[]) (Octs.nil _ _) (Slots.nil _ _ _ _) (fun i_ x_ h_=>by simp at h_) (TagsR.nil _ _))).move (Step.refl _ Nil) nilM qbG,ab.step⟩
theorem qkY (b o:Nat) (s:ByteArray) (w:World) (F:Nat → Nat → Prop) (hat:AtF w F b o [.string s]) (hs:s.size ≤ 1000000):Calls Tryz.prog 101 #[.pointer (some ⟨b,o,none⟩)] w (qc0 w F (.mk 0 (sb s) false [] [])):=by
 refine enter (n:=11) Tryz.func101 rfl Tryz.ntmps101 kz fun a hE=>?_
 have hW:=WOk.start w Nil
 refine qad [0] kz ?_
 refine qai (qaO hW hE (d:=2) (cs:=[.int .i64 0,.slice none 0 0,.bool false,.slice none 0 0,.slice none 0 0]) kz fun b1 a2 w3 hb4 hz5 hF6 hW7 hE8=>?_)
 refine qae (qab ?_)
 refine wp_seq ?_
 refine qas [(0,.v (.pointer (some ⟨b,o,none⟩))),(2,.p 0 0),(4,.v (.bool false))] hW7 hE8 fun a9 aa=>?_
 refine qau aa (b:=false) kz rfl ?_
 refine wp_skip ?_
 refine qab ?_
 refine qad [0,1,2,3,4,5] kz ?_
 refine qaj [0,1] [2,3,4,5] [(2,.p 0 0),(7,.v (.pointer (some ⟨b,o,none⟩)))] hW7 aa fun au ah=>?_
 refine qai (qaK ah (t:=9) (b:=b) (o:=o) (d:=8) kz (cs:=[.string s]) (v:=.string s) kz (AtF.move hat hW7.step nilM qbb).at_ fun av ai=>?_)
 refine qai (qfq (d:=9) (src:=9) (dst:=22) (e:=5) (s:=s) hW7 ai (by omega) fun af ag aw ax ap ab aj ak=>?_)
 have al:=aj F
 refine qaj [4] [5] [(2,.p 0 0),(10,.v (.agg #[.int .i64 0,.slice (some ⟨af,0,none⟩) ((sb s).length) ag,.bool false,.slice none 0 0,.slice none 0 0]))] ab ak fun ay am=>?_
 refine qai (qam ab am (oi:=0) (cs:=[.int .i64 0,.slice (some ⟨af,0,none⟩) ((sb s).length) ag,.bool false,.slice none 0 0,.slice none 0 0]) kz fun ar ac ae ao=>?_)
 refine qae (qab ?_)
 refine wp_ret ?_
 refine qaX ao ae.cells (v:=.agg #[.int .i64 0,.slice (some ⟨af,0,none⟩) ((sb s).length) ag,.bool false,.slice none 0 0,.slice none 0 0]) kz ?_
 exact ⟨_,rfl,(show TreeR _ (Imm F w ar [⟨b1,0,[.int .i64 0,.slice (some ⟨af,0,none⟩) ((sb s).length) ag,.bool false,.slice none 0 0,.slice none 0 0],true⟩] []) _ (Tree.mk 0 (sb s) false [] []) from (TreeR.mk (n:=0) (b:=false) (s:=(sb s)) (l:=[]) (u:=[]) (fun _=>[]) (al.move ac.step immM ac.to') (Slots.nil _ _ _ _) (fun i_ x_ h_=>by simp at h_) (TagsR.nil _ _))).move (Step.refl _ Nil) nilM qbG,ae.step⟩
theorem qkZ (A:Option Addr) (s:ByteArray) (w:World) (F:Nat → Nat → Prop) (hO:∀ ad,A = some ad → ∃ b o,ad = ⟨b,o,none⟩ ∧ AtF w F b o [.string s]) (hs:s.size ≤ 1000000):Calls Tryz.prog 101 #[.pointer A] w (qc0 w F (qiZ A s)):=by
 cases A with
 | none=>exact qkX s w F
 | some ad =>
  obtain ⟨b,o,rfl,h⟩:=hO ad rfl
  exact qkY b o s w F h hs
theorem qhK (w:World) (F:Nat → Nat → Prop):Calls Tryz.prog 100 #[.bool true] w (qc0 w F (.mk 1 [] false [] [])):=by
 refine enter (n:=6) Tryz.func100 rfl Tryz.ntmps100 kz fun a hE=>?_
 have hW:=WOk.start w Nil
 refine qad [0] kz ?_
 refine qai (qaO hW hE (d:=2) (cs:=[.int .i64 0,.slice none 0 0,.bool false,.slice none 0 0,.slice none 0 0]) kz fun b1 a2 w3 hb4 hz5 hF6 hW7 hE8=>?_)
 refine qae (qab ?_)
 refine wp_seq ?_
 refine qas [(2,.p 0 0),(3,.v (.bool true))] hW7 hE8 fun a9 aa=>?_
 refine qbl aa (b:=true) kz rfl ?_
 refine qad [0,1] kz ?_
 refine qaj [0] [1] [(2,.p 0 0),(4,.v (.agg #[.int .i64 1,.slice none 0 0,.bool false,.slice none 0 0,.slice none 0 0]))] hW7 aa fun ah ac=>?_
 refine qai (qam hW7 ac (oi:=0) (cs:=[.int .i64 1,.slice none 0 0,.bool false,.slice none 0 0,.slice none 0 0]) kz fun af ag ab ae=>?_)
 refine qae (qab ?_)
 refine wp_ret ?_
 refine qaD ?_
 refine qaX ae ab.cells (v:=.agg #[.int .i64 1,.slice none 0 0,.bool false,.slice none 0 0,.slice none 0 0]) kz ?_
 exact ⟨_,rfl,(show TreeR _ (Imm F w af [⟨b1,0,[.int .i64 1,.slice none 0 0,.bool false,.slice none 0 0,.slice none 0 0],true⟩] []) _ (Tree.mk 1 [] false [] []) from (TreeR.mk (n:=1) (b:=false) (s:=[]) (l:=[]) (u:=[]) (fun _=>[]) (Octs.nil _ _) (Slots.nil _ _ _ _) (fun i_ x_ h_=>by simp at h_) (TagsR.nil _ _))).move (Step.refl _ Nil) nilM qbG,ab.step⟩
theorem qgO (w:World) (F:Nat → Nat → Prop):Calls Tryz.prog 100 #[.bool false] w (qc0 w F (.mk 0 [] false [] [])):=by
 refine enter (n:=6) Tryz.func100 rfl Tryz.ntmps100 kz fun a hE=>?_
 have hW:=WOk.start w Nil
 refine qad [0] kz ?_
 refine qai (qaO hW hE (d:=2) (cs:=[.int .i64 0,.slice none 0 0,.bool false,.slice none 0 0,.slice none 0 0]) kz fun b1 a2 w3 hb4 hz5 hF6 hW7 hE8=>?_)
 refine qae (qab ?_)
 refine wp_seq ?_
 refine qas [(2,.p 0 0),(3,.v (.bool false))] hW7 hE8 fun a9 aa=>?_
 refine qau aa (b:=false) kz rfl ?_
 refine wp_skip ?_
 refine qab ?_
 refine qad [0,1] kz ?_
 refine qaj [0] [1] [(2,.p 0 0),(5,.v (.agg #[.int .i64 0,.slice none 0 0,.bool false,.slice none 0 0,.slice none 0 0]))] hW7 aa fun ah ac=>?_
 refine qai (qam hW7 ac (oi:=0) (cs:=[.int .i64 0,.slice none 0 0,.bool false,.slice none 0 0,.slice none 0 0]) kz fun af ag ab ae=>?_)
 refine qae (qab ?_)
 refine wp_ret ?_
 refine qaX ae ab.cells (v:=.agg #[.int .i64 0,.slice none 0 0,.bool false,.slice none 0 0,.slice none 0 0]) kz ?_
 exact ⟨_,rfl,(show TreeR _ (Imm F w af [⟨b1,0,[.int .i64 0,.slice none 0 0,.bool false,.slice none 0 0,.slice none 0 0],true⟩] []) _ (Tree.mk 0 [] false [] []) from (TreeR.mk (n:=0) (b:=false) (s:=[]) (l:=[]) (u:=[]) (fun _=>[]) (Octs.nil _ _) (Slots.nil _ _ _ _) (fun i_ x_ h_=>by simp at h_) (TagsR.nil _ _))).move (Step.refl _ Nil) nilM qbG,ab.step⟩
theorem qlb (b:Bool) (w:World) (F:Nat → Nat → Prop):Calls Tryz.prog 100 #[.bool b] w (qc0 w F (qjz b)):=by
 cases b
 ·exact qgO w F
 exact qhK w F
theorem qeH:qe3 Tryz.prog 133 64:=by
 intro w B cp c n k A Av x x0 x1 x2 x3 xs G hbx ho hG hn
 refine enter (n:=14) Tryz.func133 rfl Tryz.ntmps133 kz fun a hE=>?_
 have hW:=hbx.wok
 have hE0:=(hE.grow ⟨B,0,[x0,x1,x2,x3,.slice A n cp],true⟩).recast 2 (.v (.pointer (some ⟨B,0,none⟩))) (.p 0 0) rfl rfl (by simp [SV.ok])
 have hsm:=Slots.small ho
 have ap:=hE0.pk (env':=[(0,.v (.int .u32 k)),(1,.v (.slice Av x.length c)),(2,.p 0 0)])
 refine qcE 9 kz hW fun w1 hF2 hW3 hT4=>?_
 refine qaN [0,1,2,3] [(2,.p 0 0),(6,.v (.slice A n cp)),(7,.v (.int .u32 k)),(8,.v (.slice Av x.length c))] 6 qaf (fun _ h=>h.cells) hT4 ap fun a5 hE6=>?_
 have hW7:=hW3.addNil 5 1
 have hF8:=hW3.frNil 5 1
 refine qav (i:=4) kz (qaQ hW7 hE6 (k:=1) (d:=9) (t:=22) (e:=5) (size:=1) (bytes:=1) (A:=none) (As:=Av) (m0:=0) (c:=0) (m:=x.length) (cs:=c) (xs:=[]) (news:=bc x) kz kz rfl (ho.move hW7.step (fun b o h _=>hG b o h) qbb).src (ho.move hW7.step (fun b o h _=>hG b o h) qbb).cap (by first | omega | (simp only [List.length_nil]; omega) | (simp; omega)) fun A9 aa aK aL ac ar au=>?_)
 have av:(⟨A9,aa,5,1,0 + x.length,[] ++ bc x⟩:Rw) = brow A9 aa 5 x:=by rw [List.nil_append,Nat.zero_add]
 obtain ⟨af,ae⟩:=ar.rowEq 1 [⟨A,cp,64,2,n,xs⟩,brow A9 aa 5 x] av
 have aw:=EnvOk.pick au (ks:=[2,6,7,8,9]) (env':=[(2,.p 0 0),(6,.v (.slice A n cp)),(7,.v (.int .u32 k)),(8,.v (.slice Av x.length c)),(9,.v (.slice A9 (0 + x.length) aa))]) kz
 have ax:=aw.cast (env':=[(2,.p 0 0),(6,.v (.slice A n cp)),(7,.v (.int .u32 k)),(8,.v (.slice Av x.length c)),(9,.v (.slice A9 x.length aa))]) (by simp only [List.length_append,List.length_cons,List.length_nil,Nat.zero_add])
 have ag:=TT.ofW ((hF8.trans ac).trans ae) af
 refine ⟨fun _=>ag,?_⟩
 refine qaN [5] [(2,.p 0 0),(6,.v (.slice A n cp)),(10,.v (.agg #[.int .u32 k,.slice A9 x.length aa]))] 4 qaf (fun _ h=>h.cells) ag ax fun aM ay=>?_
 refine qav (i:=6) kz (qbL af ay (e:=64) (size:=2) (len:=1) (cs:=[.int .u32 k,.slice A9 x.length aa]) (d:=11) kz kz fun aF aN aO aG aH ah ab az=>?_)
 have aA:=TT.ofW (((hF8.trans ac).trans ae).trans ah) ab
 refine ⟨fun _=>aA,?_⟩
 refine qav (i:=7) kz (qaQ ab az (k:=0) (d:=12) (t:=35) (e:=64) (size:=2) (bytes:=32) (A:=A) (As:=(some ⟨aF,0,none⟩)) (m0:=n) (c:=cp) (m:=1) (cs:=1) (xs:=xs) (news:=[.int .u32 k,.slice A9 x.length aa]) kz kz rfl (qby (ab.own 2 _ rfl) (qbx kz)) (qbJ (ab.own 2 _ rfl)) (by first | omega | (simp only [List.length_nil]; omega) | (simp; omega)) fun am ao aP aQ aB ai aC=>?_)
 have aj:=TT.ofW ((((hF8.trans ac).trans ae).trans ah).trans aB) ai
 refine ⟨fun _=>aj,?_⟩
 refine qaN [8] [(12,.v (.slice am (n + 1) ao)),(13,.p 0 4)] 1 qaf (fun _ h=>h.cells) aj aC fun aR aD=>?_
 refine qav (i:=9) kz (qam ai aD (oi:=0) (cs:=[x0,x1,x2,x3,.slice am (n + 1) ao]) kz fun aS aI ak aE=>?_)
 refine ⟨fun h=>absurd rfl h,?_⟩
 refine qaJ kz ?_ _
 refine qbF aE ak.cells (v:=.tuple #[]) kz ?_
 obtain ⟨al,aJ⟩:=ak.cutR 2 [⟨am,ao,64,2,n + 1,xs ++ [.int .u32 k,.slice A9 x.length aa]⟩,brow A9 aa 5 x]
 have hoo:=qee (s:=x) (Av:=A9) (c:=aa) (e8:=5) rfl al (by omega)
 obtain ⟨hb1,hb2,hb3⟩:=qfO al (World.lt_of_cell (hbx.str.at_ 0 _ rfl))
 exact ⟨rfl,am,ao,A9,aa,hb1,hoo,hb2,hb3⟩
theorem qcb:qe3 Tryz.prog 104 64:=by
 intro w B cp c n k A Av x x0 x1 x2 x3 xs G hbx ho hG hn
 refine enter (n:=14) Tryz.func104 rfl Tryz.ntmps104 kz fun a hE=>?_
 have hW:=hbx.wok
 have hE0:=(hE.grow ⟨B,0,[x0,x1,x2,x3,.slice A n cp],true⟩).recast 2 (.v (.pointer (some ⟨B,0,none⟩))) (.p 0 0) rfl rfl (by simp [SV.ok])
 have hsm:=Slots.small ho
 have ap:=hE0.pk (env':=[(0,.v (.int .u32 k)),(1,.v (.slice Av x.length c)),(2,.p 0 0)])
 refine qcE 9 kz hW fun w1 hF2 hW3 hT4=>?_
 refine qaN [0,1,2,3] [(2,.p 0 0),(6,.v (.slice A n cp)),(7,.v (.int .u32 k)),(8,.v (.slice Av x.length c))] 6 qaf (fun _ h=>h.cells) hT4 ap fun a5 hE6=>?_
 have hW7:=hW3.addNil 5 1
 have hF8:=hW3.frNil 5 1
 refine qav (i:=4) kz (qaQ hW7 hE6 (k:=1) (d:=9) (t:=22) (e:=5) (size:=1) (bytes:=1) (A:=none) (As:=Av) (m0:=0) (c:=0) (m:=x.length) (cs:=c) (xs:=[]) (news:=bc x) kz kz rfl (ho.move hW7.step (fun b o h _=>hG b o h) qbb).src (ho.move hW7.step (fun b o h _=>hG b o h) qbb).cap (by first | omega | (simp only [List.length_nil]; omega) | (simp; omega)) fun A9 aa aK aL ac ar au=>?_)
 have av:(⟨A9,aa,5,1,0 + x.length,[] ++ bc x⟩:Rw) = brow A9 aa 5 x:=by rw [List.nil_append,Nat.zero_add]
 obtain ⟨af,ae⟩:=ar.rowEq 1 [⟨A,cp,64,2,n,xs⟩,brow A9 aa 5 x] av
 have aw:=EnvOk.pick au (ks:=[2,6,7,8,9]) (env':=[(2,.p 0 0),(6,.v (.slice A n cp)),(7,.v (.int .u32 k)),(8,.v (.slice Av x.length c)),(9,.v (.slice A9 (0 + x.length) aa))]) kz
 have ax:=aw.cast (env':=[(2,.p 0 0),(6,.v (.slice A n cp)),(7,.v (.int .u32 k)),(8,.v (.slice Av x.length c)),(9,.v (.slice A9 x.length aa))]) (by simp only [List.length_append,List.length_cons,List.length_nil,Nat.zero_add])
 have ag:=TT.ofW ((hF8.trans ac).trans ae) af
 refine ⟨fun _=>ag,?_⟩
 refine qaN [5] [(2,.p 0 0),(6,.v (.slice A n cp)),(10,.v (.agg #[.int .u32 k,.slice A9 x.length aa]))] 4 qaf (fun _ h=>h.cells) ag ax fun aM ay=>?_
 refine qav (i:=6) kz (qbL af ay (e:=64) (size:=2) (len:=1) (cs:=[.int .u32 k,.slice A9 x.length aa]) (d:=11) kz kz fun aF aN aO aG aH ah ab az=>?_)
 have aA:=TT.ofW (((hF8.trans ac).trans ae).trans ah) ab
 refine ⟨fun _=>aA,?_⟩
 refine qav (i:=7) kz (qaQ ab az (k:=0) (d:=12) (t:=35) (e:=64) (size:=2) (bytes:=32) (A:=A) (As:=(some ⟨aF,0,none⟩)) (m0:=n) (c:=cp) (m:=1) (cs:=1) (xs:=xs) (news:=[.int .u32 k,.slice A9 x.length aa]) kz kz rfl (qby (ab.own 2 _ rfl) (qbx kz)) (qbJ (ab.own 2 _ rfl)) (by first | omega | (simp only [List.length_nil]; omega) | (simp; omega)) fun am ao aP aQ aB ai aC=>?_)
 have aj:=TT.ofW ((((hF8.trans ac).trans ae).trans ah).trans aB) ai
 refine ⟨fun _=>aj,?_⟩
 refine qaN [8] [(12,.v (.slice am (n + 1) ao)),(13,.p 0 4)] 1 qaf (fun _ h=>h.cells) aj aC fun aR aD=>?_
 refine qav (i:=9) kz (qam ai aD (oi:=0) (cs:=[x0,x1,x2,x3,.slice am (n + 1) ao]) kz fun aS aI ak aE=>?_)
 refine ⟨fun h=>absurd rfl h,?_⟩
 refine qaJ kz ?_ _
 refine qbF aE ak.cells (v:=.tuple #[]) kz ?_
 obtain ⟨al,aJ⟩:=ak.cutR 2 [⟨am,ao,64,2,n + 1,xs ++ [.int .u32 k,.slice A9 x.length aa]⟩,brow A9 aa 5 x]
 have hoo:=qee (s:=x) (Av:=A9) (c:=aa) (e8:=5) rfl al (by omega)
 obtain ⟨hb1,hb2,hb3⟩:=qfO al (World.lt_of_cell (hbx.str.at_ 0 _ rfl))
 exact ⟨rfl,am,ao,A9,aa,hb1,hoo,hb2,hb3⟩
theorem qbW:qe3 Tryz.prog 158 64:=by
 intro w B cp c n k A Av x x0 x1 x2 x3 xs G hbx ho hG hn
 refine enter (n:=14) Tryz.func158 rfl Tryz.ntmps158 kz fun a hE=>?_
 have hW:=hbx.wok
 have hE0:=(hE.grow ⟨B,0,[x0,x1,x2,x3,.slice A n cp],true⟩).recast 2 (.v (.pointer (some ⟨B,0,none⟩))) (.p 0 0) rfl rfl (by simp [SV.ok])
 have hsm:=Slots.small ho
 have ap:=hE0.pk (env':=[(0,.v (.int .u32 k)),(1,.v (.slice Av x.length c)),(2,.p 0 0)])
 refine qcE 9 kz hW fun w1 hF2 hW3 hT4=>?_
 refine qaN [0,1,2,3] [(2,.p 0 0),(6,.v (.slice A n cp)),(7,.v (.int .u32 k)),(8,.v (.slice Av x.length c))] 6 qaf (fun _ h=>h.cells) hT4 ap fun a5 hE6=>?_
 have hW7:=hW3.addNil 5 1
 have hF8:=hW3.frNil 5 1
 refine qav (i:=4) kz (qaQ hW7 hE6 (k:=1) (d:=9) (t:=22) (e:=5) (size:=1) (bytes:=1) (A:=none) (As:=Av) (m0:=0) (c:=0) (m:=x.length) (cs:=c) (xs:=[]) (news:=bc x) kz kz rfl (ho.move hW7.step (fun b o h _=>hG b o h) qbb).src (ho.move hW7.step (fun b o h _=>hG b o h) qbb).cap (by first | omega | (simp only [List.length_nil]; omega) | (simp; omega)) fun A9 aa aK aL ac ar au=>?_)
 have av:(⟨A9,aa,5,1,0 + x.length,[] ++ bc x⟩:Rw) = brow A9 aa 5 x:=by rw [List.nil_append,Nat.zero_add]
 obtain ⟨af,ae⟩:=ar.rowEq 1 [⟨A,cp,64,2,n,xs⟩,brow A9 aa 5 x] av
 have aw:=EnvOk.pick au (ks:=[2,6,7,8,9]) (env':=[(2,.p 0 0),(6,.v (.slice A n cp)),(7,.v (.int .u32 k)),(8,.v (.slice Av x.length c)),(9,.v (.slice A9 (0 + x.length) aa))]) kz
 have ax:=aw.cast (env':=[(2,.p 0 0),(6,.v (.slice A n cp)),(7,.v (.int .u32 k)),(8,.v (.slice Av x.length c)),(9,.v (.slice A9 x.length aa))]) (by simp only [List.length_append,List.length_cons,List.length_nil,Nat.zero_add])
 have ag:=TT.ofW ((hF8.trans ac).trans ae) af
 refine ⟨fun _=>ag,?_⟩
 refine qaN [5] [(2,.p 0 0),(6,.v (.slice A n cp)),(10,.v (.agg #[.int .u32 k,.slice A9 x.length aa]))] 4 qaf (fun _ h=>h.cells) ag ax fun aM ay=>?_
 refine qav (i:=6) kz (qbL af ay (e:=64) (size:=2) (len:=1) (cs:=[.int .u32 k,.slice A9 x.length aa]) (d:=11) kz kz fun aF aN aO aG aH ah ab az=>?_)
 have aA:=TT.ofW (((hF8.trans ac).trans ae).trans ah) ab
 refine ⟨fun _=>aA,?_⟩
 refine qav (i:=7) kz (qaQ ab az (k:=0) (d:=12) (t:=35) (e:=64) (size:=2) (bytes:=32) (A:=A) (As:=(some ⟨aF,0,none⟩)) (m0:=n) (c:=cp) (m:=1) (cs:=1) (xs:=xs) (news:=[.int .u32 k,.slice A9 x.length aa]) kz kz rfl (qby (ab.own 2 _ rfl) (qbx kz)) (qbJ (ab.own 2 _ rfl)) (by first | omega | (simp only [List.length_nil]; omega) | (simp; omega)) fun am ao aP aQ aB ai aC=>?_)
 have aj:=TT.ofW ((((hF8.trans ac).trans ae).trans ah).trans aB) ai
 refine ⟨fun _=>aj,?_⟩
 refine qaN [8] [(12,.v (.slice am (n + 1) ao)),(13,.p 0 4)] 1 qaf (fun _ h=>h.cells) aj aC fun aR aD=>?_
 refine qav (i:=9) kz (qam ai aD (oi:=0) (cs:=[x0,x1,x2,x3,.slice am (n + 1) ao]) kz fun aS aI ak aE=>?_)
 refine ⟨fun h=>absurd rfl h,?_⟩
 refine qaJ kz ?_ _
 refine qbF aE ak.cells (v:=.tuple #[]) kz ?_
 obtain ⟨al,aJ⟩:=ak.cutR 2 [⟨am,ao,64,2,n + 1,xs ++ [.int .u32 k,.slice A9 x.length aa]⟩,brow A9 aa 5 x]
 have hoo:=qee (s:=x) (Av:=A9) (c:=aa) (e8:=5) rfl al (by omega)
 obtain ⟨hb1,hb2,hb3⟩:=qfO al (World.lt_of_cell (hbx.str.at_ 0 _ rfl))
 exact ⟨rfl,am,ao,A9,aa,hb1,hoo,hb2,hb3⟩
theorem qbD:qe3 Tryz.prog 194 64:=by
 intro w B cp c n k A Av x x0 x1 x2 x3 xs G hbx ho hG hn
 refine enter (n:=14) Tryz.func194 rfl Tryz.ntmps194 kz fun a hE=>?_
 have hW:=hbx.wok
 have hE0:=(hE.grow ⟨B,0,[x0,x1,x2,x3,.slice A n cp],true⟩).recast 2 (.v (.pointer (some ⟨B,0,none⟩))) (.p 0 0) rfl rfl (by simp [SV.ok])
 have hsm:=Slots.small ho
 have ap:=hE0.pk (env':=[(0,.v (.int .u32 k)),(1,.v (.slice Av x.length c)),(2,.p 0 0)])
 refine qcE 9 kz hW fun w1 hF2 hW3 hT4=>?_
 refine qaN [0,1,2,3] [(2,.p 0 0),(6,.v (.slice A n cp)),(7,.v (.int .u32 k)),(8,.v (.slice Av x.length c))] 6 qaf (fun _ h=>h.cells) hT4 ap fun a5 hE6=>?_
 have hW7:=hW3.addNil 5 1
 have hF8:=hW3.frNil 5 1
 refine qav (i:=4) kz (qaQ hW7 hE6 (k:=1) (d:=9) (t:=22) (e:=5) (size:=1) (bytes:=1) (A:=none) (As:=Av) (m0:=0) (c:=0) (m:=x.length) (cs:=c) (xs:=[]) (news:=bc x) kz kz rfl (ho.move hW7.step (fun b o h _=>hG b o h) qbb).src (ho.move hW7.step (fun b o h _=>hG b o h) qbb).cap (by first | omega | (simp only [List.length_nil]; omega) | (simp; omega)) fun A9 aa aK aL ac ar au=>?_)
 have av:(⟨A9,aa,5,1,0 + x.length,[] ++ bc x⟩:Rw) = brow A9 aa 5 x:=by rw [List.nil_append,Nat.zero_add]
 obtain ⟨af,ae⟩:=ar.rowEq 1 [⟨A,cp,64,2,n,xs⟩,brow A9 aa 5 x] av
 have aw:=EnvOk.pick au (ks:=[2,6,7,8,9]) (env':=[(2,.p 0 0),(6,.v (.slice A n cp)),(7,.v (.int .u32 k)),(8,.v (.slice Av x.length c)),(9,.v (.slice A9 (0 + x.length) aa))]) kz
 have ax:=aw.cast (env':=[(2,.p 0 0),(6,.v (.slice A n cp)),(7,.v (.int .u32 k)),(8,.v (.slice Av x.length c)),(9,.v (.slice A9 x.length aa))]) (by simp only [List.length_append,List.length_cons,List.length_nil,Nat.zero_add])
 have ag:=TT.ofW ((hF8.trans ac).trans ae) af
 refine ⟨fun _=>ag,?_⟩
 refine qaN [5] [(2,.p 0 0),(6,.v (.slice A n cp)),(10,.v (.agg #[.int .u32 k,.slice A9 x.length aa]))] 4 qaf (fun _ h=>h.cells) ag ax fun aM ay=>?_
 refine qav (i:=6) kz (qbL af ay (e:=64) (size:=2) (len:=1) (cs:=[.int .u32 k,.slice A9 x.length aa]) (d:=11) kz kz fun aF aN aO aG aH ah ab az=>?_)
 have aA:=TT.ofW (((hF8.trans ac).trans ae).trans ah) ab
 refine ⟨fun _=>aA,?_⟩
 refine qav (i:=7) kz (qaQ ab az (k:=0) (d:=12) (t:=35) (e:=64) (size:=2) (bytes:=32) (A:=A) (As:=(some ⟨aF,0,none⟩)) (m0:=n) (c:=cp) (m:=1) (cs:=1) (xs:=xs) (news:=[.int .u32 k,.slice A9 x.length aa]) kz kz rfl (qby (ab.own 2 _ rfl) (qbx kz)) (qbJ (ab.own 2 _ rfl)) (by first | omega | (simp only [List.length_nil]; omega) | (simp; omega)) fun am ao aP aQ aB ai aC=>?_)
 have aj:=TT.ofW ((((hF8.trans ac).trans ae).trans ah).trans aB) ai
 refine ⟨fun _=>aj,?_⟩
 refine qaN [8] [(12,.v (.slice am (n + 1) ao)),(13,.p 0 4)] 1 qaf (fun _ h=>h.cells) aj aC fun aR aD=>?_
 refine qav (i:=9) kz (qam ai aD (oi:=0) (cs:=[x0,x1,x2,x3,.slice am (n + 1) ao]) kz fun aS aI ak aE=>?_)
 refine ⟨fun h=>absurd rfl h,?_⟩
 refine qaJ kz ?_ _
 refine qbF aE ak.cells (v:=.tuple #[]) kz ?_
 obtain ⟨al,aJ⟩:=ak.cutR 2 [⟨am,ao,64,2,n + 1,xs ++ [.int .u32 k,.slice A9 x.length aa]⟩,brow A9 aa 5 x]
 have hoo:=qee (s:=x) (Av:=A9) (c:=aa) (e8:=5) rfl al (by omega)
 obtain ⟨hb1,hb2,hb3⟩:=qfO al (World.lt_of_cell (hbx.str.at_ 0 _ rfl))
 exact ⟨rfl,am,ao,A9,aa,hb1,hoo,hb2,hb3⟩
theorem n8w (x:Int):IntKind.i8.wrap x = (x + 128) % 256 - 128:=by simp [IntKind.wrap,IntKind.signed,IntKind.bits]; omega
theorem n16w (x:Int):IntKind.i16.wrap x = (x + 32768) % 65536 - 32768:=by simp [IntKind.wrap,IntKind.signed,IntKind.bits]; omega
theorem n32w (x:Int):IntKind.i32.wrap x = (x + 2147483648) % 4294967296 - 2147483648:=by simp [IntKind.wrap,IntKind.signed,IntKind.bits]; omega
theorem n64w (x:Int):IntKind.i64.wrap x = (x + 9223372036854775808) % 18446744073709551616 - 9223372036854775808:=by simp [IntKind.wrap,IntKind.signed,IntKind.bits]; omega
theorem qhL (x:Int):IntKind.i64.wrap (IntKind.i8.wrap x) = IntKind.i8.wrap x:=by rw [n64w,n8w]; omega
theorem qfr (x:Int):IntKind.i64.wrap (IntKind.i16.wrap x) = IntKind.i16.wrap x:=by rw [n64w,n16w]; omega
theorem qfs (x:Int):IntKind.i64.wrap (IntKind.i32.wrap x) = IntKind.i32.wrap x:=by rw [n64w,n32w]; omega
theorem qeq (x:Int):IntKind.i64.wrap (IntKind.u16.wrap x) = IntKind.u16.wrap x:=by rw [n64w,qbv]; omega
def qck (k n:Int):Int:=if k = 0 then n % 2 else if k = 1 then IntKind.i8.wrap n else if k = 2 then IntKind.i16.wrap n else if k = 3 then IntKind.i32.wrap n else if k = 5 then IntKind.u16.wrap n else n
section
variable {U:List Fld → Tree → Prop} {k x1 x2 x3 x4 x5 x6 n:Int} {sub:List Fld} {s:Bs} {b:Bool} {l:List Tree} {u:List (Int × Bs)}
end
section
variable {T:List Fld → Tree → Tree → Prop} {v k x1 x2 x3 x4 x5 x6 tn n:Int} {sub:List Fld} {ts s:Bs} {tb b:Bool} {tl l:List Tree} {tu u:List (Int × Bs)}
end
theorem qeI {P:Program} {ops:Array Oper} {Q:Exit → Act → World → Prop} {a:Act} {w:World} {T:World → Prop} {c i j fuel:Nat} {listed:Array Bool} (hr:Region.ready .any ops listed = [i,j]) (h:wpOp P ops Q i (fun a' w'=>(i ≠ c → T w') ∧ qbM P ops Q T c fuel (listed.setIfInBounds i true) a' w') a w)
  (h':wpOp P ops Q j (fun a' w'=>(j ≠ c → T w') ∧ qbM P ops Q T c fuel (listed.setIfInBounds j true) a' w') a w):qbM P ops Q T c (fuel + 1) listed a w:=by
 refine ⟨fun h0=>(by rw [hr] at h0; cases h0),fun q hq=>?_⟩
 rw [hr] at hq
 simp only [List.mem_cons,List.not_mem_nil,or_false] at hq
 rcases hq with rfl | rfl
 ·exact h
 exact h'
section
variable {w:World} {F:Nat → Nat → Prop}
end
section
variable {gu tu:List (Int × Bs)} {l:List Fld} {flex:Bool} {i:Nat} {k k':Int} {s s':Bs}
end
def qaC (D:DV):Tree:=.mk 0 [] false [.mk (IntKind.i64.wrap (D.f 0).n) [] false [] [],.mk (IntKind.i64.wrap (D.f 1).n) [] false [] [],qiZ (D.f 2).A (D.f 2).s] D.u
def qaM (D:DV):Tree:=.mk 0 [] false [.mk 0 (sb (D.f 0).s) false [] [],.mk 0 [] (D.f 1).A.isNone ((List.range (D.f 1).l).map fun i=>qaC ((D.f 1).f i)) []] D.u
def qa2 (D:DV):Tree:=.mk 0 [] false [.mk (IntKind.i64.wrap (D.f 0).n) [] false [] [],qjz (D.f 1).b,.mk (IntKind.i64.wrap (D.f 2).n) [] false [] [],qiZ (D.f 3).A (D.f 3).s,.mk 0 [] (D.f 4).A.isNone ((List.range (D.f 4).l).map fun i=>qaM ((D.f 4).f i)) []] D.u
set_option maxHeartbeats 4000000 in
theorem qa8 (v:Int) (D:DV) (b o:Nat) (w:World) (F:Nat → Nat → Prop) (hat:AtF w F b o [.int .i32 ((D.f 0).n),.int .i16 ((D.f 1).n),.pointer ((D.f 2).A),.map D.m]) (hok:qay w F D):Calls Tryz.prog 157 #[.pointer (some ⟨b,o,none⟩)] w (qc0 w F (qaC D)):=by
 refine enter (n:=41) Tryz.func157 rfl Tryz.ntmps157 kz fun a hE=>?_
 have hW:WOk w Nil w [⟨b,o,[.int .i32 ((D.f 0).n),.int .i16 ((D.f 1).n),.pointer ((D.f 2).A),.map D.m],false⟩] []:=(WOk.start w Nil).start1 hat rfl rfl
 unfold qay at hok
 obtain ⟨g1,g2,⟨g3,g3l⟩,g4,g4l,g4x,_⟩:=hok
 have hE0:=(EnvOk.ptr0 (cs:=[.int .i32 ((D.f 0).n),.int .i16 ((D.f 1).n),.pointer ((D.f 2).A),.map D.m]) (r:=false) hE).pk (env':=[(0,.p 0 0)])
 refine qad [0] kz ?_
 refine qai (qaO hW hE0 (d:=2) (cs:=[.int .i64 0,.slice none 0 0,.bool false,.slice none 0 0,.slice none 0 0]) kz fun b5 a6 w7 hb8 hz9 bR bh bi=>?_)
 refine qae (qab ?_)
 refine qad [0,1,2,3] kz ?_
 refine qai (qep (t:=34) (e:=37) (size:=5) (bytes:=88) (d:=4) (j:=3) (.agg #[.int .i64 0,.slice none 0 0,.bool false,.slice none 0 0,.slice none 0 0]) [.int .i64 0,.slice none 0 0,.bool false,.slice none 0 0,.slice none 0 0,.int .i64 0,.slice none 0 0,.bool false,.slice none 0 0,.slice none 0 0,.int .i64 0,.slice none 0 0,.bool false,.slice none 0 0,.slice none 0 0] bh bi fun aa cJ cK bS bT bU aK bj=>?_)
 refine qaj [1] [2,3] [(0,.p 0 0),(2,.p 1 0),(5,.v (.agg #[.int .i64 0,.slice none 0 0,.bool false,.slice (some ⟨aa,0,none⟩) 3 3,.slice none 0 0]))] aK bj fun cL bk=>?_
 refine qai (qaO aK bk (d:=3) (cs:=[.int .i64 0,.slice none 0 0,.bool false,.slice none 0 0,.slice none 0 0]) kz fun ah cM cN bV bW bX bn bo=>?_)
 refine qai (qam bn bo (oi:=3) (cs:=[.int .i64 0,.slice none 0 0,.bool false,.slice (some ⟨aa,0,none⟩) 3 3,.slice none 0 0]) kz fun cO bY bp bq=>?_)
 refine qae (qab ?_)
 refine qa1 9 kz bp fun cP bZ bt aL=>?_
 refine qaN [0,1,2,3,4,5,6,7] [(0,.p 0 0),(2,.p 1 0),(3,.p 3 0),(7,.v (.slice (some ⟨aa,0,none⟩) 3 3)),(13,.v (.agg #[.int .i64 (IntKind.i64.wrap ((D.f 0).n)),.slice none 0 0,.bool false,.slice none 0 0,.slice none 0 0]))] 2 (qaa qaf) (fun _ h=>h.cells) aL bq fun cQ bu=>?_
 refine qaW bu (i:=8) (t:=34) (A:=(some ⟨aa,0,none⟩)) (m:=3) (q:=0) (d:=14) kz (e:=37) (size:=5) (bytes:=88) (j:=0) kz (b:=aa) (o:=0) rfl rfl (by decide) kz kz (qaa qaf) aL fun cR bw=>?_
 have bx:=bw.recast 14 (.v (.pointer (some ⟨aa,0 + 0 * 5,none⟩))) (.p 2 0) rfl rfl (Nat.le_of_ble_eq_true (n:=3) rfl)
 have bz:=bx.pk (env':=[(0,.p 0 0),(2,.p 1 0),(3,.p 3 0),(7,.v (.slice (some ⟨aa,0,none⟩) 3 3)),(13,.v (.agg #[.int .i64 (IntKind.i64.wrap ((D.f 0).n)),.slice none 0 0,.bool false,.slice none 0 0,.slice none 0 0])),(14,.p 2 0)])
 refine qav (i:=9) kz (qam bt bz (oi:=2) (cs:=[.int .i64 (IntKind.i64.wrap ((D.f 0).n)),.slice none 0 0,.bool false,.slice none 0 0,.slice none 0 0,.int .i64 0,.slice none 0 0,.bool false,.slice none 0 0,.slice none 0 0,.int .i64 0,.slice none 0 0,.bool false,.slice none 0 0,.slice none 0 0]) kz fun cS b8 bA bB=>?_)
 refine ⟨fun h=>absurd rfl h,?_⟩
 refine qaJ kz ?_ _
 refine qab ?_
 refine qa1 9 kz bA fun cT cd bC aM=>?_
 refine qaN [0,1,2,3,4,5,6,7] [(0,.p 0 0),(2,.p 1 0),(3,.p 3 0),(16,.v (.slice (some ⟨aa,0,none⟩) 3 3)),(22,.v (.agg #[.int .i64 (IntKind.i64.wrap ((D.f 1).n)),.slice none 0 0,.bool false,.slice none 0 0,.slice none 0 0]))] 2 (qaa qaf) (fun _ h=>h.cells) aM bB fun cU bD=>?_
 refine qaW bD (i:=8) (t:=34) (A:=(some ⟨aa,0,none⟩)) (m:=3) (q:=1) (d:=23) kz (e:=37) (size:=5) (bytes:=88) (j:=1) kz (b:=aa) (o:=0) rfl rfl (by decide) kz kz (qaa qaf) aM fun cV bE=>?_
 have bF:=bE.recast 23 (.v (.pointer (some ⟨aa,0 + 1 * 5,none⟩))) (.p 2 5) rfl rfl (Nat.le_of_ble_eq_true (n:=3) rfl)
 have bG:=bF.pk (env':=[(0,.p 0 0),(2,.p 1 0),(3,.p 3 0),(16,.v (.slice (some ⟨aa,0,none⟩) 3 3)),(22,.v (.agg #[.int .i64 (IntKind.i64.wrap ((D.f 1).n)),.slice none 0 0,.bool false,.slice none 0 0,.slice none 0 0])),(23,.p 2 5)])
 refine qav (i:=9) kz (qam bC bG (oi:=2) (cs:=[.int .i64 (IntKind.i64.wrap ((D.f 0).n)),.slice none 0 0,.bool false,.slice none 0 0,.slice none 0 0,.int .i64 (IntKind.i64.wrap ((D.f 1).n)),.slice none 0 0,.bool false,.slice none 0 0,.slice none 0 0,.int .i64 0,.slice none 0 0,.bool false,.slice none 0 0,.slice none 0 0]) kz fun cW ce bH bI=>?_)
 refine ⟨fun h=>absurd rfl h,?_⟩
 refine qaJ kz ?_ _
 refine qab ?_
 refine qa1 8 kz bH fun cg cm ax bJ=>?_
 refine qaN [0,1,2,3,4,5] [(0,.p 0 0),(2,.p 1 0),(3,.p 3 0),(25,.v (.slice (some ⟨aa,0,none⟩) 3 3)),(29,.v (.pointer ((D.f 2).A)))] 3 (qaa qaf) (fun _ h=>h.cells) bJ bI fun cX bK=>?_
 refine qav (i:=6) kz (qak bK (f:=101) (vs:=[.pointer ((D.f 2).A)]) (d:=30) kz Tryz.call101 (qkZ _ (D.f 2).s _ (Imm F w cg [⟨b,o,[.int .i32 ((D.f 0).n),.int .i16 ((D.f 1).n),.pointer ((D.f 2).A),.map D.m],false⟩,⟨b5,0,[.int .i64 0,.slice none 0 0,.bool false,.slice none 0 0,.slice none 0 0],true⟩,⟨aa,0,[.int .i64 (IntKind.i64.wrap ((D.f 0).n)),.slice none 0 0,.bool false,.slice none 0 0,.slice none 0 0,.int .i64 (IntKind.i64.wrap ((D.f 1).n)),.slice none 0 0,.bool false,.slice none 0 0,.slice none 0 0,.int .i64 0,.slice none 0 0,.bool false,.slice none 0 0,.slice none 0 0],true⟩,⟨ah,0,[.int .i64 0,.slice none 0 0,.bool false,.slice (some ⟨aa,0,none⟩) 3 3,.slice none 0 0],true⟩] []) (fun ad h_=>by obtain ⟨b',o',g1,g2⟩:=g3 ad h_; exact ⟨b',o',g1,g2.move ax.step nilM ax.imm⟩) g3l) ?_)
 rintro e_ cY ⟨cq,rfl,bL,aH⟩
 have aI:=bL.move (Step.refl _ Nil) nilM (ax.laid (G:=F) aH)
 obtain ⟨ai,aj,ak,al,am,ao,ap,ar,au,av,aw,cr,cu,aA,cw,cz,cZ,c5⟩:=aI.open_
 rw [aA] at aI
 have bP:=cw.small
 have bQ:=cz.small
 rw [aA]
 refine ⟨_,rfl,fun c6 bM=>?_⟩
 have aN:=ax.next_nil aH
 have bN:=ax.frN aH
 have aO:=TT.ofW bN aN
 refine ⟨fun _=>aO,?_⟩
 refine qaW bM (i:=7) (t:=34) (A:=(some ⟨aa,0,none⟩)) (m:=3) (q:=2) (d:=31) kz (e:=37) (size:=5) (bytes:=88) (j:=2) kz (b:=aa) (o:=0) rfl rfl (by decide) kz kz (qaa qaf) aO fun da aP=>?_
 have aQ:=aP.recast 31 (.v (.pointer (some ⟨aa,0 + 2 * 5,none⟩))) (.p 2 10) rfl rfl (Nat.le_of_ble_eq_true (n:=3) rfl)
 have aR:=aQ.pk (env':=[(0,.p 0 0),(2,.p 1 0),(3,.p 3 0),(25,.v (.slice (some ⟨aa,0,none⟩) 3 3)),(29,.v (.pointer ((D.f 2).A))),(30,.v (.agg #[.int .i64 ai,.slice ao aj.length ap,.bool ak,.slice ar al.length au,.slice av am.length aw])),(31,.p 2 10)])
 refine qav (i:=8) kz (qam aN aR (oi:=2) (cs:=[.int .i64 (IntKind.i64.wrap ((D.f 0).n)),.slice none 0 0,.bool false,.slice none 0 0,.slice none 0 0,.int .i64 (IntKind.i64.wrap ((D.f 1).n)),.slice none 0 0,.bool false,.slice none 0 0,.slice none 0 0,.int .i64 ai,.slice ao aj.length ap,.bool ak,.slice ar al.length au,.slice av am.length aw]) kz fun bO aB ae aS=>?_)
 refine ⟨fun h=>absurd rfl h,?_⟩
 refine qaJ kz ?_ _
 refine qab ?_
 refine qad [0,1,2,3,4] kz ?_
 refine qaj [0,1,2] [3,4] [(2,.p 1 0),(3,.p 3 0),(34,.p 0 3)] ae aS fun cA aT=>?_
 refine qai (qeB aT (v:=.func (.func 194) #[] #[.pointer (some ⟨ah,0,none⟩)]) (d:=35) kz fun cB aU=>?_)
 refine qai (qak aU (f:=103) (vs:=[.pointer (some ⟨b,o + 3,none⟩),.func (.func 194) #[] #[.pointer (some ⟨ah,0,none⟩)]]) (d:=36) kz Tryz.call103 (qe4 (F:=(Imm F w bO [⟨b,o,[.int .i32 ((D.f 0).n),.int .i16 ((D.f 1).n),.pointer ((D.f 2).A),.map D.m],false⟩,⟨b5,0,[.int .i64 0,.slice none 0 0,.bool false,.slice none 0 0,.slice none 0 0],true⟩,⟨aa,0,[.int .i64 (IntKind.i64.wrap ((D.f 0).n)),.slice none 0 0,.bool false,.slice none 0 0,.slice none 0 0,.int .i64 (IntKind.i64.wrap ((D.f 1).n)),.slice none 0 0,.bool false,.slice none 0 0,.slice none 0 0,.int .i64 ai,.slice ao aj.length ap,.bool ak,.slice ar al.length au,.slice av am.length aw],true⟩,⟨ah,0,[.int .i64 0,.slice none 0 0,.bool false,.slice (some ⟨aa,0,none⟩) 3 3,.slice none 0 0],true⟩] [])) Tryz.call194 qbD ((hat.one 3 rfl).move ae.step nilM ae.imm) (g4.move ae.step nilM ae.imm) (Str.of ae 3 rfl) (qjr 3 rfl) g4l) ?_)
 rintro e_ cC ⟨rfl,ab,ac,aJ,aV,aW⟩
 obtain ⟨ay,aC,aX⟩:=ae.wrote 3 [⟨b,o,[.int .i32 ((D.f 0).n),.int .i16 ((D.f 1).n),.pointer ((D.f 2).A),.map D.m],false⟩,⟨b5,0,[.int .i64 0,.slice none 0 0,.bool false,.slice none 0 0,.slice none 0 0],true⟩,⟨aa,0,[.int .i64 (IntKind.i64.wrap ((D.f 0).n)),.slice none 0 0,.bool false,.slice none 0 0,.slice none 0 0,.int .i64 (IntKind.i64.wrap ((D.f 1).n)),.slice none 0 0,.bool false,.slice none 0 0,.slice none 0 0,.int .i64 ai,.slice ao aj.length ap,.bool ak,.slice ar al.length au,.slice av am.length aw],true⟩,⟨ah,0,[.int .i64 0,.slice none 0 0,.bool false,.slice (some ⟨aa,0,none⟩) 3 3,.slice ab D.u.length ac],true⟩] rfl aW aJ
 have aD:=aV.move (Step.refl _ Nil) nilM (fun b_ o_ h_ hb_=>aX (G:=F) b_ o_ (.inr h_) hb_)
 refine ⟨_,rfl,fun cD aY=>?_⟩
 have aZ:=(EnvOk.places (tb':=[⟨b,o,[.int .i32 ((D.f 0).n),.int .i16 ((D.f 1).n),.pointer ((D.f 2).A),.map D.m],false⟩,⟨b5,0,[.int .i64 0,.slice none 0 0,.bool false,.slice none 0 0,.slice none 0 0],true⟩,⟨aa,0,[.int .i64 (IntKind.i64.wrap ((D.f 0).n)),.slice none 0 0,.bool false,.slice none 0 0,.slice none 0 0,.int .i64 (IntKind.i64.wrap ((D.f 1).n)),.slice none 0 0,.bool false,.slice none 0 0,.slice none 0 0,.int .i64 ai,.slice ao aj.length ap,.bool ak,.slice ar al.length au,.slice av am.length aw],true⟩,⟨ah,0,[.int .i64 0,.slice none 0 0,.bool false,.slice (some ⟨aa,0,none⟩) 3 3,.slice ab D.u.length ac],true⟩]) aY (show Pl [⟨b,o,[.int .i32 ((D.f 0).n),.int .i16 ((D.f 1).n),.pointer ((D.f 2).A),.map D.m],false⟩,⟨b5,0,[.int .i64 0,.slice none 0 0,.bool false,.slice none 0 0,.slice none 0 0],true⟩,⟨aa,0,[.int .i64 (IntKind.i64.wrap ((D.f 0).n)),.slice none 0 0,.bool false,.slice none 0 0,.slice none 0 0,.int .i64 (IntKind.i64.wrap ((D.f 1).n)),.slice none 0 0,.bool false,.slice none 0 0,.slice none 0 0,.int .i64 ai,.slice ao aj.length ap,.bool ak,.slice ar al.length au,.slice av am.length aw],true⟩,⟨ah,0,[.int .i64 0,.slice none 0 0,.bool false,.slice (some ⟨aa,0,none⟩) 3 3,.slice none 0 0],true⟩] [⟨b,o,[.int .i32 ((D.f 0).n),.int .i16 ((D.f 1).n),.pointer ((D.f 2).A),.map D.m],false⟩,⟨b5,0,[.int .i64 0,.slice none 0 0,.bool false,.slice none 0 0,.slice none 0 0],true⟩,⟨aa,0,[.int .i64 (IntKind.i64.wrap ((D.f 0).n)),.slice none 0 0,.bool false,.slice none 0 0,.slice none 0 0,.int .i64 (IntKind.i64.wrap ((D.f 1).n)),.slice none 0 0,.bool false,.slice none 0 0,.slice none 0 0,.int .i64 ai,.slice ao aj.length ap,.bool ak,.slice ar al.length au,.slice av am.length aw],true⟩,⟨ah,0,[.int .i64 0,.slice none 0 0,.bool false,.slice (some ⟨aa,0,none⟩) 3 3,.slice ab D.u.length ac],true⟩] from ⟨rfl,rfl,⟨rfl,rfl,⟨rfl,rfl,⟨rfl,rfl,trivial⟩⟩⟩⟩)).pk (env':=[(36,.v (.tuple #[])),(2,.p 1 0),(3,.p 3 0),(34,.p 0 3),(35,.v (.func (.func 194) #[] #[.pointer (some ⟨ah,0,none⟩)]))])
 refine qae (qab ?_)
 refine qad [0,1,2] kz ?_
 refine qaj [0,1] [2] [(2,.p 1 0),(3,.p 3 0),(38,.v (.slice ab D.u.length ac))] ay aZ fun cE ba=>?_
 refine qai (qak ba (f:=105) (vs:=[.slice ab D.u.length ac]) (d:=39) kz Tryz.call105 (qgN aD g4.sorted) ?_)
 rintro e_ cG ⟨rfl,aE⟩
 refine ⟨_,rfl,fun cH bd=>?_⟩
 have aF:=ay.next_nil aE
 have af:=ay.frN aE
 refine qae (qab ?_)
 refine qad [0,1] kz ?_
 refine qaj [0] [1] [(2,.p 1 0),(40,.v (.agg #[.int .i64 0,.slice none 0 0,.bool false,.slice (some ⟨aa,0,none⟩) 3 3,.slice ab D.u.length ac]))] aF bd fun cI bf=>?_
 refine qai (qam aF bf (oi:=1) (cs:=[.int .i64 0,.slice none 0 0,.bool false,.slice (some ⟨aa,0,none⟩) 3 3,.slice ab D.u.length ac]) kz fun az ag aG bg=>?_)
 refine qae (qab ?_)
 refine wp_ret ?_
 refine qaX bg aG.cells (v:=.agg #[.int .i64 0,.slice none 0 0,.bool false,.slice (some ⟨aa,0,none⟩) 3 3,.slice ab D.u.length ac]) kz ?_
 exact qfP (u:=D.u) (l:=[.mk (IntKind.i64.wrap (D.f 0).n) [] false [] [],.mk (IntKind.i64.wrap (D.f 1).n) [] false [] [],qiZ (D.f 2).A (D.f 2).s]) (css:=[[.int .i64 (IntKind.i64.wrap ((D.f 0).n)),.slice none 0 0,.bool false,.slice none 0 0,.slice none 0 0],[.int .i64 (IntKind.i64.wrap ((D.f 1).n)),.slice none 0 0,.bool false,.slice none 0 0,.slice none 0 0],[.int .i64 ai,.slice ao aj.length ap,.bool ak,.slice ar al.length au,.slice av am.length aw]]) aG 2 rfl ⟨(show TreeR _ (Imm F w az [⟨b,o,[.int .i32 ((D.f 0).n),.int .i16 ((D.f 1).n),.pointer ((D.f 2).A),.map D.m],false⟩,⟨b5,0,[.int .i64 0,.slice none 0 0,.bool false,.slice (some ⟨aa,0,none⟩) 3 3,.slice ab D.u.length ac],true⟩,⟨aa,0,[.int .i64 (IntKind.i64.wrap ((D.f 0).n)),.slice none 0 0,.bool false,.slice none 0 0,.slice none 0 0,.int .i64 (IntKind.i64.wrap ((D.f 1).n)),.slice none 0 0,.bool false,.slice none 0 0,.slice none 0 0,.int .i64 ai,.slice ao aj.length ap,.bool ak,.slice ar al.length au,.slice av am.length aw],true⟩,⟨ah,0,[.int .i64 0,.slice none 0 0,.bool false,.slice (some ⟨aa,0,none⟩) 3 3,.slice ab D.u.length ac],true⟩] []) _ _ from (TreeR.mk (n:=IntKind.i64.wrap ((D.f 0).n)) (b:=false) (s:=[]) (l:=[]) (u:=[]) (fun _=>[]) (Octs.nil _ _) (Slots.nil _ _ _ _) (fun i_ x_ h_=>by simp at h_) (TagsR.nil _ _))).move (Step.refl _ Nil) nilM qbG,(show TreeR _ (Imm F w az [⟨b,o,[.int .i32 ((D.f 0).n),.int .i16 ((D.f 1).n),.pointer ((D.f 2).A),.map D.m],false⟩,⟨b5,0,[.int .i64 0,.slice none 0 0,.bool false,.slice (some ⟨aa,0,none⟩) 3 3,.slice ab D.u.length ac],true⟩,⟨aa,0,[.int .i64 (IntKind.i64.wrap ((D.f 0).n)),.slice none 0 0,.bool false,.slice none 0 0,.slice none 0 0,.int .i64 (IntKind.i64.wrap ((D.f 1).n)),.slice none 0 0,.bool false,.slice none 0 0,.slice none 0 0,.int .i64 ai,.slice ao aj.length ap,.bool ak,.slice ar al.length au,.slice av am.length aw],true⟩,⟨ah,0,[.int .i64 0,.slice none 0 0,.bool false,.slice (some ⟨aa,0,none⟩) 3 3,.slice ab D.u.length ac],true⟩] []) _ _ from (TreeR.mk (n:=IntKind.i64.wrap ((D.f 1).n)) (b:=false) (s:=[]) (l:=[]) (u:=[]) (fun _=>[]) (Octs.nil _ _) (Slots.nil _ _ _ _) (fun i_ x_ h_=>by simp at h_) (TagsR.nil _ _))).move (Step.refl _ Nil) nilM qbG,(show TreeR _ (Imm F w az [⟨b,o,[.int .i32 ((D.f 0).n),.int .i16 ((D.f 1).n),.pointer ((D.f 2).A),.map D.m],false⟩,⟨b5,0,[.int .i64 0,.slice none 0 0,.bool false,.slice (some ⟨aa,0,none⟩) 3 3,.slice ab D.u.length ac],true⟩,⟨aa,0,[.int .i64 (IntKind.i64.wrap ((D.f 0).n)),.slice none 0 0,.bool false,.slice none 0 0,.slice none 0 0,.int .i64 (IntKind.i64.wrap ((D.f 1).n)),.slice none 0 0,.bool false,.slice none 0 0,.slice none 0 0,.int .i64 ai,.slice ao aj.length ap,.bool ak,.slice ar al.length au,.slice av am.length aw],true⟩,⟨ah,0,[.int .i64 0,.slice none 0 0,.bool false,.slice (some ⟨aa,0,none⟩) 3 3,.slice ab D.u.length ac],true⟩] []) _ _ from (aI.move (((aB.trans aC).trans af).trans ag).step immM (((aB.trans aC).trans af).trans ag).to')).move (Step.refl _ Nil) nilM qbG,trivial⟩ ((show TagsR _ (Imm F w az [⟨b,o,[.int .i32 ((D.f 0).n),.int .i16 ((D.f 1).n),.pointer ((D.f 2).A),.map D.m],false⟩,⟨b5,0,[.int .i64 0,.slice none 0 0,.bool false,.slice (some ⟨aa,0,none⟩) 3 3,.slice ab D.u.length ac],true⟩,⟨aa,0,[.int .i64 (IntKind.i64.wrap ((D.f 0).n)),.slice none 0 0,.bool false,.slice none 0 0,.slice none 0 0,.int .i64 (IntKind.i64.wrap ((D.f 1).n)),.slice none 0 0,.bool false,.slice none 0 0,.slice none 0 0,.int .i64 ai,.slice ao aj.length ap,.bool ak,.slice ar al.length au,.slice av am.length aw],true⟩,⟨ah,0,[.int .i64 0,.slice none 0 0,.bool false,.slice (some ⟨aa,0,none⟩) 3 3,.slice ab D.u.length ac],true⟩] []) _ _ _ from (aD.move (af.trans ag).step immM (af.trans ag).to')).move (Step.refl _ Nil) nilM qbG)
set_option maxHeartbeats 4000000 in
theorem qbe (v:Int) (D:DV) (b o:Nat) (w:World) (F:Nat → Nat → Prop) (hat:AtF w F b o [.string ((D.f 0).s),.slice ((D.f 1).A) ((D.f 1).l) ((D.f 1).c),.map D.m]) (hok:qaG w F D):Calls Tryz.prog 102 #[.pointer (some ⟨b,o,none⟩)] w (qc0 w F (qaM D)):=by
 refine enter (n:=81) Tryz.func102 rfl Tryz.ntmps102 kz fun a hE=>?_
 have hW:WOk w Nil w [⟨b,o,[.string ((D.f 0).s),.slice ((D.f 1).A) ((D.f 1).l) ((D.f 1).c),.map D.m],false⟩] []:=(WOk.start w Nil).start1 hat rfl rfl
 unfold qaG at hok
 obtain ⟨g1,⟨g2,g2l,g2e⟩,g3,g3l,g3x,_⟩:=hok
 have hE0:=(EnvOk.ptr0 (cs:=[.string ((D.f 0).s),.slice ((D.f 1).A) ((D.f 1).l) ((D.f 1).c),.map D.m]) (r:=false) hE).pk (env':=[(0,.p 0 0)])
 refine qad [0] kz ?_
 refine qai (qaO hW hE0 (d:=2) (cs:=[.int .i64 0,.slice none 0 0,.bool false,.slice none 0 0,.slice none 0 0]) kz fun b4 a5 w6 hb7 hz8 hF9 fH fI=>?_)
 refine qae (qab ?_)
 refine qad [0,1,2,3] kz ?_
 refine qai (qep (t:=34) (e:=37) (size:=5) (bytes:=88) (d:=5) (j:=2) (.agg #[.int .i64 0,.slice none 0 0,.bool false,.slice none 0 0,.slice none 0 0]) [.int .i64 0,.slice none 0 0,.bool false,.slice none 0 0,.slice none 0 0,.int .i64 0,.slice none 0 0,.bool false,.slice none 0 0,.slice none 0 0] fH fI fun aa js jt gW gX gY dw fJ=>?_)
 refine qaj [1] [2,3] [(0,.p 0 0),(2,.p 1 0),(6,.v (.agg #[.int .i64 0,.slice none 0 0,.bool false,.slice (some ⟨aa,0,none⟩) 2 2,.slice none 0 0]))] dw fJ fun ju fK=>?_
 refine qai (qaO dw fK (d:=3) (cs:=[.int .i64 0,.slice none 0 0,.bool false,.slice none 0 0,.slice none 0 0]) kz fun bC jv jw gZ g7 g8 fL fM=>?_)
 refine qai (qam fL fM (oi:=3) (cs:=[.int .i64 0,.slice none 0 0,.bool false,.slice (some ⟨aa,0,none⟩) 2 2,.slice none 0 0]) kz fun jx g9 fN fO=>?_)
 refine qae (qab ?_)
 refine qa1 9 kz fN fun jy hC fP fQ=>?_
 refine qaN [0,1,2,3,4,5] [(0,.p 0 0),(2,.p 1 0),(3,.p 3 0),(8,.v (.slice (some ⟨aa,0,none⟩) 2 2)),(12,.v (.string ((D.f 0).s)))] 4 (qaa qaf) (fun _ h=>h.cells) fQ fO fun jz fR=>?_
 refine qav (i:=6) kz (qfq (d:=13) (src:=9) (dst:=22) (e:=5) (s:=((D.f 0).s)) fP fR (by omega) fun aB aC jA jB fS dx fT fU=>?_)
 have fV:=fT F
 have di:=TT.ofW fS dx
 refine ⟨fun _=>di,?_⟩
 refine qaN [7] [(0,.p 0 0),(2,.p 1 0),(3,.p 3 0),(8,.v (.slice (some ⟨aa,0,none⟩) 2 2)),(14,.v (.agg #[.int .i64 0,.slice (some ⟨aB,0,none⟩) ((sb ((D.f 0).s)).length) aC,.bool false,.slice none 0 0,.slice none 0 0]))] 2 (qaa qaf) (fun _ h=>h.cells) di fU fun jC fW=>?_
 refine qaW fW (i:=8) (t:=34) (A:=(some ⟨aa,0,none⟩)) (m:=2) (q:=0) (d:=15) kz (e:=37) (size:=5) (bytes:=88) (j:=0) kz (b:=aa) (o:=0) rfl rfl (by decide) kz kz (qaa qaf) di fun jD fX=>?_
 have fY:=fX.recast 15 (.v (.pointer (some ⟨aa,0 + 0 * 5,none⟩))) (.p 2 0) rfl rfl (Nat.le_of_ble_eq_true (n:=3) rfl)
 have fZ:=fY.pk (env':=[(0,.p 0 0),(2,.p 1 0),(3,.p 3 0),(8,.v (.slice (some ⟨aa,0,none⟩) 2 2)),(14,.v (.agg #[.int .i64 0,.slice (some ⟨aB,0,none⟩) ((sb ((D.f 0).s)).length) aC,.bool false,.slice none 0 0,.slice none 0 0])),(15,.p 2 0)])
 refine qav (i:=9) kz (qam dx fZ (oi:=2) (cs:=[.int .i64 0,.slice (some ⟨aB,0,none⟩) ((sb ((D.f 0).s)).length) aC,.bool false,.slice none 0 0,.slice none 0 0,.int .i64 0,.slice none 0 0,.bool false,.slice none 0 0,.slice none 0 0]) kz fun jE dy f5 f7=>?_)
 refine ⟨fun h=>absurd rfl h,?_⟩
 refine qaJ kz ?_ _
 refine qab ?_
 refine qa1 9 kz f5 fun jF dz f8 dj=>?_
 refine qaN [0,1,2,3,4,5,6] [(0,.p 0 0),(2,.p 1 0),(3,.p 3 0),(17,.v (.slice (some ⟨aa,0,none⟩) 2 2)),(22,.v (.bool (((D.f 1).A).isNone)))] 3 (qaa qaf) (fun _ h=>h.cells) dj f7 fun jG f9=>?_
 refine qav (i:=7) kz (qat f9 (t:=34) (A:=(some ⟨aa,0,none⟩)) (m:=2) (q:=1) (d:=23) kz (e:=37) (size:=5) (bytes:=88) (j:=1) kz (b:=aa) (o:=0) rfl rfl (by decide) fun jH ga=>?_)
 have gb:=ga.recast 23 (.v (.pointer (some ⟨aa,0 + 1 * 5,none⟩))) (.p 2 5) rfl rfl (Nat.le_of_ble_eq_true (n:=3) rfl)
 have gc:=gb.pk (env':=[(0,.p 0 0),(2,.p 1 0),(3,.p 3 0),(17,.v (.slice (some ⟨aa,0,none⟩) 2 2)),(22,.v (.bool (((D.f 1).A).isNone))),(23,.p 2 5)])
 refine ⟨fun _=>dj,?_⟩
 refine qaN [8] [(0,.p 0 0),(2,.p 1 0),(3,.p 3 0),(22,.v (.bool (((D.f 1).A).isNone))),(24,.p 2 7)] 1 (qaa qaf) (fun _ h=>h.cells) dj gc fun jI gd=>?_
 refine qav (i:=9) kz (qam f8 gd (oi:=2) (cs:=[.int .i64 0,.slice (some ⟨aB,0,none⟩) ((sb ((D.f 0).s)).length) aC,.bool false,.slice none 0 0,.slice none 0 0,.int .i64 0,.slice none 0 0,.bool (((D.f 1).A).isNone),.slice none 0 0,.slice none 0 0]) kz fun jJ dA dl ge=>?_)
 refine ⟨fun h=>absurd rfl h,?_⟩
 refine qaJ kz ?_ _
 refine qab ?_
 refine wp_seq ?_
 refine qas [(0,.p 0 0),(2,.p 1 0),(3,.p 3 0),(29,.v (.int .i64 (((D.f 1).l:Nat):Int))),(30,.v (.int .i64 0))] dl ge fun jK gg=>?_
 refine wp_block ?_
 have dB:=dl.addNil 37 5
 have dC:=dl.frNil 37 5
 refine wp_loop_ghost (fun n_ a_ w_=>∃ (k1_:Nat) (A1_:Option Addr) (c1_:Nat) (xs1_:List Value) (css1_:List (List Value)),n_ = (D.f 1).l - k1_ ∧ k1_ ≤ (D.f 1).l ∧ (Trees w_ (Imm F w w_ [⟨b,o,[.string ((D.f 0).s),.slice ((D.f 1).A) ((D.f 1).l) ((D.f 1).c),.map D.m],false⟩,⟨b4,0,[.int .i64 0,.slice none 0 0,.bool false,.slice none 0 0,.slice none 0 0],true⟩,⟨aa,0,[.int .i64 0,.slice (some ⟨aB,0,none⟩) ((sb ((D.f 0).s)).length) aC,.bool false,.slice none 0 0,.slice none 0 0,.int .i64 0,.slice none 0 0,.bool (((D.f 1).A).isNone),.slice A1_ k1_ c1_,.slice none 0 0],true⟩,⟨bC,0,[.int .i64 0,.slice none 0 0,.bool false,.slice (some ⟨aa,0,none⟩) 2 2,.slice none 0 0],true⟩] [⟨A1_,c1_,37,5,k1_,xs1_⟩]) xs1_ (((List.range (D.f 1).l).map (fun i=>qaC ((D.f 1).f i))).take k1_) css1_) ∧ LInv dB 81 [⟨b,o,[.string ((D.f 0).s),.slice ((D.f 1).A) ((D.f 1).l) ((D.f 1).c),.map D.m],false⟩,⟨b4,0,[.int .i64 0,.slice none 0 0,.bool false,.slice none 0 0,.slice none 0 0],true⟩,⟨aa,0,[.int .i64 0,.slice (some ⟨aB,0,none⟩) ((sb ((D.f 0).s)).length) aC,.bool false,.slice none 0 0,.slice none 0 0,.int .i64 0,.slice none 0 0,.bool (((D.f 1).A).isNone),.slice A1_ k1_ c1_,.slice none 0 0],true⟩,⟨bC,0,[.int .i64 0,.slice none 0 0,.bool false,.slice (some ⟨aa,0,none⟩) 2 2,.slice none 0 0],true⟩] [⟨A1_,c1_,37,5,k1_,xs1_⟩] [(0,.p 0 0),(2,.p 1 0),(3,.p 3 0),(29,.v (.int .i64 (((D.f 1).l:Nat):Int))),(30,.v (.int .i64 ((k1_:Nat):Int)))] a_ w_) ((D.f 1).l) ⟨0,none,0,[],[],by omega,by omega,Trees.nil _ _,gg.pk,dB,Fr.refl _ _ _⟩ ?_
 rintro jL jM hJ ⟨k1_,A1_,c1_,xs1_,css1_,hK,hY,hT1_,gh,aA,bY⟩
 refine qas [(0,.p 0 0),(2,.p 1 0),(3,.p 3 0),(29,.v (.int .i64 (((D.f 1).l:Nat):Int))),(30,.v (.int .i64 ((k1_:Nat):Int))),(31,.v (.bool (decide (((k1_:Nat):Int) < (((D.f 1).l:Nat):Int)))))] aA gh fun jN dp=>?_
 refine wp_seq ?_
 refine qaE dp (b:=decide (((k1_:Nat):Int) < (((D.f 1).l:Nat):Int))) kz (fun dq=>?_) (fun dq=>?_)
 ·
  have hZ:=of_decide_eq_true dq
  refine wp_skip ?_
  refine qab ?_
  refine wp_seq ?_
  refine wp_block ?_
  refine qas [(0,.p 0 0),(2,.p 1 0),(3,.p 3 0),(4,.v (.int .i64 ((k1_:Nat):Int))),(29,.v (.int .i64 (((D.f 1).l:Nat):Int))),(30,.v (.int .i64 ((k1_:Nat):Int)))] aA dp fun jO gi=>?_
  refine qa1 4 kz aA fun jP aI gj ia=>?_
  refine qav (i:=0) kz (qaO gj gi (d:=33) (cs:=[.bool false]) kz fun jQ ib ic gC gD ab bZ cJ=>?_)
  have dD:=TT.ofW ab bZ
  refine ⟨fun _=>dD,?_⟩
  refine qeI (i:=1) (j:=2) kz ?_ ?_
  ·
   refine (qam bZ cJ (oi:=4) (cs:=[.bool true]) kz fun ig aD cK dE=>?_)
   have dF:=TT.ofW (ab.trans aD) cK
   refine ⟨fun _=>dF,?_⟩
   refine qav (i:=2) kz (qam cK dE (oi:=4) (cs:=[.bool false]) kz fun ii bi bD dG=>?_)
   have dH:=TT.ofW ((ab.trans aD).trans bi) bD
   refine ⟨fun _=>dH,?_⟩
   refine qav (i:=3) kz (qbN [0,2,3,4,29,30,34] bD.cells dG (env':=[(0,.p 0 0),(2,.p 1 0),(3,.p 3 0),(4,.v (.int .i64 ((k1_:Nat):Int))),(29,.v (.int .i64 (((D.f 1).l:Nat):Int))),(30,.v (.int .i64 ((k1_:Nat):Int))),(34,.v (.bool false))]) kz fun ij cL=>?_)
   have dI:=TT.ofW ((ab.trans aD).trans bi) bD
   refine ⟨fun _=>dI,?_⟩
   refine qaJ kz ?_ _
   refine qab ?_
   refine qau cL (b:=false) kz rfl ?_
   refine qcE 18 kz bD fun ik b8 ao bE=>?_
   refine qaN [0,1,2,3,7,8,9,10,11] [(0,.p 0 0),(2,.p 1 0),(3,.p 3 0),(29,.v (.int .i64 (((D.f 1).l:Nat):Int))),(30,.v (.int .i64 ((k1_:Nat):Int))),(54,.v (.slice (some ⟨aa,0,none⟩) 2 2)),(56,.v (.slice (some ⟨aa,0,none⟩) 2 2)),(63,.v (.slice ((D.f 1).A) ((D.f 1).l) ((D.f 1).c))),(64,.v (.int .i64 ((k1_:Nat):Int)))] 10 (qac (qaa (qaa (qac (qaa qaf))))) (fun _ h=>h.cells) bE cL fun il dJ=>?_
   refine qaW dJ (i:=4) (t:=34) (A:=(some ⟨aa,0,none⟩)) (m:=2) (q:=1) (d:=57) kz (e:=37) (size:=5) (bytes:=88) (j:=1) kz (b:=aa) (o:=0) rfl rfl (by decide) kz kz (qac (qaa (qaa (qac (qaa qaf))))) bE fun im dK=>?_
   have dL:=dK.recast 57 (.v (.pointer (some ⟨aa,0 + 1 * 5,none⟩))) (.p 2 5) rfl rfl (Nat.le_of_ble_eq_true (n:=3) rfl)
   have dM:=dL.pk (env':=[(0,.p 0 0),(2,.p 1 0),(3,.p 3 0),(29,.v (.int .i64 (((D.f 1).l:Nat):Int))),(30,.v (.int .i64 ((k1_:Nat):Int))),(54,.v (.slice (some ⟨aa,0,none⟩) 2 2)),(56,.v (.slice (some ⟨aa,0,none⟩) 2 2)),(63,.v (.slice ((D.f 1).A) ((D.f 1).l) ((D.f 1).c))),(64,.v (.int .i64 ((k1_:Nat):Int))),(57,.p 2 5)])
   refine qaN [5,6] [(0,.p 0 0),(2,.p 1 0),(3,.p 3 0),(29,.v (.int .i64 (((D.f 1).l:Nat):Int))),(30,.v (.int .i64 ((k1_:Nat):Int))),(54,.v (.slice (some ⟨aa,0,none⟩) 2 2)),(59,.v (.slice A1_ k1_ c1_)),(63,.v (.slice ((D.f 1).A) ((D.f 1).l) ((D.f 1).c))),(64,.v (.int .i64 ((k1_:Nat):Int)))] 7 (qac (qaa (qaa (qac (qaa qaf))))) (fun _ h=>h.cells) bE dM fun io dN=>?_
   obtain ⟨dO,dP,dQ,gE,dr⟩:=Slots.get g2 (i:=k1_) (by omega)
   refine qaW dN (i:=12) (t:=102) (A:=(D.f 1).A) (m:=((D.f 1).l)) (q:=((k1_:Nat):Int)) (d:=65) kz (e:=181) (size:=4) (bytes:=24) kz dQ rfl (by omega) kz kz (qac (qaa (qaa (qac (qaa qaf))))) bE fun ip dR=>?_
   refine qav (i:=13) kz (qak dR (f:=157) (vs:=[.pointer (some ⟨dO,dP + k1_ * 4,none⟩)]) (d:=66) kz Tryz.call157 (qa8 0 ((D.f 1).f k1_) _ _ _ _ (dr.move ao.step nilM ao.imm) (qaB _ ao.step nilM ao.imm (g2e k1_ (by omega)))) ?_)
   rintro e_ iq ⟨gF,rfl,dS,cd⟩
   have ce:=dS.move (Step.refl _ Nil) nilM (ao.laid (G:=F) cd)
   obtain ⟨bL,bM,bN,bO,bP,bQ,bR,bS,bT,bU,bV,gG,gH,cg,gk,gl,ir,iu⟩:=ce.open_
   rw [cg] at ce
   have gm:=gk.small
   have gn:=gl.small
   rw [cg]
   refine ⟨_,rfl,fun iv dT=>?_⟩
   have cM:=ao.next_nil cd
   have ap:=ao.frN cd
   have dU:=TT.ofW ap cM
   refine ⟨fun _=>dU,?_⟩
   refine qav (i:=14) kz (qbL cM dT (e:=37) (size:=5) (len:=1) (cs:=[.int .i64 bL,.slice bQ bM.length bR,.bool bN,.slice bS bO.length bT,.slice bU bP.length bV]) (d:=67) kz kz fun dV iw ix gI gJ ae bF dW=>?_)
   have dX:=TT.ofW (ap.trans ae) bF
   refine ⟨fun _=>dX,?_⟩
   refine qav (i:=15) kz (qaQ bF dW (k:=0) (d:=68) (t:=34) (e:=37) (size:=5) (bytes:=88) (A:=A1_) (As:=(some ⟨dV,0,none⟩)) (m0:=k1_) (c:=c1_) (m:=1) (cs:=1) (xs:=xs1_) (news:=[.int .i64 bL,.slice bQ bM.length bR,.bool bN,.slice bS bO.length bT,.slice bU bP.length bV]) kz kz rfl (qby (bF.own 1 _ rfl) (qbx kz)) (qbJ (bF.own 1 _ rfl)) (by omega) fun bW bX iy iz ar cm dY=>?_)
   have dZ:=TT.ofW ((ap.trans ae).trans ar) cm
   refine ⟨fun _=>dZ,?_⟩
   refine qav (i:=16) kz (qat dY (t:=34) (A:=(some ⟨aa,0,none⟩)) (m:=2) (q:=1) (d:=69) kz (e:=37) (size:=5) (bytes:=88) (j:=1) kz (b:=aa) (o:=0) rfl rfl (by decide) fun iA d5=>?_)
   have d6:=d5.recast 69 (.v (.pointer (some ⟨aa,0 + 1 * 5,none⟩))) (.p 2 5) rfl rfl (Nat.le_of_ble_eq_true (n:=3) rfl)
   have d7:=d6.pk (env':=[(0,.p 0 0),(2,.p 1 0),(3,.p 3 0),(29,.v (.int .i64 (((D.f 1).l:Nat):Int))),(30,.v (.int .i64 ((k1_:Nat):Int))),(54,.v (.slice (some ⟨aa,0,none⟩) 2 2)),(59,.v (.slice A1_ k1_ c1_)),(63,.v (.slice ((D.f 1).A) ((D.f 1).l) ((D.f 1).c))),(64,.v (.int .i64 ((k1_:Nat):Int))),(65,.v (.pointer (some ⟨dO,dP + k1_ * 4,none⟩))),(66,.v (.agg #[.int .i64 bL,.slice bQ bM.length bR,.bool bN,.slice bS bO.length bT,.slice bU bP.length bV])),(67,.v (.slice (some ⟨dV,0,none⟩) 1 1)),(68,.v (.slice bW (k1_ + 1) bX)),(69,.p 2 5)])
   have cN:=TT.ofW ((ap.trans ae).trans ar) cm
   refine ⟨fun _=>cN,?_⟩
   refine qaN [17] [(0,.p 0 0),(2,.p 1 0),(3,.p 3 0),(29,.v (.int .i64 (((D.f 1).l:Nat):Int))),(30,.v (.int .i64 ((k1_:Nat):Int))),(68,.v (.slice bW (k1_ + 1) bX)),(70,.p 2 8)] 1 (qac (qaa (qaa (qac (qaa qaf))))) (fun _ h=>h.cells) cN d7 fun iB d8=>?_
   refine qav (i:=18) kz (qam cm d8 (oi:=2) (cs:=[.int .i64 0,.slice (some ⟨aB,0,none⟩) ((sb ((D.f 0).s)).length) aC,.bool false,.slice none 0 0,.slice none 0 0,.int .i64 0,.slice none 0 0,.bool (((D.f 1).A).isNone),.slice bW (k1_ + 1) bX,.slice none 0 0]) kz fun iC bj cO d9=>?_)
   refine ⟨fun h=>absurd rfl h,?_⟩
   refine qaJ kz ?_ _
   refine qax ?_
   refine qab ?_
   refine qap [0,1] kz ?_
   refine qaj [0,1] [] [(0,.p 0 0),(2,.p 1 0),(3,.p 3 0),(29,.v (.int .i64 (((D.f 1).l:Nat):Int))),(30,.v (.int .i64 (IntKind.i64.wrap (((k1_:Nat):Int) + 1))))] cO d9 fun iD ea=>?_
   refine qae (qab ?_)
   obtain ⟨cP,eb,bk⟩:=cO.cutB ea 4 [⟨b,o,[.string ((D.f 0).s),.slice ((D.f 1).A) ((D.f 1).l) ((D.f 1).c),.map D.m],false⟩,⟨b4,0,[.int .i64 0,.slice none 0 0,.bool false,.slice none 0 0,.slice none 0 0],true⟩,⟨aa,0,[.int .i64 0,.slice (some ⟨aB,0,none⟩) ((sb ((D.f 0).s)).length) aC,.bool false,.slice none 0 0,.slice none 0 0,.int .i64 0,.slice none 0 0,.bool (((D.f 1).A).isNone),.slice bW (k1_ + 1) bX,.slice none 0 0],true⟩,⟨bC,0,[.int .i64 0,.slice none 0 0,.bool false,.slice (some ⟨aa,0,none⟩) 2 2,.slice none 0 0],true⟩] [(0,.p 0 0),(2,.p 1 0),(3,.p 3 0),(29,.v (.int .i64 (((D.f 1).l:Nat):Int))),(30,.v (.int .i64 (IntKind.i64.wrap (((k1_:Nat):Int) + 1))))]
   obtain ⟨ec,bn⟩:=eb.cutR 1 [⟨bW,bX,37,5,k1_ + 1,xs1_ ++ [.int .i64 bL,.slice bQ bM.length bR,.bool bN,.slice bS bO.length bT,.slice bU bP.length bV]⟩]
   have ee:IntKind.i64.wrap (((k1_:Nat):Int) + 1) = ((k1_ + 1:Nat):Int):=qa3 (by omega)
   rw [ee] at cP
   exact ⟨(D.f 1).l - (k1_ + 1),by omega,k1_ + 1,bW,bX,xs1_ ++ [Value.int .i64 bL,.slice bQ bM.length bR,.bool bN,.slice bS bO.length bT,.slice bU bP.length bV],(css1_ ++ [[Value.int .i64 bL,.slice bQ bM.length bR,.bool bN,.slice bS bO.length bT,.slice bU bP.length bV]]),rfl,by omega,by rw [qcJ (by omega)]; exact (hT1_.move ((((((((((aI.trans ab).trans aD).trans bi).trans b8).trans ap).trans ae).trans ar).trans bj).trans bk).trans bn).step immM ((((((((((aI.trans ab).trans aD).trans bi).trans b8).trans ap).trans ae).trans ar).trans bj).trans bk).trans bn).to').snoc (x:=(fun i=>qaC ((D.f 1).f i)) k1_) (ce.move ((((ae.trans ar).trans bj).trans bk).trans bn).step immM ((((ae.trans ar).trans bj).trans bk).trans bn).to'),cP.pk,ec,(((((((((((bY.trans aI).trans ab).trans aD).trans bi).trans b8).trans ap).trans ae).trans ar).trans bj).trans bk).trans bn)⟩
  refine (qam bZ cJ (oi:=4) (cs:=[.bool false]) kz fun iE ac cQ ef=>?_)
  have eg:=TT.ofW (ab.trans ac) cQ
  refine ⟨fun _=>eg,?_⟩
  refine qav (i:=1) kz (qam cQ ef (oi:=4) (cs:=[.bool true]) kz fun iF af bG eh=>?_)
  have ei:=TT.ofW ((ab.trans ac).trans af) bG
  refine ⟨fun _=>ei,?_⟩
  refine qav (i:=3) kz (qbN [0,2,3,4,29,30,34] bG.cells eh (env':=[(0,.p 0 0),(2,.p 1 0),(3,.p 3 0),(4,.v (.int .i64 ((k1_:Nat):Int))),(29,.v (.int .i64 (((D.f 1).l:Nat):Int))),(30,.v (.int .i64 ((k1_:Nat):Int))),(34,.v (.bool true))]) kz fun iG cR=>?_)
  have ej:=TT.ofW ((ab.trans ac).trans af) bG
  refine ⟨fun _=>ej,?_⟩
  refine qaJ kz ?_ _
  refine qab ?_
  refine qbl cR (b:=true) kz rfl ?_
  refine qa1 17 kz bG fun iH aE ag bH=>?_
  refine qaN [0,1,5,6,7,8,9] [(0,.p 0 0),(2,.p 1 0),(3,.p 3 0),(29,.v (.int .i64 (((D.f 1).l:Nat):Int))),(30,.v (.int .i64 ((k1_:Nat):Int))),(36,.v (.slice (some ⟨aa,0,none⟩) 2 2)),(43,.v (.slice ((D.f 1).A) ((D.f 1).l) ((D.f 1).c))),(44,.v (.int .i64 ((k1_:Nat):Int)))] 11 (qaa (qac (qaa (qaa (qac (qaa qaf)))))) (fun _ h=>h.cells) bH cR fun iI ek=>?_
  refine qaW ek (i:=2) (t:=34) (A:=(some ⟨aa,0,none⟩)) (m:=2) (q:=1) (d:=37) kz (e:=37) (size:=5) (bytes:=88) (j:=1) kz (b:=aa) (o:=0) rfl rfl (by decide) kz kz (qaa (qac (qaa (qaa (qac (qaa qaf)))))) bH fun iJ em=>?_
  have eo:=em.recast 37 (.v (.pointer (some ⟨aa,0 + 1 * 5,none⟩))) (.p 2 5) rfl rfl (Nat.le_of_ble_eq_true (n:=3) rfl)
  have ep:=eo.pk (env':=[(0,.p 0 0),(2,.p 1 0),(3,.p 3 0),(29,.v (.int .i64 (((D.f 1).l:Nat):Int))),(30,.v (.int .i64 ((k1_:Nat):Int))),(36,.v (.slice (some ⟨aa,0,none⟩) 2 2)),(43,.v (.slice ((D.f 1).A) ((D.f 1).l) ((D.f 1).c))),(44,.v (.int .i64 ((k1_:Nat):Int))),(37,.p 2 5)])
  refine qaN [3,4,12] [(0,.p 0 0),(2,.p 1 0),(3,.p 3 0),(29,.v (.int .i64 (((D.f 1).l:Nat):Int))),(30,.v (.int .i64 ((k1_:Nat):Int))),(36,.v (.slice (some ⟨aa,0,none⟩) 2 2)),(39,.v (.slice A1_ k1_ c1_)),(43,.v (.slice ((D.f 1).A) ((D.f 1).l) ((D.f 1).c))),(44,.v (.int .i64 ((k1_:Nat):Int))),(47,.v (.int .i64 ((k1_:Nat):Int)))] 7 (qaa (qac (qaa (qaa (qac (qaa qaf)))))) (fun _ h=>h.cells) bH ep fun iK eu=>?_
  obtain ⟨cH,cI,ev,gK,cq⟩:=Slots.get g2 (i:=k1_) (by omega)
  refine qaW eu (i:=10) (t:=102) (A:=(D.f 1).A) (m:=((D.f 1).l)) (q:=((k1_:Nat):Int)) (d:=45) kz (e:=181) (size:=4) (bytes:=24) kz ev rfl (by omega) kz kz (qaa (qac (qaa (qaa (qac (qaa qaf)))))) bH fun iL cS=>?_
  refine qeI (i:=11) (j:=13) kz ?_ ?_
  ·
   refine (qak cS (f:=157) (vs:=[.pointer (some ⟨cH,cI + k1_ * 4,none⟩)]) (d:=46) kz Tryz.call157 (qa8 0 ((D.f 1).f k1_) _ _ _ _ (cq.move ag.step nilM ag.imm) (qaB _ ag.step nilM ag.imm (g2e k1_ (by omega)))) ?_)
   rintro e_ iM ⟨gL,rfl,ew,cr⟩
   have cu:=ew.move (Step.refl _ Nil) nilM (ag.laid (G:=F) cr)
   obtain ⟨aJ,aK,aL,aM,aN,aO,aP,aQ,aR,aS,aT,gM,gN,cw,gp,gq,iN,iO⟩:=cu.open_
   rw [cw] at cu
   have gt:=gp.small
   have gv:=gq.small
   rw [cw]
   refine ⟨_,rfl,fun iP ey=>?_⟩
   have cT:=ag.next_nil cr
   have au:=ag.frN cr
   have ez:=TT.ofW au cT
   refine ⟨fun _=>ez,?_⟩
   refine qav (i:=13) kz (qbL cT ey (e:=37) (size:=5) (len:=1) (cs:=[.int .i64 0,.slice none 0 0,.bool false,.slice none 0 0,.slice none 0 0]) (d:=48) kz kz fun dt iQ iR gO gP ah bI eB=>?_)
   have eC:=TT.ofW (au.trans ah) bI
   refine ⟨fun _=>eC,?_⟩
   refine qav (i:=14) kz (qaQ bI eB (k:=0) (d:=49) (t:=34) (e:=37) (size:=5) (bytes:=88) (A:=A1_) (As:=(some ⟨dt,0,none⟩)) (m0:=k1_) (c:=c1_) (m:=1) (cs:=1) (xs:=xs1_) (news:=[.int .i64 0,.slice none 0 0,.bool false,.slice none 0 0,.slice none 0 0]) kz kz rfl (qby (bI.own 1 _ rfl) (qbx kz)) (qbJ (bI.own 1 _ rfl)) (by omega) fun aj av iS iT aw cz eD=>?_)
   have eE:=TT.ofW ((au.trans ah).trans aw) cz
   refine ⟨fun _=>eE,?_⟩
   refine qav (i:=15) kz (qat eD (t:=34) (A:=(some ⟨aa,0,none⟩)) (m:=2) (q:=1) (d:=50) kz (e:=37) (size:=5) (bytes:=88) (j:=1) kz (b:=aa) (o:=0) rfl rfl (by decide) fun iU eF=>?_)
   have eG:=eF.recast 50 (.v (.pointer (some ⟨aa,0 + 1 * 5,none⟩))) (.p 2 5) rfl rfl (Nat.le_of_ble_eq_true (n:=3) rfl)
   have eH:=eG.pk (env':=[(0,.p 0 0),(2,.p 1 0),(3,.p 3 0),(29,.v (.int .i64 (((D.f 1).l:Nat):Int))),(30,.v (.int .i64 ((k1_:Nat):Int))),(36,.v (.slice (some ⟨aa,0,none⟩) 2 2)),(39,.v (.slice A1_ k1_ c1_)),(43,.v (.slice ((D.f 1).A) ((D.f 1).l) ((D.f 1).c))),(44,.v (.int .i64 ((k1_:Nat):Int))),(47,.v (.int .i64 ((k1_:Nat):Int))),(45,.v (.pointer (some ⟨cH,cI + k1_ * 4,none⟩))),(46,.v (.agg #[.int .i64 aJ,.slice aO aK.length aP,.bool aL,.slice aQ aM.length aR,.slice aS aN.length aT])),(48,.v (.slice (some ⟨dt,0,none⟩) 1 1)),(49,.v (.slice aj (k1_ + 1) av)),(50,.p 2 5)])
   have cU:=TT.ofW ((au.trans ah).trans aw) cz
   refine ⟨fun _=>cU,?_⟩
   refine qaN [16] [(0,.p 0 0),(2,.p 1 0),(3,.p 3 0),(29,.v (.int .i64 (((D.f 1).l:Nat):Int))),(30,.v (.int .i64 ((k1_:Nat):Int))),(46,.v (.agg #[.int .i64 aJ,.slice aO aK.length aP,.bool aL,.slice aQ aM.length aR,.slice aS aN.length aT])),(47,.v (.int .i64 ((k1_:Nat):Int))),(49,.v (.slice aj (k1_ + 1) av)),(51,.p 2 8)] 1 (qaa (qac (qaa (qaa (qac (qaa qaf)))))) (fun _ h=>h.cells) cU eH fun iV eI=>?_
   refine qav (i:=17) kz (qam cz eI (oi:=2) (cs:=[.int .i64 0,.slice (some ⟨aB,0,none⟩) ((sb ((D.f 0).s)).length) aC,.bool false,.slice none 0 0,.slice none 0 0,.int .i64 0,.slice none 0 0,.bool (((D.f 1).A).isNone),.slice aj (k1_ + 1) av,.slice none 0 0]) kz fun gw bo cV eJ=>?_)
   refine ⟨fun h=>absurd rfl h,?_⟩
   refine qaJ kz ?_ _
   refine qab ?_
   refine qap [0,1] kz ?_
   have eK:World.ownsRow gw 0 37 5 (.slice aj (k1_ + 1) av) (k1_ + 1) (xs1_ ++ [.int .i64 0,.slice none 0 0,.bool false,.slice none 0 0,.slice none 0 0]):=cV.own 0 _ rfl
   obtain ⟨eL,cW⟩:=qb5 eK (by omega)
   refine qai (qat eJ (t:=34) (A:=aj) (m:=(k1_ + 1)) (q:=((k1_:Nat):Int)) (d:=52) kz (e:=37) (size:=5) (bytes:=88) kz (b:=eL) (o:=0) (j:=k1_) cW (rfl) (by omega) fun iW eM=>?_)
   refine qai (qb0 cV eM (k:=0) (g:=eL) (o:=k1_ * 5) (c:=av) (m:=(k1_ + 1)) (size:=5) (e:=37) (A:=aj) (xs:=(xs1_ ++ [.int .i64 0,.slice none 0 0,.bool false,.slice none 0 0,.slice none 0 0])) (vs:=[.int .i64 aJ,.slice aO aK.length aP,.bool aL,.slice aQ aM.length aR,.slice aS aN.length aT]) kz rfl cW (by simp only [List.length_cons,List.length_nil]; omega) fun iX bp eN eO=>?_)
   have eP:(⟨aj,av,37,5,k1_ + 1,qbi (xs1_ ++ [.int .i64 0,.slice none 0 0,.bool false,.slice none 0 0,.slice none 0 0]) (k1_ * 5) [.int .i64 aJ,.slice aO aK.length aP,.bool aL,.slice aQ aM.length aR,.slice aS aN.length aT]⟩:Rw) = ⟨aj,av,37,5,k1_ + 1,xs1_ ++ [.int .i64 aJ,.slice aO aK.length aP,.bool aL,.slice aQ aM.length aR,.slice aS aN.length aT]⟩:=by rw [qdd (by rw [hT1_.xslen,List.length_take,qcA]; omega)]
   obtain ⟨cX,bq⟩:=eN.rowEq 0 [⟨aj,av,37,5,k1_ + 1,xs1_ ++ [.int .i64 aJ,.slice aO aK.length aP,.bool aL,.slice aQ aM.length aR,.slice aS aN.length aT]⟩,⟨some ⟨dt,0,none⟩,1,37,5,1,[.int .i64 0,.slice none 0 0,.bool false,.slice none 0 0,.slice none 0 0]⟩] eP
   refine qae ?_
   refine qax ?_
   refine qab ?_
   refine qap [0,1] kz ?_
   refine qaj [0,1] [] [(0,.p 0 0),(2,.p 1 0),(3,.p 3 0),(29,.v (.int .i64 (((D.f 1).l:Nat):Int))),(30,.v (.int .i64 (IntKind.i64.wrap (((k1_:Nat):Int) + 1))))] cX eO fun iY eQ=>?_
   refine qae (qab ?_)
   obtain ⟨cY,eR,bt⟩:=cX.cutB eQ 4 [⟨b,o,[.string ((D.f 0).s),.slice ((D.f 1).A) ((D.f 1).l) ((D.f 1).c),.map D.m],false⟩,⟨b4,0,[.int .i64 0,.slice none 0 0,.bool false,.slice none 0 0,.slice none 0 0],true⟩,⟨aa,0,[.int .i64 0,.slice (some ⟨aB,0,none⟩) ((sb ((D.f 0).s)).length) aC,.bool false,.slice none 0 0,.slice none 0 0,.int .i64 0,.slice none 0 0,.bool (((D.f 1).A).isNone),.slice aj (k1_ + 1) av,.slice none 0 0],true⟩,⟨bC,0,[.int .i64 0,.slice none 0 0,.bool false,.slice (some ⟨aa,0,none⟩) 2 2,.slice none 0 0],true⟩] [(0,.p 0 0),(2,.p 1 0),(3,.p 3 0),(29,.v (.int .i64 (((D.f 1).l:Nat):Int))),(30,.v (.int .i64 (IntKind.i64.wrap (((k1_:Nat):Int) + 1))))]
   obtain ⟨eS,bu⟩:=eR.cutR 1 [⟨aj,av,37,5,k1_ + 1,xs1_ ++ [.int .i64 aJ,.slice aO aK.length aP,.bool aL,.slice aQ aM.length aR,.slice aS aN.length aT]⟩]
   have eU:IntKind.i64.wrap (((k1_:Nat):Int) + 1) = ((k1_ + 1:Nat):Int):=qa3 (by omega)
   rw [eU] at cY
   exact ⟨(D.f 1).l - (k1_ + 1),by omega,k1_ + 1,aj,av,xs1_ ++ [Value.int .i64 aJ,.slice aO aK.length aP,.bool aL,.slice aQ aM.length aR,.slice aS aN.length aT],(css1_ ++ [[Value.int .i64 aJ,.slice aO aK.length aP,.bool aL,.slice aQ aM.length aR,.slice aS aN.length aT]]),rfl,by omega,by rw [qcJ (by omega)]; exact (hT1_.move ((((((((((((aI.trans ab).trans ac).trans af).trans aE).trans au).trans ah).trans aw).trans bo).trans bp).trans bq).trans bt).trans bu).step immM ((((((((((((aI.trans ab).trans ac).trans af).trans aE).trans au).trans ah).trans aw).trans bo).trans bp).trans bq).trans bt).trans bu).to').snoc (x:=(fun i=>qaC ((D.f 1).f i)) k1_) (cu.move ((((((ah.trans aw).trans bo).trans bp).trans bq).trans bt).trans bu).step immM ((((((ah.trans aw).trans bo).trans bp).trans bq).trans bt).trans bu).to'),cY.pk,eS,(((((((((((((bY.trans aI).trans ab).trans ac).trans af).trans aE).trans au).trans ah).trans aw).trans bo).trans bp).trans bq).trans bt).trans bu)⟩
  refine (qbL ag cS (e:=37) (size:=5) (len:=1) (cs:=[.int .i64 0,.slice none 0 0,.bool false,.slice none 0 0,.slice none 0 0]) (d:=48) kz kz fun du iZ i6 gQ gR ax ai eV=>?_)
  have eW:=TT.ofW ax ai
  refine ⟨fun _=>eW,?_⟩
  refine qav (i:=11) kz (qak eV (f:=157) (vs:=[.pointer (some ⟨cH,cI + k1_ * 4,none⟩)]) (d:=46) kz Tryz.call157 (qa8 0 ((D.f 1).f k1_) _ _ _ _ (cq.move ai.step nilM ai.imm) (qaB _ ai.step nilM ai.imm (g2e k1_ (by omega)))) ?_)
  rintro e_ i7 ⟨gS,rfl,eX,cA⟩
  have cB:=eX.move (Step.refl _ Nil) nilM (ai.laid (G:=F) cA)
  obtain ⟨aU,aV,aW,aX,aY,aZ,ba,bd,bf,bg,bh,gT,gU,cC,gx,gy,ja,jb⟩:=cB.open_
  rw [cC] at cB
  have gz:=gx.small
  have gA:=gy.small
  rw [cC]
  refine ⟨_,rfl,fun jc eY=>?_⟩
  have bJ:=ai.next_nil cA
  have aF:=ai.frN cA
  have eZ:=TT.ofW (ax.trans aF) bJ
  refine ⟨fun _=>eZ,?_⟩
  refine qav (i:=14) kz (qaQ bJ eY (k:=0) (d:=49) (t:=34) (e:=37) (size:=5) (bytes:=88) (A:=A1_) (As:=(some ⟨du,0,none⟩)) (m0:=k1_) (c:=c1_) (m:=1) (cs:=1) (xs:=xs1_) (news:=[.int .i64 0,.slice none 0 0,.bool false,.slice none 0 0,.slice none 0 0]) kz kz rfl (qby (bJ.own 1 _ rfl) (qbx kz)) (qbJ (bJ.own 1 _ rfl)) (by omega) fun ak ay jd je az cD e9=>?_)
  have fa:=TT.ofW ((ax.trans aF).trans az) cD
  refine ⟨fun _=>fa,?_⟩
  refine qav (i:=15) kz (qat e9 (t:=34) (A:=(some ⟨aa,0,none⟩)) (m:=2) (q:=1) (d:=50) kz (e:=37) (size:=5) (bytes:=88) (j:=1) kz (b:=aa) (o:=0) rfl rfl (by decide) fun jf fb=>?_)
  have fe:=fb.recast 50 (.v (.pointer (some ⟨aa,0 + 1 * 5,none⟩))) (.p 2 5) rfl rfl (Nat.le_of_ble_eq_true (n:=3) rfl)
  have ff:=fe.pk (env':=[(0,.p 0 0),(2,.p 1 0),(3,.p 3 0),(29,.v (.int .i64 (((D.f 1).l:Nat):Int))),(30,.v (.int .i64 ((k1_:Nat):Int))),(36,.v (.slice (some ⟨aa,0,none⟩) 2 2)),(39,.v (.slice A1_ k1_ c1_)),(43,.v (.slice ((D.f 1).A) ((D.f 1).l) ((D.f 1).c))),(44,.v (.int .i64 ((k1_:Nat):Int))),(47,.v (.int .i64 ((k1_:Nat):Int))),(45,.v (.pointer (some ⟨cH,cI + k1_ * 4,none⟩))),(48,.v (.slice (some ⟨du,0,none⟩) 1 1)),(46,.v (.agg #[.int .i64 aU,.slice aZ aV.length ba,.bool aW,.slice bd aX.length bf,.slice bg aY.length bh])),(49,.v (.slice ak (k1_ + 1) ay)),(50,.p 2 5)])
  have cZ:=TT.ofW ((ax.trans aF).trans az) cD
  refine ⟨fun _=>cZ,?_⟩
  refine qaN [16] [(0,.p 0 0),(2,.p 1 0),(3,.p 3 0),(29,.v (.int .i64 (((D.f 1).l:Nat):Int))),(30,.v (.int .i64 ((k1_:Nat):Int))),(46,.v (.agg #[.int .i64 aU,.slice aZ aV.length ba,.bool aW,.slice bd aX.length bf,.slice bg aY.length bh])),(47,.v (.int .i64 ((k1_:Nat):Int))),(49,.v (.slice ak (k1_ + 1) ay)),(51,.p 2 8)] 1 (qaa (qac (qaa (qaa (qac (qaa qaf)))))) (fun _ h=>h.cells) cZ ff fun jg fg=>?_
  refine qav (i:=17) kz (qam cD fg (oi:=2) (cs:=[.int .i64 0,.slice (some ⟨aB,0,none⟩) ((sb ((D.f 0).s)).length) aC,.bool false,.slice none 0 0,.slice none 0 0,.int .i64 0,.slice none 0 0,.bool (((D.f 1).A).isNone),.slice ak (k1_ + 1) ay,.slice none 0 0]) kz fun gB bw c5 fh=>?_)
  refine ⟨fun h=>absurd rfl h,?_⟩
  refine qaJ kz ?_ _
  refine qab ?_
  refine qap [0,1] kz ?_
  have fi:World.ownsRow gB 0 37 5 (.slice ak (k1_ + 1) ay) (k1_ + 1) (xs1_ ++ [.int .i64 0,.slice none 0 0,.bool false,.slice none 0 0,.slice none 0 0]):=c5.own 0 _ rfl
  obtain ⟨fj,c6⟩:=qb5 fi (by omega)
  refine qai (qat fh (t:=34) (A:=ak) (m:=(k1_ + 1)) (q:=((k1_:Nat):Int)) (d:=52) kz (e:=37) (size:=5) (bytes:=88) kz (b:=fj) (o:=0) (j:=k1_) c6 (rfl) (by omega) fun jh fk=>?_)
  refine qai (qb0 c5 fk (k:=0) (g:=fj) (o:=k1_ * 5) (c:=ay) (m:=(k1_ + 1)) (size:=5) (e:=37) (A:=ak) (xs:=(xs1_ ++ [.int .i64 0,.slice none 0 0,.bool false,.slice none 0 0,.slice none 0 0])) (vs:=[.int .i64 aU,.slice aZ aV.length ba,.bool aW,.slice bd aX.length bf,.slice bg aY.length bh]) kz rfl c6 (by simp only [List.length_cons,List.length_nil]; omega) fun ji bx fl fm=>?_)
  have fo:(⟨ak,ay,37,5,k1_ + 1,qbi (xs1_ ++ [.int .i64 0,.slice none 0 0,.bool false,.slice none 0 0,.slice none 0 0]) (k1_ * 5) [.int .i64 aU,.slice aZ aV.length ba,.bool aW,.slice bd aX.length bf,.slice bg aY.length bh]⟩:Rw) = ⟨ak,ay,37,5,k1_ + 1,xs1_ ++ [.int .i64 aU,.slice aZ aV.length ba,.bool aW,.slice bd aX.length bf,.slice bg aY.length bh]⟩:=by rw [qdd (by rw [hT1_.xslen,List.length_take,qcA]; omega)]
  obtain ⟨da,bz⟩:=fl.rowEq 0 [⟨ak,ay,37,5,k1_ + 1,xs1_ ++ [.int .i64 aU,.slice aZ aV.length ba,.bool aW,.slice bd aX.length bf,.slice bg aY.length bh]⟩,⟨some ⟨du,0,none⟩,1,37,5,1,[.int .i64 0,.slice none 0 0,.bool false,.slice none 0 0,.slice none 0 0]⟩] fo
  refine qae ?_
  refine qax ?_
  refine qab ?_
  refine qap [0,1] kz ?_
  refine qaj [0,1] [] [(0,.p 0 0),(2,.p 1 0),(3,.p 3 0),(29,.v (.int .i64 (((D.f 1).l:Nat):Int))),(30,.v (.int .i64 (IntKind.i64.wrap (((k1_:Nat):Int) + 1))))] da fm fun jj fq=>?_
  refine qae (qab ?_)
  obtain ⟨db,fr,bA⟩:=da.cutB fq 4 [⟨b,o,[.string ((D.f 0).s),.slice ((D.f 1).A) ((D.f 1).l) ((D.f 1).c),.map D.m],false⟩,⟨b4,0,[.int .i64 0,.slice none 0 0,.bool false,.slice none 0 0,.slice none 0 0],true⟩,⟨aa,0,[.int .i64 0,.slice (some ⟨aB,0,none⟩) ((sb ((D.f 0).s)).length) aC,.bool false,.slice none 0 0,.slice none 0 0,.int .i64 0,.slice none 0 0,.bool (((D.f 1).A).isNone),.slice ak (k1_ + 1) ay,.slice none 0 0],true⟩,⟨bC,0,[.int .i64 0,.slice none 0 0,.bool false,.slice (some ⟨aa,0,none⟩) 2 2,.slice none 0 0],true⟩] [(0,.p 0 0),(2,.p 1 0),(3,.p 3 0),(29,.v (.int .i64 (((D.f 1).l:Nat):Int))),(30,.v (.int .i64 (IntKind.i64.wrap (((k1_:Nat):Int) + 1))))]
  obtain ⟨ft,bB⟩:=fr.cutR 1 [⟨ak,ay,37,5,k1_ + 1,xs1_ ++ [.int .i64 aU,.slice aZ aV.length ba,.bool aW,.slice bd aX.length bf,.slice bg aY.length bh]⟩]
  have fu:IntKind.i64.wrap (((k1_:Nat):Int) + 1) = ((k1_ + 1:Nat):Int):=qa3 (by omega)
  rw [fu] at db
  exact ⟨(D.f 1).l - (k1_ + 1),by omega,k1_ + 1,ak,ay,xs1_ ++ [Value.int .i64 aU,.slice aZ aV.length ba,.bool aW,.slice bd aX.length bf,.slice bg aY.length bh],(css1_ ++ [[Value.int .i64 aU,.slice aZ aV.length ba,.bool aW,.slice bd aX.length bf,.slice bg aY.length bh]]),rfl,by omega,by rw [qcJ (by omega)]; exact (hT1_.move ((((((((((((aI.trans ab).trans ac).trans af).trans aE).trans ax).trans aF).trans az).trans bw).trans bx).trans bz).trans bA).trans bB).step immM ((((((((((((aI.trans ab).trans ac).trans af).trans aE).trans ax).trans aF).trans az).trans bw).trans bx).trans bz).trans bA).trans bB).to').snoc (x:=(fun i=>qaC ((D.f 1).f i)) k1_) (cB.move (((((az.trans bw).trans bx).trans bz).trans bA).trans bB).step immM (((((az.trans bw).trans bx).trans bz).trans bA).trans bB).to'),db.pk,ft,(((((((((((((bY.trans aI).trans ab).trans ac).trans af).trans aE).trans ax).trans aF).trans az).trans bw).trans bx).trans bz).trans bA).trans bB)⟩
 have gV:=of_decide_eq_false dq
 refine wp_exit ?_
 refine qaw ?_
 refine qaw ?_
 refine qaT ?_
 refine qab ?_
 refine qad [0,1,2,3,4] kz ?_
 refine qaj [0,1,2] [3,4] [(2,.p 1 0),(3,.p 3 0),(74,.p 0 2)] aA dp fun jk fv=>?_
 refine qai (qeB fv (v:=.func (.func 158) #[] #[.pointer (some ⟨bC,0,none⟩)]) (d:=75) kz fun jl fw=>?_)
 refine qai (qak fw (f:=103) (vs:=[.pointer (some ⟨b,o + 2,none⟩),.func (.func 158) #[] #[.pointer (some ⟨bC,0,none⟩)]]) (d:=76) kz Tryz.call103 (qe4 (F:=(Imm F w hJ [⟨b,o,[.string ((D.f 0).s),.slice ((D.f 1).A) ((D.f 1).l) ((D.f 1).c),.map D.m],false⟩,⟨b4,0,[.int .i64 0,.slice none 0 0,.bool false,.slice none 0 0,.slice none 0 0],true⟩,⟨aa,0,[.int .i64 0,.slice (some ⟨aB,0,none⟩) ((sb ((D.f 0).s)).length) aC,.bool false,.slice none 0 0,.slice none 0 0,.int .i64 0,.slice none 0 0,.bool (((D.f 1).A).isNone),.slice A1_ k1_ c1_,.slice none 0 0],true⟩,⟨bC,0,[.int .i64 0,.slice none 0 0,.bool false,.slice (some ⟨aa,0,none⟩) 2 2,.slice none 0 0],true⟩] [⟨A1_,c1_,37,5,k1_,xs1_⟩])) Tryz.call158 qbW ((hat.one 2 rfl).move aA.step nilM aA.imm) (g3.move aA.step nilM aA.imm) (Str.of aA 3 rfl) (qjr 3 rfl) g3l) ?_)
 rintro e_ jm ⟨rfl,al,am,dv,fx,fy⟩
 obtain ⟨cE,bK,fz⟩:=aA.wrote 3 [⟨b,o,[.string ((D.f 0).s),.slice ((D.f 1).A) ((D.f 1).l) ((D.f 1).c),.map D.m],false⟩,⟨b4,0,[.int .i64 0,.slice none 0 0,.bool false,.slice none 0 0,.slice none 0 0],true⟩,⟨aa,0,[.int .i64 0,.slice (some ⟨aB,0,none⟩) ((sb ((D.f 0).s)).length) aC,.bool false,.slice none 0 0,.slice none 0 0,.int .i64 0,.slice none 0 0,.bool (((D.f 1).A).isNone),.slice A1_ k1_ c1_,.slice none 0 0],true⟩,⟨bC,0,[.int .i64 0,.slice none 0 0,.bool false,.slice (some ⟨aa,0,none⟩) 2 2,.slice al D.u.length am],true⟩] rfl fy dv
 have dc:=fx.move (Step.refl _ Nil) nilM (fun b_ o_ h_ hb_=>fz (G:=F) b_ o_ (.inr h_) hb_)
 refine ⟨_,rfl,fun jn fA=>?_⟩
 have fB:=(EnvOk.places (tb':=[⟨b,o,[.string ((D.f 0).s),.slice ((D.f 1).A) ((D.f 1).l) ((D.f 1).c),.map D.m],false⟩,⟨b4,0,[.int .i64 0,.slice none 0 0,.bool false,.slice none 0 0,.slice none 0 0],true⟩,⟨aa,0,[.int .i64 0,.slice (some ⟨aB,0,none⟩) ((sb ((D.f 0).s)).length) aC,.bool false,.slice none 0 0,.slice none 0 0,.int .i64 0,.slice none 0 0,.bool (((D.f 1).A).isNone),.slice A1_ k1_ c1_,.slice none 0 0],true⟩,⟨bC,0,[.int .i64 0,.slice none 0 0,.bool false,.slice (some ⟨aa,0,none⟩) 2 2,.slice al D.u.length am],true⟩]) fA (show Pl [⟨b,o,[.string ((D.f 0).s),.slice ((D.f 1).A) ((D.f 1).l) ((D.f 1).c),.map D.m],false⟩,⟨b4,0,[.int .i64 0,.slice none 0 0,.bool false,.slice none 0 0,.slice none 0 0],true⟩,⟨aa,0,[.int .i64 0,.slice (some ⟨aB,0,none⟩) ((sb ((D.f 0).s)).length) aC,.bool false,.slice none 0 0,.slice none 0 0,.int .i64 0,.slice none 0 0,.bool (((D.f 1).A).isNone),.slice A1_ k1_ c1_,.slice none 0 0],true⟩,⟨bC,0,[.int .i64 0,.slice none 0 0,.bool false,.slice (some ⟨aa,0,none⟩) 2 2,.slice none 0 0],true⟩] [⟨b,o,[.string ((D.f 0).s),.slice ((D.f 1).A) ((D.f 1).l) ((D.f 1).c),.map D.m],false⟩,⟨b4,0,[.int .i64 0,.slice none 0 0,.bool false,.slice none 0 0,.slice none 0 0],true⟩,⟨aa,0,[.int .i64 0,.slice (some ⟨aB,0,none⟩) ((sb ((D.f 0).s)).length) aC,.bool false,.slice none 0 0,.slice none 0 0,.int .i64 0,.slice none 0 0,.bool (((D.f 1).A).isNone),.slice A1_ k1_ c1_,.slice none 0 0],true⟩,⟨bC,0,[.int .i64 0,.slice none 0 0,.bool false,.slice (some ⟨aa,0,none⟩) 2 2,.slice al D.u.length am],true⟩] from ⟨rfl,rfl,⟨rfl,rfl,⟨rfl,rfl,⟨rfl,rfl,trivial⟩⟩⟩⟩)).pk (env':=[(76,.v (.tuple #[])),(2,.p 1 0),(3,.p 3 0),(74,.p 0 2),(75,.v (.func (.func 158) #[] #[.pointer (some ⟨bC,0,none⟩)]))])
 refine qae (qab ?_)
 refine qad [0,1,2] kz ?_
 refine qaj [0,1] [2] [(2,.p 1 0),(3,.p 3 0),(78,.v (.slice al D.u.length am))] cE fB fun jo fC=>?_
 refine qai (qak fC (f:=105) (vs:=[.slice al D.u.length am]) (d:=79) kz Tryz.call105 (qgN dc g3.sorted) ?_)
 rintro e_ jp ⟨rfl,de⟩
 refine ⟨_,rfl,fun jq fD=>?_⟩
 have dg:=cE.next_nil de
 have aG:=cE.frN de
 refine qae (qab ?_)
 refine qad [0,1] kz ?_
 refine qaj [0] [1] [(2,.p 1 0),(80,.v (.agg #[.int .i64 0,.slice none 0 0,.bool false,.slice (some ⟨aa,0,none⟩) 2 2,.slice al D.u.length am]))] dg fD fun jr fE=>?_
 refine qai (qam dg fE (oi:=1) (cs:=[.int .i64 0,.slice none 0 0,.bool false,.slice (some ⟨aa,0,none⟩) 2 2,.slice al D.u.length am]) kz fun fF aH cG fG=>?_)
 refine qae (qab ?_)
 refine wp_ret ?_
 refine qaX fG cG.cells (v:=.agg #[.int .i64 0,.slice none 0 0,.bool false,.slice (some ⟨aa,0,none⟩) 2 2,.slice al D.u.length am]) kz ?_
 have dh:=(hT1_.move ((bK.trans aG).trans aH).step immM ((bK.trans aG).trans aH).to')
 rw [qhf (by omega)] at dh
 exact qfP (u:=D.u) (l:=[.mk 0 (sb (D.f 0).s) false [] [],.mk 0 [] (D.f 1).A.isNone ((List.range (D.f 1).l).map fun i=>qaC ((D.f 1).f i)) []]) (css:=[[.int .i64 0,.slice (some ⟨aB,0,none⟩) ((sb ((D.f 0).s)).length) aC,.bool false,.slice none 0 0,.slice none 0 0],[.int .i64 0,.slice none 0 0,.bool (((D.f 1).A).isNone),.slice A1_ k1_ c1_,.slice none 0 0]]) cG 2 rfl ⟨(show TreeR _ (Imm F w fF [⟨b,o,[.string ((D.f 0).s),.slice ((D.f 1).A) ((D.f 1).l) ((D.f 1).c),.map D.m],false⟩,⟨b4,0,[.int .i64 0,.slice none 0 0,.bool false,.slice (some ⟨aa,0,none⟩) 2 2,.slice al D.u.length am],true⟩,⟨aa,0,[.int .i64 0,.slice (some ⟨aB,0,none⟩) ((sb ((D.f 0).s)).length) aC,.bool false,.slice none 0 0,.slice none 0 0,.int .i64 0,.slice none 0 0,.bool (((D.f 1).A).isNone),.slice A1_ k1_ c1_,.slice none 0 0],true⟩,⟨bC,0,[.int .i64 0,.slice none 0 0,.bool false,.slice (some ⟨aa,0,none⟩) 2 2,.slice al D.u.length am],true⟩] [⟨A1_,c1_,37,5,k1_,xs1_⟩]) _ _ from (TreeR.mk (n:=0) (b:=false) (s:=(sb ((D.f 0).s))) (l:=[]) (u:=[]) (fun _=>[]) (fV.move (((((((dy.trans dz).trans dA).trans dC).trans bY).trans bK).trans aG).trans aH).step immM (((((((dy.trans dz).trans dA).trans dC).trans bY).trans bK).trans aG).trans aH).to') (Slots.nil _ _ _ _) (fun i_ x_ h_=>by simp at h_) (TagsR.nil _ _))).move (Step.refl _ Nil) nilM qbG,qgn cG (k:=0) rfl dh (by rw [qcA]; omega) (by rw [qcA]; omega),trivial⟩ ((show TagsR _ (Imm F w fF [⟨b,o,[.string ((D.f 0).s),.slice ((D.f 1).A) ((D.f 1).l) ((D.f 1).c),.map D.m],false⟩,⟨b4,0,[.int .i64 0,.slice none 0 0,.bool false,.slice (some ⟨aa,0,none⟩) 2 2,.slice al D.u.length am],true⟩,⟨aa,0,[.int .i64 0,.slice (some ⟨aB,0,none⟩) ((sb ((D.f 0).s)).length) aC,.bool false,.slice none 0 0,.slice none 0 0,.int .i64 0,.slice none 0 0,.bool (((D.f 1).A).isNone),.slice A1_ k1_ c1_,.slice none 0 0],true⟩,⟨bC,0,[.int .i64 0,.slice none 0 0,.bool false,.slice (some ⟨aa,0,none⟩) 2 2,.slice al D.u.length am],true⟩] [⟨A1_,c1_,37,5,k1_,xs1_⟩]) _ _ _ from (dc.move (aG.trans aH).step immM (aG.trans aH).to')).move (Step.refl _ Nil) nilM qbG)
set_option maxHeartbeats 4000000 in
theorem qcl (v:Int) (D:DV) (b o:Nat) (w:World) (F:Nat → Nat → Prop) (hat:AtF w F b o [.int .i16 v,.int .i32 ((D.f 0).n),.bool ((D.f 1).b),.int .i16 ((D.f 2).n),.pointer ((D.f 3).A),.slice ((D.f 4).A) ((D.f 4).l) ((D.f 4).c),.map D.m]) (hok:qaI w F D):Calls Tryz.prog 45 #[.pointer (some ⟨b,o,none⟩)] w (qc0 w F (qa2 D)):=by
 refine enter (n:=106) Tryz.func45 rfl Tryz.ntmps45 kz fun a hE=>?_
 have hW:WOk w Nil w [⟨b,o,[.int .i16 v,.int .i32 ((D.f 0).n),.bool ((D.f 1).b),.int .i16 ((D.f 2).n),.pointer ((D.f 3).A),.slice ((D.f 4).A) ((D.f 4).l) ((D.f 4).c),.map D.m],false⟩] []:=(WOk.start w Nil).start1 hat rfl rfl
 unfold qaI at hok
 obtain ⟨g1,g2,g3,⟨g4,g4l⟩,⟨g5,g5l,g5e⟩,g6,g6l,g6x,_⟩:=hok
 have hE0:=(EnvOk.ptr0 (cs:=[.int .i16 v,.int .i32 ((D.f 0).n),.bool ((D.f 1).b),.int .i16 ((D.f 2).n),.pointer ((D.f 3).A),.slice ((D.f 4).A) ((D.f 4).l) ((D.f 4).c),.map D.m]) (r:=false) hE).pk (env':=[(0,.p 0 0)])
 refine qad [0] kz ?_
 refine qai (qaO hW hE0 (d:=2) (cs:=[.int .i64 0,.slice none 0 0,.bool false,.slice none 0 0,.slice none 0 0]) kz fun b7 a8 w9 jn jo jp gT gU=>?_)
 refine qae (qab ?_)
 refine qad [0,1,2,3] kz ?_
 refine qai (qep (t:=34) (e:=37) (size:=5) (bytes:=88) (d:=5) (j:=5) (.agg #[.int .i64 0,.slice none 0 0,.bool false,.slice none 0 0,.slice none 0 0]) [.int .i64 0,.slice none 0 0,.bool false,.slice none 0 0,.slice none 0 0,.int .i64 0,.slice none 0 0,.bool false,.slice none 0 0,.slice none 0 0,.int .i64 0,.slice none 0 0,.bool false,.slice none 0 0,.slice none 0 0,.int .i64 0,.slice none 0 0,.bool false,.slice none 0 0,.slice none 0 0,.int .i64 0,.slice none 0 0,.bool false,.slice none 0 0,.slice none 0 0] gT gU fun aa li lj jq jr js ee gV=>?_)
 refine qaj [1] [2,3] [(0,.p 0 0),(2,.p 1 0),(6,.v (.agg #[.int .i64 0,.slice none 0 0,.bool false,.slice (some ⟨aa,0,none⟩) 5 5,.slice none 0 0]))] ee gV fun lm gW=>?_
 refine qai (qaO ee gW (d:=3) (cs:=[.int .i64 0,.slice none 0 0,.bool false,.slice none 0 0,.slice none 0 0]) kz fun bd ln lp jt ju jv gX gY=>?_)
 refine qai (qam gX gY (oi:=3) (cs:=[.int .i64 0,.slice none 0 0,.bool false,.slice (some ⟨aa,0,none⟩) 5 5,.slice none 0 0]) kz fun lq jw gZ g7=>?_)
 refine qae (qab ?_)
 refine qa1 9 kz gZ fun lr jx g8 ef=>?_
 refine qaN [0,1,2,3,4,5,6,7] [(0,.p 0 0),(2,.p 1 0),(3,.p 3 0),(8,.v (.slice (some ⟨aa,0,none⟩) 5 5)),(14,.v (.agg #[.int .i64 (IntKind.i64.wrap ((D.f 0).n)),.slice none 0 0,.bool false,.slice none 0 0,.slice none 0 0]))] 2 (qaa qaf) (fun _ h=>h.cells) ef g7 fun ls g9=>?_
 refine qaW g9 (i:=8) (t:=34) (A:=(some ⟨aa,0,none⟩)) (m:=5) (q:=0) (d:=15) kz (e:=37) (size:=5) (bytes:=88) (j:=0) kz (b:=aa) (o:=0) rfl rfl (by decide) kz kz (qaa qaf) ef fun lu hC=>?_
 have hJ:=hC.recast 15 (.v (.pointer (some ⟨aa,0 + 0 * 5,none⟩))) (.p 2 0) rfl rfl (Nat.le_of_ble_eq_true (n:=3) rfl)
 have hK:=hJ.pk (env':=[(0,.p 0 0),(2,.p 1 0),(3,.p 3 0),(8,.v (.slice (some ⟨aa,0,none⟩) 5 5)),(14,.v (.agg #[.int .i64 (IntKind.i64.wrap ((D.f 0).n)),.slice none 0 0,.bool false,.slice none 0 0,.slice none 0 0])),(15,.p 2 0)])
 refine qav (i:=9) kz (qam g8 hK (oi:=2) (cs:=[.int .i64 (IntKind.i64.wrap ((D.f 0).n)),.slice none 0 0,.bool false,.slice none 0 0,.slice none 0 0,.int .i64 0,.slice none 0 0,.bool false,.slice none 0 0,.slice none 0 0,.int .i64 0,.slice none 0 0,.bool false,.slice none 0 0,.slice none 0 0,.int .i64 0,.slice none 0 0,.bool false,.slice none 0 0,.slice none 0 0,.int .i64 0,.slice none 0 0,.bool false,.slice none 0 0,.slice none 0 0]) kz fun lv jy hY hZ=>?_)
 refine ⟨fun h=>absurd rfl h,?_⟩
 refine qaJ kz ?_ _
 refine qab ?_
 refine qa1 8 kz hY fun jz jA d6 ia=>?_
 refine qaN [0,1,2,3,4,5] [(0,.p 0 0),(2,.p 1 0),(3,.p 3 0),(17,.v (.slice (some ⟨aa,0,none⟩) 5 5)),(21,.v (.bool ((D.f 1).b)))] 3 (qaa qaf) (fun _ h=>h.cells) ia hZ fun lw ib=>?_
 refine qav (i:=6) kz (qak ib (f:=100) (vs:=[.bool ((D.f 1).b)]) (d:=22) kz Tryz.call100 (qlb _ _ (Imm F w jz [⟨b,o,[.int .i16 v,.int .i32 ((D.f 0).n),.bool ((D.f 1).b),.int .i16 ((D.f 2).n),.pointer ((D.f 3).A),.slice ((D.f 4).A) ((D.f 4).l) ((D.f 4).c),.map D.m],false⟩,⟨b7,0,[.int .i64 0,.slice none 0 0,.bool false,.slice none 0 0,.slice none 0 0],true⟩,⟨aa,0,[.int .i64 (IntKind.i64.wrap ((D.f 0).n)),.slice none 0 0,.bool false,.slice none 0 0,.slice none 0 0,.int .i64 0,.slice none 0 0,.bool false,.slice none 0 0,.slice none 0 0,.int .i64 0,.slice none 0 0,.bool false,.slice none 0 0,.slice none 0 0,.int .i64 0,.slice none 0 0,.bool false,.slice none 0 0,.slice none 0 0,.int .i64 0,.slice none 0 0,.bool false,.slice none 0 0,.slice none 0 0],true⟩,⟨bd,0,[.int .i64 0,.slice none 0 0,.bool false,.slice (some ⟨aa,0,none⟩) 5 5,.slice none 0 0],true⟩] [])) ?_)
 rintro e_ lx ⟨jB,rfl,ic,d7⟩
 have d8:=ic.move (Step.refl _ Nil) nilM (d6.laid (G:=F) d7)
 obtain ⟨aE,aF,aG,aH,aI,aJ,aK,aL,aM,aN,aO,jC,jD,dw,jE,jF,ly,lz⟩:=d8.open_
 rw [dw] at d8
 have iM:=jE.small
 have iN:=jF.small
 rw [dw]
 refine ⟨_,rfl,fun lA ig=>?_⟩
 have eg:=d6.next_nil d7
 have ii:=d6.frN d7
 have eh:=TT.ofW ii eg
 refine ⟨fun _=>eh,?_⟩
 refine qaW ig (i:=7) (t:=34) (A:=(some ⟨aa,0,none⟩)) (m:=5) (q:=1) (d:=23) kz (e:=37) (size:=5) (bytes:=88) (j:=1) kz (b:=aa) (o:=0) rfl rfl (by decide) kz kz (qaa qaf) eh fun lB ij=>?_
 have ik:=ij.recast 23 (.v (.pointer (some ⟨aa,0 + 1 * 5,none⟩))) (.p 2 5) rfl rfl (Nat.le_of_ble_eq_true (n:=3) rfl)
 have il:=ik.pk (env':=[(0,.p 0 0),(2,.p 1 0),(3,.p 3 0),(17,.v (.slice (some ⟨aa,0,none⟩) 5 5)),(21,.v (.bool ((D.f 1).b))),(22,.v (.agg #[.int .i64 aE,.slice aJ aF.length aK,.bool aG,.slice aL aH.length aM,.slice aN aI.length aO])),(23,.p 2 5)])
 refine qav (i:=8) kz (qam eg il (oi:=2) (cs:=[.int .i64 (IntKind.i64.wrap ((D.f 0).n)),.slice none 0 0,.bool false,.slice none 0 0,.slice none 0 0,.int .i64 aE,.slice aJ aF.length aK,.bool aG,.slice aL aH.length aM,.slice aN aI.length aO,.int .i64 0,.slice none 0 0,.bool false,.slice none 0 0,.slice none 0 0,.int .i64 0,.slice none 0 0,.bool false,.slice none 0 0,.slice none 0 0,.int .i64 0,.slice none 0 0,.bool false,.slice none 0 0,.slice none 0 0]) kz fun lC ei im io=>?_)
 refine ⟨fun h=>absurd rfl h,?_⟩
 refine qaJ kz ?_ _
 refine qab ?_
 refine qa1 9 kz im fun lD ej ip ek=>?_
 refine qaN [0,1,2,3,4,5,6,7] [(0,.p 0 0),(2,.p 1 0),(3,.p 3 0),(25,.v (.slice (some ⟨aa,0,none⟩) 5 5)),(31,.v (.agg #[.int .i64 (IntKind.i64.wrap ((D.f 2).n)),.slice none 0 0,.bool false,.slice none 0 0,.slice none 0 0]))] 2 (qaa qaf) (fun _ h=>h.cells) ek io fun lE em=>?_
 refine qaW em (i:=8) (t:=34) (A:=(some ⟨aa,0,none⟩)) (m:=5) (q:=2) (d:=32) kz (e:=37) (size:=5) (bytes:=88) (j:=2) kz (b:=aa) (o:=0) rfl rfl (by decide) kz kz (qaa qaf) ek fun jG eo=>?_
 have ep:=eo.recast 32 (.v (.pointer (some ⟨aa,0 + 2 * 5,none⟩))) (.p 2 10) rfl rfl (Nat.le_of_ble_eq_true (n:=3) rfl)
 have eu:=ep.pk (env':=[(0,.p 0 0),(2,.p 1 0),(3,.p 3 0),(25,.v (.slice (some ⟨aa,0,none⟩) 5 5)),(31,.v (.agg #[.int .i64 (IntKind.i64.wrap ((D.f 2).n)),.slice none 0 0,.bool false,.slice none 0 0,.slice none 0 0])),(32,.p 2 10)])
 refine qav (i:=9) kz (qam ip eu (oi:=2) (cs:=[.int .i64 (IntKind.i64.wrap ((D.f 0).n)),.slice none 0 0,.bool false,.slice none 0 0,.slice none 0 0,.int .i64 aE,.slice aJ aF.length aK,.bool aG,.slice aL aH.length aM,.slice aN aI.length aO,.int .i64 (IntKind.i64.wrap ((D.f 2).n)),.slice none 0 0,.bool false,.slice none 0 0,.slice none 0 0,.int .i64 0,.slice none 0 0,.bool false,.slice none 0 0,.slice none 0 0,.int .i64 0,.slice none 0 0,.bool false,.slice none 0 0,.slice none 0 0]) kz fun jH dx ev ew=>?_)
 refine ⟨fun h=>absurd rfl h,?_⟩
 refine qaJ kz ?_ _
 refine qab ?_
 refine qa1 8 kz ev fun iq dy bL ey=>?_
 refine qaN [0,1,2,3,4,5] [(0,.p 0 0),(2,.p 1 0),(3,.p 3 0),(34,.v (.slice (some ⟨aa,0,none⟩) 5 5)),(38,.v (.pointer ((D.f 3).A)))] 3 (qaa qaf) (fun _ h=>h.cells) ey ew fun jI ez=>?_
 refine qav (i:=6) kz (qak ez (f:=101) (vs:=[.pointer ((D.f 3).A)]) (d:=39) kz Tryz.call101 (qkZ _ (D.f 3).s _ (Imm F w iq [⟨b,o,[.int .i16 v,.int .i32 ((D.f 0).n),.bool ((D.f 1).b),.int .i16 ((D.f 2).n),.pointer ((D.f 3).A),.slice ((D.f 4).A) ((D.f 4).l) ((D.f 4).c),.map D.m],false⟩,⟨b7,0,[.int .i64 0,.slice none 0 0,.bool false,.slice none 0 0,.slice none 0 0],true⟩,⟨aa,0,[.int .i64 (IntKind.i64.wrap ((D.f 0).n)),.slice none 0 0,.bool false,.slice none 0 0,.slice none 0 0,.int .i64 aE,.slice aJ aF.length aK,.bool aG,.slice aL aH.length aM,.slice aN aI.length aO,.int .i64 (IntKind.i64.wrap ((D.f 2).n)),.slice none 0 0,.bool false,.slice none 0 0,.slice none 0 0,.int .i64 0,.slice none 0 0,.bool false,.slice none 0 0,.slice none 0 0,.int .i64 0,.slice none 0 0,.bool false,.slice none 0 0,.slice none 0 0],true⟩,⟨bd,0,[.int .i64 0,.slice none 0 0,.bool false,.slice (some ⟨aa,0,none⟩) 5 5,.slice none 0 0],true⟩] []) (fun ad h_=>by obtain ⟨b',o',g1,g2⟩:=g4 ad h_; exact ⟨b',o',g1,g2.move bL.step nilM bL.imm⟩) g4l) ?_)
 rintro e_ jJ ⟨iO,rfl,eB,cP⟩
 have cQ:=eB.move (Step.refl _ Nil) nilM (bL.laid (G:=F) cP)
 obtain ⟨ac,ae,af,ag,ah,ai,aj,ak,al,am,ao,iP,iQ,cR,ir,iu,jK,jL⟩:=cQ.open_
 rw [cR] at cQ
 have iv:=ir.small
 have iw:=iu.small
 rw [cR]
 refine ⟨_,rfl,fun jM eC=>?_⟩
 have dz:=bL.next_nil cP
 have cS:=bL.frN cP
 have dA:=TT.ofW cS dz
 refine ⟨fun _=>dA,?_⟩
 refine qaW eC (i:=7) (t:=34) (A:=(some ⟨aa,0,none⟩)) (m:=5) (q:=3) (d:=40) kz (e:=37) (size:=5) (bytes:=88) (j:=3) kz (b:=aa) (o:=0) rfl rfl (by decide) kz kz (qaa qaf) dA fun jN eD=>?_
 have eE:=eD.recast 40 (.v (.pointer (some ⟨aa,0 + 3 * 5,none⟩))) (.p 2 15) rfl rfl (Nat.le_of_ble_eq_true (n:=3) rfl)
 have eF:=eE.pk (env':=[(0,.p 0 0),(2,.p 1 0),(3,.p 3 0),(34,.v (.slice (some ⟨aa,0,none⟩) 5 5)),(38,.v (.pointer ((D.f 3).A))),(39,.v (.agg #[.int .i64 ac,.slice ai ae.length aj,.bool af,.slice ak ag.length al,.slice am ah.length ao])),(40,.p 2 15)])
 refine qav (i:=8) kz (qam dz eF (oi:=2) (cs:=[.int .i64 (IntKind.i64.wrap ((D.f 0).n)),.slice none 0 0,.bool false,.slice none 0 0,.slice none 0 0,.int .i64 aE,.slice aJ aF.length aK,.bool aG,.slice aL aH.length aM,.slice aN aI.length aO,.int .i64 (IntKind.i64.wrap ((D.f 2).n)),.slice none 0 0,.bool false,.slice none 0 0,.slice none 0 0,.int .i64 ac,.slice ai ae.length aj,.bool af,.slice ak ag.length al,.slice am ah.length ao,.int .i64 0,.slice none 0 0,.bool false,.slice none 0 0,.slice none 0 0]) kz fun jO b8 eG eH=>?_)
 refine ⟨fun h=>absurd rfl h,?_⟩
 refine qaJ kz ?_ _
 refine qab ?_
 refine qa1 9 kz eG fun jP cd eI cT=>?_
 refine qaN [0,1,2,3,4,5,6] [(0,.p 0 0),(2,.p 1 0),(3,.p 3 0),(42,.v (.slice (some ⟨aa,0,none⟩) 5 5)),(47,.v (.bool (((D.f 4).A).isNone)))] 3 (qaa qaf) (fun _ h=>h.cells) cT eH fun jQ eJ=>?_
 refine qav (i:=7) kz (qat eJ (t:=34) (A:=(some ⟨aa,0,none⟩)) (m:=5) (q:=4) (d:=48) kz (e:=37) (size:=5) (bytes:=88) (j:=4) kz (b:=aa) (o:=0) rfl rfl (by decide) fun jR eK=>?_)
 have eL:=eK.recast 48 (.v (.pointer (some ⟨aa,0 + 4 * 5,none⟩))) (.p 2 20) rfl rfl (Nat.le_of_ble_eq_true (n:=3) rfl)
 have eM:=eL.pk (env':=[(0,.p 0 0),(2,.p 1 0),(3,.p 3 0),(42,.v (.slice (some ⟨aa,0,none⟩) 5 5)),(47,.v (.bool (((D.f 4).A).isNone))),(48,.p 2 20)])
 refine ⟨fun _=>cT,?_⟩
 refine qaN [8] [(0,.p 0 0),(2,.p 1 0),(3,.p 3 0),(47,.v (.bool (((D.f 4).A).isNone))),(49,.p 2 22)] 1 (qaa qaf) (fun _ h=>h.cells) cT eM fun jS eN=>?_
 refine qav (i:=9) kz (qam eI eN (oi:=2) (cs:=[.int .i64 (IntKind.i64.wrap ((D.f 0).n)),.slice none 0 0,.bool false,.slice none 0 0,.slice none 0 0,.int .i64 aE,.slice aJ aF.length aK,.bool aG,.slice aL aH.length aM,.slice aN aI.length aO,.int .i64 (IntKind.i64.wrap ((D.f 2).n)),.slice none 0 0,.bool false,.slice none 0 0,.slice none 0 0,.int .i64 ac,.slice ai ae.length aj,.bool af,.slice ak ag.length al,.slice am ah.length ao,.int .i64 0,.slice none 0 0,.bool (((D.f 4).A).isNone),.slice none 0 0,.slice none 0 0]) kz fun jT ce cU eO=>?_)
 refine ⟨fun h=>absurd rfl h,?_⟩
 refine qaJ kz ?_ _
 refine qab ?_
 refine wp_seq ?_
 refine qas [(0,.p 0 0),(2,.p 1 0),(3,.p 3 0),(54,.v (.int .i64 (((D.f 4).l:Nat):Int))),(55,.v (.int .i64 0))] cU eO fun jU eP=>?_
 refine wp_block ?_
 have dB:=cU.addNil 37 5
 have cg:=cU.frNil 37 5
 refine wp_loop_ghost (fun n_ a_ w_=>∃ (k4_:Nat) (A4_:Option Addr) (c4_:Nat) (xs4_:List Value) (css4_:List (List Value)),n_ = (D.f 4).l - k4_ ∧ k4_ ≤ (D.f 4).l ∧ (Trees w_ (Imm F w w_ [⟨b,o,[.int .i16 v,.int .i32 ((D.f 0).n),.bool ((D.f 1).b),.int .i16 ((D.f 2).n),.pointer ((D.f 3).A),.slice ((D.f 4).A) ((D.f 4).l) ((D.f 4).c),.map D.m],false⟩,⟨b7,0,[.int .i64 0,.slice none 0 0,.bool false,.slice none 0 0,.slice none 0 0],true⟩,⟨aa,0,[.int .i64 (IntKind.i64.wrap ((D.f 0).n)),.slice none 0 0,.bool false,.slice none 0 0,.slice none 0 0,.int .i64 aE,.slice aJ aF.length aK,.bool aG,.slice aL aH.length aM,.slice aN aI.length aO,.int .i64 (IntKind.i64.wrap ((D.f 2).n)),.slice none 0 0,.bool false,.slice none 0 0,.slice none 0 0,.int .i64 ac,.slice ai ae.length aj,.bool af,.slice ak ag.length al,.slice am ah.length ao,.int .i64 0,.slice none 0 0,.bool (((D.f 4).A).isNone),.slice A4_ k4_ c4_,.slice none 0 0],true⟩,⟨bd,0,[.int .i64 0,.slice none 0 0,.bool false,.slice (some ⟨aa,0,none⟩) 5 5,.slice none 0 0],true⟩] [⟨A4_,c4_,37,5,k4_,xs4_⟩]) xs4_ (((List.range (D.f 4).l).map (fun i=>qaM ((D.f 4).f i))).take k4_) css4_) ∧ LInv dB 106 [⟨b,o,[.int .i16 v,.int .i32 ((D.f 0).n),.bool ((D.f 1).b),.int .i16 ((D.f 2).n),.pointer ((D.f 3).A),.slice ((D.f 4).A) ((D.f 4).l) ((D.f 4).c),.map D.m],false⟩,⟨b7,0,[.int .i64 0,.slice none 0 0,.bool false,.slice none 0 0,.slice none 0 0],true⟩,⟨aa,0,[.int .i64 (IntKind.i64.wrap ((D.f 0).n)),.slice none 0 0,.bool false,.slice none 0 0,.slice none 0 0,.int .i64 aE,.slice aJ aF.length aK,.bool aG,.slice aL aH.length aM,.slice aN aI.length aO,.int .i64 (IntKind.i64.wrap ((D.f 2).n)),.slice none 0 0,.bool false,.slice none 0 0,.slice none 0 0,.int .i64 ac,.slice ai ae.length aj,.bool af,.slice ak ag.length al,.slice am ah.length ao,.int .i64 0,.slice none 0 0,.bool (((D.f 4).A).isNone),.slice A4_ k4_ c4_,.slice none 0 0],true⟩,⟨bd,0,[.int .i64 0,.slice none 0 0,.bool false,.slice (some ⟨aa,0,none⟩) 5 5,.slice none 0 0],true⟩] [⟨A4_,c4_,37,5,k4_,xs4_⟩] [(0,.p 0 0),(2,.p 1 0),(3,.p 3 0),(54,.v (.int .i64 (((D.f 4).l:Nat):Int))),(55,.v (.int .i64 ((k4_:Nat):Int)))] a_ w_) ((D.f 4).l) ⟨0,none,0,[],[],by omega,by omega,Trees.nil _ _,eP.pk,dB,Fr.refl _ _ _⟩ ?_
 rintro jV jW ix ⟨k4_,A4_,c4_,xs4_,css4_,iR,iS,hT4_,eQ,au,aR⟩
 refine qas [(0,.p 0 0),(2,.p 1 0),(3,.p 3 0),(54,.v (.int .i64 (((D.f 4).l:Nat):Int))),(55,.v (.int .i64 ((k4_:Nat):Int))),(56,.v (.bool (decide (((k4_:Nat):Int) < (((D.f 4).l:Nat):Int)))))] au eQ fun jX cV=>?_
 refine wp_seq ?_
 refine qaE cV (b:=decide (((k4_:Nat):Int) < (((D.f 4).l:Nat):Int))) kz (fun cW=>?_) (fun cW=>?_)
 ·
  have iT:=of_decide_eq_true cW
  refine wp_skip ?_
  refine qab ?_
  refine wp_seq ?_
  refine wp_block ?_
  refine qas [(0,.p 0 0),(2,.p 1 0),(3,.p 3 0),(4,.v (.int .i64 ((k4_:Nat):Int))),(54,.v (.int .i64 (((D.f 4).l:Nat):Int))),(55,.v (.int .i64 ((k4_:Nat):Int)))] au cV fun jY eR=>?_
  refine qa1 4 kz au fun jZ av eS iU=>?_
  refine qav (i:=0) kz (qaO eS eR (d:=58) (cs:=[.bool false]) kz fun j0 j1 j2 iV iW ab cX dC=>?_)
  have eU:=TT.ofW ab cX
  refine ⟨fun _=>eU,?_⟩
  refine qeI (i:=1) (j:=2) kz ?_ ?_
  ·
   refine (qam cX dC (oi:=4) (cs:=[.bool true]) kz fun j3 bf dD eV=>?_)
   have eW:=TT.ofW (ab.trans bf) dD
   refine ⟨fun _=>eW,?_⟩
   refine qav (i:=2) kz (qam dD eV (oi:=4) (cs:=[.bool false]) kz fun j4 bM cm eX=>?_)
   have eY:=TT.ofW ((ab.trans bf).trans bM) cm
   refine ⟨fun _=>eY,?_⟩
   refine qav (i:=3) kz (qbN [0,2,3,4,54,55,59] cm.cells eX (env':=[(0,.p 0 0),(2,.p 1 0),(3,.p 3 0),(4,.v (.int .i64 ((k4_:Nat):Int))),(54,.v (.int .i64 (((D.f 4).l:Nat):Int))),(55,.v (.int .i64 ((k4_:Nat):Int))),(59,.v (.bool false))]) kz fun j5 dE=>?_)
   have eZ:=TT.ofW ((ab.trans bf).trans bM) cm
   refine ⟨fun _=>eZ,?_⟩
   refine qaJ kz ?_ _
   refine qab ?_
   refine qau dE (b:=false) kz rfl ?_
   refine qcE 18 kz cm fun j6 cY aS cq=>?_
   refine qaN [0,1,2,3,7,8,9,10,11] [(0,.p 0 0),(2,.p 1 0),(3,.p 3 0),(54,.v (.int .i64 (((D.f 4).l:Nat):Int))),(55,.v (.int .i64 ((k4_:Nat):Int))),(79,.v (.slice (some ⟨aa,0,none⟩) 5 5)),(81,.v (.slice (some ⟨aa,0,none⟩) 5 5)),(88,.v (.slice ((D.f 4).A) ((D.f 4).l) ((D.f 4).c))),(89,.v (.int .i64 ((k4_:Nat):Int)))] 10 (qac (qaa (qaa (qac (qaa qaf))))) (fun _ h=>h.cells) cq dE fun j7 e9=>?_
   refine qaW e9 (i:=4) (t:=34) (A:=(some ⟨aa,0,none⟩)) (m:=5) (q:=4) (d:=82) kz (e:=37) (size:=5) (bytes:=88) (j:=4) kz (b:=aa) (o:=0) rfl rfl (by decide) kz kz (qac (qaa (qaa (qac (qaa qaf))))) cq fun j8 fa=>?_
   have fb:=fa.recast 82 (.v (.pointer (some ⟨aa,0 + 4 * 5,none⟩))) (.p 2 20) rfl rfl (Nat.le_of_ble_eq_true (n:=3) rfl)
   have fe:=fb.pk (env':=[(0,.p 0 0),(2,.p 1 0),(3,.p 3 0),(54,.v (.int .i64 (((D.f 4).l:Nat):Int))),(55,.v (.int .i64 ((k4_:Nat):Int))),(79,.v (.slice (some ⟨aa,0,none⟩) 5 5)),(81,.v (.slice (some ⟨aa,0,none⟩) 5 5)),(88,.v (.slice ((D.f 4).A) ((D.f 4).l) ((D.f 4).c))),(89,.v (.int .i64 ((k4_:Nat):Int))),(82,.p 2 20)])
   refine qaN [5,6] [(0,.p 0 0),(2,.p 1 0),(3,.p 3 0),(54,.v (.int .i64 (((D.f 4).l:Nat):Int))),(55,.v (.int .i64 ((k4_:Nat):Int))),(79,.v (.slice (some ⟨aa,0,none⟩) 5 5)),(84,.v (.slice A4_ k4_ c4_)),(88,.v (.slice ((D.f 4).A) ((D.f 4).l) ((D.f 4).c))),(89,.v (.int .i64 ((k4_:Nat):Int)))] 7 (qac (qaa (qaa (qac (qaa qaf))))) (fun _ h=>h.cells) cq fe fun j9 ff=>?_
   obtain ⟨fg,fh,fi,iX,d9⟩:=Slots.get g5 (i:=k4_) (by omega)
   refine qaW ff (i:=12) (t:=91) (A:=(D.f 4).A) (m:=((D.f 4).l)) (q:=((k4_:Nat):Int)) (d:=90) kz (e:=104) (size:=3) (bytes:=48) kz fi rfl (by omega) kz kz (qac (qaa (qaa (qac (qaa qaf))))) cq fun ka fj=>?_
   refine qav (i:=13) kz (qak fj (f:=102) (vs:=[.pointer (some ⟨fg,fh + k4_ * 3,none⟩)]) (d:=91) kz Tryz.call102 (qbe 0 ((D.f 4).f k4_) _ _ _ _ (d9.move aS.step nilM aS.imm) (qaL _ aS.step nilM aS.imm (g5e k4_ (by omega)))) ?_)
   rintro e_ kd ⟨iY,rfl,fk,cZ⟩
   have c5:=fk.move (Step.refl _ Nil) nilM (aS.laid (G:=F) cZ)
   obtain ⟨cB,cC,cD,cE,cG,cH,cI,cJ,cK,cL,cM,iZ,i6,c6,iy,iz,ke,kf⟩:=c5.open_
   rw [c6] at c5
   have iA:=iy.small
   have iB:=iz.small
   rw [c6]
   refine ⟨_,rfl,fun kg fl=>?_⟩
   have dF:=aS.next_nil cZ
   have aT:=aS.frN cZ
   have fm:=TT.ofW aT dF
   refine ⟨fun _=>fm,?_⟩
   refine qav (i:=14) kz (qbL dF fl (e:=37) (size:=5) (len:=1) (cs:=[.int .i64 cB,.slice cH cC.length cI,.bool cD,.slice cJ cE.length cK,.slice cL cG.length cM]) (d:=92) kz kz fun fo kh ki i7 ja ax cr fq=>?_)
   have fr:=TT.ofW (aT.trans ax) cr
   refine ⟨fun _=>fr,?_⟩
   refine qav (i:=15) kz (qaQ cr fq (k:=0) (d:=93) (t:=34) (e:=37) (size:=5) (bytes:=88) (A:=A4_) (As:=(some ⟨fo,0,none⟩)) (m0:=k4_) (c:=c4_) (m:=1) (cs:=1) (xs:=xs4_) (news:=[.int .i64 cB,.slice cH cC.length cI,.bool cD,.slice cJ cE.length cK,.slice cL cG.length cM]) kz kz rfl (qby (cr.own 1 _ rfl) (qbx kz)) (qbJ (cr.own 1 _ rfl)) (by omega) fun cN cO kj km aU da ft=>?_)
   have fu:=TT.ofW ((aT.trans ax).trans aU) da
   refine ⟨fun _=>fu,?_⟩
   refine qav (i:=16) kz (qat ft (t:=34) (A:=(some ⟨aa,0,none⟩)) (m:=5) (q:=4) (d:=94) kz (e:=37) (size:=5) (bytes:=88) (j:=4) kz (b:=aa) (o:=0) rfl rfl (by decide) fun ko fv=>?_)
   have fw:=fv.recast 94 (.v (.pointer (some ⟨aa,0 + 4 * 5,none⟩))) (.p 2 20) rfl rfl (Nat.le_of_ble_eq_true (n:=3) rfl)
   have fx:=fw.pk (env':=[(0,.p 0 0),(2,.p 1 0),(3,.p 3 0),(54,.v (.int .i64 (((D.f 4).l:Nat):Int))),(55,.v (.int .i64 ((k4_:Nat):Int))),(79,.v (.slice (some ⟨aa,0,none⟩) 5 5)),(84,.v (.slice A4_ k4_ c4_)),(88,.v (.slice ((D.f 4).A) ((D.f 4).l) ((D.f 4).c))),(89,.v (.int .i64 ((k4_:Nat):Int))),(90,.v (.pointer (some ⟨fg,fh + k4_ * 3,none⟩))),(91,.v (.agg #[.int .i64 cB,.slice cH cC.length cI,.bool cD,.slice cJ cE.length cK,.slice cL cG.length cM])),(92,.v (.slice (some ⟨fo,0,none⟩) 1 1)),(93,.v (.slice cN (k4_ + 1) cO)),(94,.p 2 20)])
   have dG:=TT.ofW ((aT.trans ax).trans aU) da
   refine ⟨fun _=>dG,?_⟩
   refine qaN [17] [(0,.p 0 0),(2,.p 1 0),(3,.p 3 0),(54,.v (.int .i64 (((D.f 4).l:Nat):Int))),(55,.v (.int .i64 ((k4_:Nat):Int))),(93,.v (.slice cN (k4_ + 1) cO)),(95,.p 2 23)] 1 (qac (qaa (qaa (qac (qaa qaf))))) (fun _ h=>h.cells) dG fx fun kp fy=>?_
   refine qav (i:=18) kz (qam da fy (oi:=2) (cs:=[.int .i64 (IntKind.i64.wrap ((D.f 0).n)),.slice none 0 0,.bool false,.slice none 0 0,.slice none 0 0,.int .i64 aE,.slice aJ aF.length aK,.bool aG,.slice aL aH.length aM,.slice aN aI.length aO,.int .i64 (IntKind.i64.wrap ((D.f 2).n)),.slice none 0 0,.bool false,.slice none 0 0,.slice none 0 0,.int .i64 ac,.slice ai ae.length aj,.bool af,.slice ak ag.length al,.slice am ah.length ao,.int .i64 0,.slice none 0 0,.bool (((D.f 4).A).isNone),.slice cN (k4_ + 1) cO,.slice none 0 0]) kz fun kq bN dH fz=>?_)
   refine ⟨fun h=>absurd rfl h,?_⟩
   refine qaJ kz ?_ _
   refine qax ?_
   refine qab ?_
   refine qap [0,1] kz ?_
   refine qaj [0,1] [] [(0,.p 0 0),(2,.p 1 0),(3,.p 3 0),(54,.v (.int .i64 (((D.f 4).l:Nat):Int))),(55,.v (.int .i64 (IntKind.i64.wrap (((k4_:Nat):Int) + 1))))] dH fz fun ku fA=>?_
   refine qae (qab ?_)
   obtain ⟨dI,fB,bO⟩:=dH.cutB fA 4 [⟨b,o,[.int .i16 v,.int .i32 ((D.f 0).n),.bool ((D.f 1).b),.int .i16 ((D.f 2).n),.pointer ((D.f 3).A),.slice ((D.f 4).A) ((D.f 4).l) ((D.f 4).c),.map D.m],false⟩,⟨b7,0,[.int .i64 0,.slice none 0 0,.bool false,.slice none 0 0,.slice none 0 0],true⟩,⟨aa,0,[.int .i64 (IntKind.i64.wrap ((D.f 0).n)),.slice none 0 0,.bool false,.slice none 0 0,.slice none 0 0,.int .i64 aE,.slice aJ aF.length aK,.bool aG,.slice aL aH.length aM,.slice aN aI.length aO,.int .i64 (IntKind.i64.wrap ((D.f 2).n)),.slice none 0 0,.bool false,.slice none 0 0,.slice none 0 0,.int .i64 ac,.slice ai ae.length aj,.bool af,.slice ak ag.length al,.slice am ah.length ao,.int .i64 0,.slice none 0 0,.bool (((D.f 4).A).isNone),.slice cN (k4_ + 1) cO,.slice none 0 0],true⟩,⟨bd,0,[.int .i64 0,.slice none 0 0,.bool false,.slice (some ⟨aa,0,none⟩) 5 5,.slice none 0 0],true⟩] [(0,.p 0 0),(2,.p 1 0),(3,.p 3 0),(54,.v (.int .i64 (((D.f 4).l:Nat):Int))),(55,.v (.int .i64 (IntKind.i64.wrap (((k4_:Nat):Int) + 1))))]
   obtain ⟨fC,bP⟩:=fB.cutR 1 [⟨cN,cO,37,5,k4_ + 1,xs4_ ++ [.int .i64 cB,.slice cH cC.length cI,.bool cD,.slice cJ cE.length cK,.slice cL cG.length cM]⟩]
   have fD:IntKind.i64.wrap (((k4_:Nat):Int) + 1) = ((k4_ + 1:Nat):Int):=qa3 (by omega)
   rw [fD] at dI
   exact ⟨(D.f 4).l - (k4_ + 1),by omega,k4_ + 1,cN,cO,xs4_ ++ [Value.int .i64 cB,.slice cH cC.length cI,.bool cD,.slice cJ cE.length cK,.slice cL cG.length cM],(css4_ ++ [[Value.int .i64 cB,.slice cH cC.length cI,.bool cD,.slice cJ cE.length cK,.slice cL cG.length cM]]),rfl,by omega,by rw [qcJ (by omega)]; exact (hT4_.move ((((((((((av.trans ab).trans bf).trans bM).trans cY).trans aT).trans ax).trans aU).trans bN).trans bO).trans bP).step immM ((((((((((av.trans ab).trans bf).trans bM).trans cY).trans aT).trans ax).trans aU).trans bN).trans bO).trans bP).to').snoc (x:=(fun i=>qaM ((D.f 4).f i)) k4_) (c5.move ((((ax.trans aU).trans bN).trans bO).trans bP).step immM ((((ax.trans aU).trans bN).trans bO).trans bP).to'),dI.pk,fC,(((((((((((aR.trans av).trans ab).trans bf).trans bM).trans cY).trans aT).trans ax).trans aU).trans bN).trans bO).trans bP)⟩
  refine (qam cX dC (oi:=4) (cs:=[.bool false]) kz fun kv aw dJ fE=>?_)
  have fF:=TT.ofW (ab.trans aw) dJ
  refine ⟨fun _=>fF,?_⟩
  refine qav (i:=1) kz (qam dJ fE (oi:=4) (cs:=[.bool true]) kz fun kw ay cu fG=>?_)
  have fH:=TT.ofW ((ab.trans aw).trans ay) cu
  refine ⟨fun _=>fH,?_⟩
  refine qav (i:=3) kz (qbN [0,2,3,4,54,55,59] cu.cells fG (env':=[(0,.p 0 0),(2,.p 1 0),(3,.p 3 0),(4,.v (.int .i64 ((k4_:Nat):Int))),(54,.v (.int .i64 (((D.f 4).l:Nat):Int))),(55,.v (.int .i64 ((k4_:Nat):Int))),(59,.v (.bool true))]) kz fun kx dK=>?_)
  have fI:=TT.ofW ((ab.trans aw).trans ay) cu
  refine ⟨fun _=>fI,?_⟩
  refine qaJ kz ?_ _
  refine qab ?_
  refine qbl dK (b:=true) kz rfl ?_
  refine qa1 17 kz cu fun ky bg az cw=>?_
  refine qaN [0,1,5,6,7,8,9] [(0,.p 0 0),(2,.p 1 0),(3,.p 3 0),(54,.v (.int .i64 (((D.f 4).l:Nat):Int))),(55,.v (.int .i64 ((k4_:Nat):Int))),(61,.v (.slice (some ⟨aa,0,none⟩) 5 5)),(68,.v (.slice ((D.f 4).A) ((D.f 4).l) ((D.f 4).c))),(69,.v (.int .i64 ((k4_:Nat):Int)))] 11 (qaa (qac (qaa (qaa (qac (qaa qaf)))))) (fun _ h=>h.cells) cw dK fun kA fJ=>?_
  refine qaW fJ (i:=2) (t:=34) (A:=(some ⟨aa,0,none⟩)) (m:=5) (q:=4) (d:=62) kz (e:=37) (size:=5) (bytes:=88) (j:=4) kz (b:=aa) (o:=0) rfl rfl (by decide) kz kz (qaa (qac (qaa (qaa (qac (qaa qaf)))))) cw fun kB fK=>?_
  have fL:=fK.recast 62 (.v (.pointer (some ⟨aa,0 + 4 * 5,none⟩))) (.p 2 20) rfl rfl (Nat.le_of_ble_eq_true (n:=3) rfl)
  have fM:=fL.pk (env':=[(0,.p 0 0),(2,.p 1 0),(3,.p 3 0),(54,.v (.int .i64 (((D.f 4).l:Nat):Int))),(55,.v (.int .i64 ((k4_:Nat):Int))),(61,.v (.slice (some ⟨aa,0,none⟩) 5 5)),(68,.v (.slice ((D.f 4).A) ((D.f 4).l) ((D.f 4).c))),(69,.v (.int .i64 ((k4_:Nat):Int))),(62,.p 2 20)])
  refine qaN [3,4,12] [(0,.p 0 0),(2,.p 1 0),(3,.p 3 0),(54,.v (.int .i64 (((D.f 4).l:Nat):Int))),(55,.v (.int .i64 ((k4_:Nat):Int))),(61,.v (.slice (some ⟨aa,0,none⟩) 5 5)),(64,.v (.slice A4_ k4_ c4_)),(68,.v (.slice ((D.f 4).A) ((D.f 4).l) ((D.f 4).c))),(69,.v (.int .i64 ((k4_:Nat):Int))),(72,.v (.int .i64 ((k4_:Nat):Int)))] 7 (qaa (qac (qaa (qaa (qac (qaa qaf)))))) (fun _ h=>h.cells) cw fM fun kC fN=>?_
  obtain ⟨du,dv,fO,jb,db⟩:=Slots.get g5 (i:=k4_) (by omega)
  refine qaW fN (i:=10) (t:=91) (A:=(D.f 4).A) (m:=((D.f 4).l)) (q:=((k4_:Nat):Int)) (d:=70) kz (e:=104) (size:=3) (bytes:=48) kz fO rfl (by omega) kz kz (qaa (qac (qaa (qaa (qac (qaa qaf)))))) cw fun kD dL=>?_
  refine qeI (i:=11) (j:=13) kz ?_ ?_
  ·
   refine (qak dL (f:=102) (vs:=[.pointer (some ⟨du,dv + k4_ * 3,none⟩)]) (d:=71) kz Tryz.call102 (qbe 0 ((D.f 4).f k4_) _ _ _ _ (db.move az.step nilM az.imm) (qaL _ az.step nilM az.imm (g5e k4_ (by omega)))) ?_)
   rintro e_ kE ⟨jc,rfl,fP,dc⟩
   have de:=fP.move (Step.refl _ Nil) nilM (az.laid (G:=F) dc)
   obtain ⟨bj,bk,bn,bo,bp,bq,bt,bu,bw,bx,bz,jd,je,dg,iC,iD,kF,kG⟩:=de.open_
   rw [dg] at de
   have iE:=iC.small
   have iF:=iD.small
   rw [dg]
   refine ⟨_,rfl,fun kH fQ=>?_⟩
   have dM:=az.next_nil dc
   have aV:=az.frN dc
   have fR:=TT.ofW aV dM
   refine ⟨fun _=>fR,?_⟩
   refine qav (i:=13) kz (qbL dM fQ (e:=37) (size:=5) (len:=1) (cs:=[.int .i64 0,.slice none 0 0,.bool false,.slice none 0 0,.slice none 0 0]) (d:=73) kz kz fun ea kI kJ jf jg aA cz fS=>?_)
   have fT:=TT.ofW (aV.trans aA) cz
   refine ⟨fun _=>fT,?_⟩
   refine qav (i:=14) kz (qaQ cz fS (k:=0) (d:=74) (t:=34) (e:=37) (size:=5) (bytes:=88) (A:=A4_) (As:=(some ⟨ea,0,none⟩)) (m0:=k4_) (c:=c4_) (m:=1) (cs:=1) (xs:=xs4_) (news:=[.int .i64 0,.slice none 0 0,.bool false,.slice none 0 0,.slice none 0 0]) kz kz rfl (qby (cz.own 1 _ rfl) (qbx kz)) (qbJ (cz.own 1 _ rfl)) (by omega) fun aP aW kK kL aX dh fU=>?_)
   have fV:=TT.ofW ((aV.trans aA).trans aX) dh
   refine ⟨fun _=>fV,?_⟩
   refine qav (i:=15) kz (qat fU (t:=34) (A:=(some ⟨aa,0,none⟩)) (m:=5) (q:=4) (d:=75) kz (e:=37) (size:=5) (bytes:=88) (j:=4) kz (b:=aa) (o:=0) rfl rfl (by decide) fun kM fW=>?_)
   have fX:=fW.recast 75 (.v (.pointer (some ⟨aa,0 + 4 * 5,none⟩))) (.p 2 20) rfl rfl (Nat.le_of_ble_eq_true (n:=3) rfl)
   have fY:=fX.pk (env':=[(0,.p 0 0),(2,.p 1 0),(3,.p 3 0),(54,.v (.int .i64 (((D.f 4).l:Nat):Int))),(55,.v (.int .i64 ((k4_:Nat):Int))),(61,.v (.slice (some ⟨aa,0,none⟩) 5 5)),(64,.v (.slice A4_ k4_ c4_)),(68,.v (.slice ((D.f 4).A) ((D.f 4).l) ((D.f 4).c))),(69,.v (.int .i64 ((k4_:Nat):Int))),(72,.v (.int .i64 ((k4_:Nat):Int))),(70,.v (.pointer (some ⟨du,dv + k4_ * 3,none⟩))),(71,.v (.agg #[.int .i64 bj,.slice bq bk.length bt,.bool bn,.slice bu bo.length bw,.slice bx bp.length bz])),(73,.v (.slice (some ⟨ea,0,none⟩) 1 1)),(74,.v (.slice aP (k4_ + 1) aW)),(75,.p 2 20)])
   have dN:=TT.ofW ((aV.trans aA).trans aX) dh
   refine ⟨fun _=>dN,?_⟩
   refine qaN [16] [(0,.p 0 0),(2,.p 1 0),(3,.p 3 0),(54,.v (.int .i64 (((D.f 4).l:Nat):Int))),(55,.v (.int .i64 ((k4_:Nat):Int))),(71,.v (.agg #[.int .i64 bj,.slice bq bk.length bt,.bool bn,.slice bu bo.length bw,.slice bx bp.length bz])),(72,.v (.int .i64 ((k4_:Nat):Int))),(74,.v (.slice aP (k4_ + 1) aW)),(76,.p 2 23)] 1 (qaa (qac (qaa (qaa (qac (qaa qaf)))))) (fun _ h=>h.cells) dN fY fun kN fZ=>?_
   refine qav (i:=17) kz (qam dh fZ (oi:=2) (cs:=[.int .i64 (IntKind.i64.wrap ((D.f 0).n)),.slice none 0 0,.bool false,.slice none 0 0,.slice none 0 0,.int .i64 aE,.slice aJ aF.length aK,.bool aG,.slice aL aH.length aM,.slice aN aI.length aO,.int .i64 (IntKind.i64.wrap ((D.f 2).n)),.slice none 0 0,.bool false,.slice none 0 0,.slice none 0 0,.int .i64 ac,.slice ai ae.length aj,.bool af,.slice ak ag.length al,.slice am ah.length ao,.int .i64 0,.slice none 0 0,.bool (((D.f 4).A).isNone),.slice aP (k4_ + 1) aW,.slice none 0 0]) kz fun iG bQ dO f5=>?_)
   refine ⟨fun h=>absurd rfl h,?_⟩
   refine qaJ kz ?_ _
   refine qab ?_
   refine qap [0,1] kz ?_
   have f7:World.ownsRow iG 0 37 5 (.slice aP (k4_ + 1) aW) (k4_ + 1) (xs4_ ++ [.int .i64 0,.slice none 0 0,.bool false,.slice none 0 0,.slice none 0 0]):=dO.own 0 _ rfl
   obtain ⟨f8,dP⟩:=qb5 f7 (by omega)
   refine qai (qat f5 (t:=34) (A:=aP) (m:=(k4_ + 1)) (q:=((k4_:Nat):Int)) (d:=77) kz (e:=37) (size:=5) (bytes:=88) kz (b:=f8) (o:=0) (j:=k4_) dP (rfl) (by omega) fun kO f9=>?_)
   refine qai (qb0 dO f9 (k:=0) (g:=f8) (o:=k4_ * 5) (c:=aW) (m:=(k4_ + 1)) (size:=5) (e:=37) (A:=aP) (xs:=(xs4_ ++ [.int .i64 0,.slice none 0 0,.bool false,.slice none 0 0,.slice none 0 0])) (vs:=[.int .i64 bj,.slice bq bk.length bt,.bool bn,.slice bu bo.length bw,.slice bx bp.length bz]) kz rfl dP (by simp only [List.length_cons,List.length_nil]; omega) fun kP bR ga gb=>?_)
   have gc:(⟨aP,aW,37,5,k4_ + 1,qbi (xs4_ ++ [.int .i64 0,.slice none 0 0,.bool false,.slice none 0 0,.slice none 0 0]) (k4_ * 5) [.int .i64 bj,.slice bq bk.length bt,.bool bn,.slice bu bo.length bw,.slice bx bp.length bz]⟩:Rw) = ⟨aP,aW,37,5,k4_ + 1,xs4_ ++ [.int .i64 bj,.slice bq bk.length bt,.bool bn,.slice bu bo.length bw,.slice bx bp.length bz]⟩:=by rw [qdd (by rw [hT4_.xslen,List.length_take,qcA]; omega)]
   obtain ⟨dQ,bS⟩:=ga.rowEq 0 [⟨aP,aW,37,5,k4_ + 1,xs4_ ++ [.int .i64 bj,.slice bq bk.length bt,.bool bn,.slice bu bo.length bw,.slice bx bp.length bz]⟩,⟨some ⟨ea,0,none⟩,1,37,5,1,[.int .i64 0,.slice none 0 0,.bool false,.slice none 0 0,.slice none 0 0]⟩] gc
   refine qae ?_
   refine qax ?_
   refine qab ?_
   refine qap [0,1] kz ?_
   refine qaj [0,1] [] [(0,.p 0 0),(2,.p 1 0),(3,.p 3 0),(54,.v (.int .i64 (((D.f 4).l:Nat):Int))),(55,.v (.int .i64 (IntKind.i64.wrap (((k4_:Nat):Int) + 1))))] dQ gb fun kQ gd=>?_
   refine qae (qab ?_)
   obtain ⟨dR,ge,bT⟩:=dQ.cutB gd 4 [⟨b,o,[.int .i16 v,.int .i32 ((D.f 0).n),.bool ((D.f 1).b),.int .i16 ((D.f 2).n),.pointer ((D.f 3).A),.slice ((D.f 4).A) ((D.f 4).l) ((D.f 4).c),.map D.m],false⟩,⟨b7,0,[.int .i64 0,.slice none 0 0,.bool false,.slice none 0 0,.slice none 0 0],true⟩,⟨aa,0,[.int .i64 (IntKind.i64.wrap ((D.f 0).n)),.slice none 0 0,.bool false,.slice none 0 0,.slice none 0 0,.int .i64 aE,.slice aJ aF.length aK,.bool aG,.slice aL aH.length aM,.slice aN aI.length aO,.int .i64 (IntKind.i64.wrap ((D.f 2).n)),.slice none 0 0,.bool false,.slice none 0 0,.slice none 0 0,.int .i64 ac,.slice ai ae.length aj,.bool af,.slice ak ag.length al,.slice am ah.length ao,.int .i64 0,.slice none 0 0,.bool (((D.f 4).A).isNone),.slice aP (k4_ + 1) aW,.slice none 0 0],true⟩,⟨bd,0,[.int .i64 0,.slice none 0 0,.bool false,.slice (some ⟨aa,0,none⟩) 5 5,.slice none 0 0],true⟩] [(0,.p 0 0),(2,.p 1 0),(3,.p 3 0),(54,.v (.int .i64 (((D.f 4).l:Nat):Int))),(55,.v (.int .i64 (IntKind.i64.wrap (((k4_:Nat):Int) + 1))))]
   obtain ⟨gg,bU⟩:=ge.cutR 1 [⟨aP,aW,37,5,k4_ + 1,xs4_ ++ [.int .i64 bj,.slice bq bk.length bt,.bool bn,.slice bu bo.length bw,.slice bx bp.length bz]⟩]
   have gh:IntKind.i64.wrap (((k4_:Nat):Int) + 1) = ((k4_ + 1:Nat):Int):=qa3 (by omega)
   rw [gh] at dR
   exact ⟨(D.f 4).l - (k4_ + 1),by omega,k4_ + 1,aP,aW,xs4_ ++ [Value.int .i64 bj,.slice bq bk.length bt,.bool bn,.slice bu bo.length bw,.slice bx bp.length bz],(css4_ ++ [[Value.int .i64 bj,.slice bq bk.length bt,.bool bn,.slice bu bo.length bw,.slice bx bp.length bz]]),rfl,by omega,by rw [qcJ (by omega)]; exact (hT4_.move ((((((((((((av.trans ab).trans aw).trans ay).trans bg).trans aV).trans aA).trans aX).trans bQ).trans bR).trans bS).trans bT).trans bU).step immM ((((((((((((av.trans ab).trans aw).trans ay).trans bg).trans aV).trans aA).trans aX).trans bQ).trans bR).trans bS).trans bT).trans bU).to').snoc (x:=(fun i=>qaM ((D.f 4).f i)) k4_) (de.move ((((((aA.trans aX).trans bQ).trans bR).trans bS).trans bT).trans bU).step immM ((((((aA.trans aX).trans bQ).trans bR).trans bS).trans bT).trans bU).to'),dR.pk,gg,(((((((((((((aR.trans av).trans ab).trans aw).trans ay).trans bg).trans aV).trans aA).trans aX).trans bQ).trans bR).trans bS).trans bT).trans bU)⟩
  refine (qbL az dL (e:=37) (size:=5) (len:=1) (cs:=[.int .i64 0,.slice none 0 0,.bool false,.slice none 0 0,.slice none 0 0]) (d:=73) kz kz fun eb kR kS jh ji aY aB gi=>?_)
  have gj:=TT.ofW aY aB
  refine ⟨fun _=>gj,?_⟩
  refine qav (i:=11) kz (qak gi (f:=102) (vs:=[.pointer (some ⟨du,dv + k4_ * 3,none⟩)]) (d:=71) kz Tryz.call102 (qbe 0 ((D.f 4).f k4_) _ _ _ _ (db.move aB.step nilM aB.imm) (qaL _ aB.step nilM aB.imm (g5e k4_ (by omega)))) ?_)
  rintro e_ kT ⟨jj,rfl,gk,di⟩
  have dj:=gk.move (Step.refl _ Nil) nilM (aB.laid (G:=F) di)
  obtain ⟨bA,bB,bC,bD,bE,bF,bG,bH,bI,bJ,bK,jk,jl,dl,iH,iI,kU,kV⟩:=dj.open_
  rw [dl] at dj
  have iJ:=iH.small
  have iK:=iI.small
  rw [dl]
  refine ⟨_,rfl,fun kW gl=>?_⟩
  have cA:=aB.next_nil di
  have bh:=aB.frN di
  have gm:=TT.ofW (aY.trans bh) cA
  refine ⟨fun _=>gm,?_⟩
  refine qav (i:=14) kz (qaQ cA gl (k:=0) (d:=74) (t:=34) (e:=37) (size:=5) (bytes:=88) (A:=A4_) (As:=(some ⟨eb,0,none⟩)) (m0:=k4_) (c:=c4_) (m:=1) (cs:=1) (xs:=xs4_) (news:=[.int .i64 0,.slice none 0 0,.bool false,.slice none 0 0,.slice none 0 0]) kz kz rfl (qby (cA.own 1 _ rfl) (qbx kz)) (qbJ (cA.own 1 _ rfl)) (by omega) fun aQ aZ kX kY ba dp gn=>?_)
  have gp:=TT.ofW ((aY.trans bh).trans ba) dp
  refine ⟨fun _=>gp,?_⟩
  refine qav (i:=15) kz (qat gn (t:=34) (A:=(some ⟨aa,0,none⟩)) (m:=5) (q:=4) (d:=75) kz (e:=37) (size:=5) (bytes:=88) (j:=4) kz (b:=aa) (o:=0) rfl rfl (by decide) fun kZ gq=>?_)
  have gt:=gq.recast 75 (.v (.pointer (some ⟨aa,0 + 4 * 5,none⟩))) (.p 2 20) rfl rfl (Nat.le_of_ble_eq_true (n:=3) rfl)
  have gv:=gt.pk (env':=[(0,.p 0 0),(2,.p 1 0),(3,.p 3 0),(54,.v (.int .i64 (((D.f 4).l:Nat):Int))),(55,.v (.int .i64 ((k4_:Nat):Int))),(61,.v (.slice (some ⟨aa,0,none⟩) 5 5)),(64,.v (.slice A4_ k4_ c4_)),(68,.v (.slice ((D.f 4).A) ((D.f 4).l) ((D.f 4).c))),(69,.v (.int .i64 ((k4_:Nat):Int))),(72,.v (.int .i64 ((k4_:Nat):Int))),(70,.v (.pointer (some ⟨du,dv + k4_ * 3,none⟩))),(73,.v (.slice (some ⟨eb,0,none⟩) 1 1)),(71,.v (.agg #[.int .i64 bA,.slice bF bB.length bG,.bool bC,.slice bH bD.length bI,.slice bJ bE.length bK])),(74,.v (.slice aQ (k4_ + 1) aZ)),(75,.p 2 20)])
  have dS:=TT.ofW ((aY.trans bh).trans ba) dp
  refine ⟨fun _=>dS,?_⟩
  refine qaN [16] [(0,.p 0 0),(2,.p 1 0),(3,.p 3 0),(54,.v (.int .i64 (((D.f 4).l:Nat):Int))),(55,.v (.int .i64 ((k4_:Nat):Int))),(71,.v (.agg #[.int .i64 bA,.slice bF bB.length bG,.bool bC,.slice bH bD.length bI,.slice bJ bE.length bK])),(72,.v (.int .i64 ((k4_:Nat):Int))),(74,.v (.slice aQ (k4_ + 1) aZ)),(76,.p 2 23)] 1 (qaa (qac (qaa (qaa (qac (qaa qaf)))))) (fun _ h=>h.cells) dS gv fun k5 gw=>?_
  refine qav (i:=17) kz (qam dp gw (oi:=2) (cs:=[.int .i64 (IntKind.i64.wrap ((D.f 0).n)),.slice none 0 0,.bool false,.slice none 0 0,.slice none 0 0,.int .i64 aE,.slice aJ aF.length aK,.bool aG,.slice aL aH.length aM,.slice aN aI.length aO,.int .i64 (IntKind.i64.wrap ((D.f 2).n)),.slice none 0 0,.bool false,.slice none 0 0,.slice none 0 0,.int .i64 ac,.slice ai ae.length aj,.bool af,.slice ak ag.length al,.slice am ah.length ao,.int .i64 0,.slice none 0 0,.bool (((D.f 4).A).isNone),.slice aQ (k4_ + 1) aZ,.slice none 0 0]) kz fun iL bV dT gx=>?_)
  refine ⟨fun h=>absurd rfl h,?_⟩
  refine qaJ kz ?_ _
  refine qab ?_
  refine qap [0,1] kz ?_
  have gy:World.ownsRow iL 0 37 5 (.slice aQ (k4_ + 1) aZ) (k4_ + 1) (xs4_ ++ [.int .i64 0,.slice none 0 0,.bool false,.slice none 0 0,.slice none 0 0]):=dT.own 0 _ rfl
  obtain ⟨gz,dU⟩:=qb5 gy (by omega)
  refine qai (qat gx (t:=34) (A:=aQ) (m:=(k4_ + 1)) (q:=((k4_:Nat):Int)) (d:=77) kz (e:=37) (size:=5) (bytes:=88) kz (b:=gz) (o:=0) (j:=k4_) dU (rfl) (by omega) fun k6 gA=>?_)
  refine qai (qb0 dT gA (k:=0) (g:=gz) (o:=k4_ * 5) (c:=aZ) (m:=(k4_ + 1)) (size:=5) (e:=37) (A:=aQ) (xs:=(xs4_ ++ [.int .i64 0,.slice none 0 0,.bool false,.slice none 0 0,.slice none 0 0])) (vs:=[.int .i64 bA,.slice bF bB.length bG,.bool bC,.slice bH bD.length bI,.slice bJ bE.length bK]) kz rfl dU (by simp only [List.length_cons,List.length_nil]; omega) fun k7 bW gB gC=>?_)
  have gD:(⟨aQ,aZ,37,5,k4_ + 1,qbi (xs4_ ++ [.int .i64 0,.slice none 0 0,.bool false,.slice none 0 0,.slice none 0 0]) (k4_ * 5) [.int .i64 bA,.slice bF bB.length bG,.bool bC,.slice bH bD.length bI,.slice bJ bE.length bK]⟩:Rw) = ⟨aQ,aZ,37,5,k4_ + 1,xs4_ ++ [.int .i64 bA,.slice bF bB.length bG,.bool bC,.slice bH bD.length bI,.slice bJ bE.length bK]⟩:=by rw [qdd (by rw [hT4_.xslen,List.length_take,qcA]; omega)]
  obtain ⟨dV,bX⟩:=gB.rowEq 0 [⟨aQ,aZ,37,5,k4_ + 1,xs4_ ++ [.int .i64 bA,.slice bF bB.length bG,.bool bC,.slice bH bD.length bI,.slice bJ bE.length bK]⟩,⟨some ⟨eb,0,none⟩,1,37,5,1,[.int .i64 0,.slice none 0 0,.bool false,.slice none 0 0,.slice none 0 0]⟩] gD
  refine qae ?_
  refine qax ?_
  refine qab ?_
  refine qap [0,1] kz ?_
  refine qaj [0,1] [] [(0,.p 0 0),(2,.p 1 0),(3,.p 3 0),(54,.v (.int .i64 (((D.f 4).l:Nat):Int))),(55,.v (.int .i64 (IntKind.i64.wrap (((k4_:Nat):Int) + 1))))] dV gC fun k8 gE=>?_
  refine qae (qab ?_)
  obtain ⟨dW,gF,bY⟩:=dV.cutB gE 4 [⟨b,o,[.int .i16 v,.int .i32 ((D.f 0).n),.bool ((D.f 1).b),.int .i16 ((D.f 2).n),.pointer ((D.f 3).A),.slice ((D.f 4).A) ((D.f 4).l) ((D.f 4).c),.map D.m],false⟩,⟨b7,0,[.int .i64 0,.slice none 0 0,.bool false,.slice none 0 0,.slice none 0 0],true⟩,⟨aa,0,[.int .i64 (IntKind.i64.wrap ((D.f 0).n)),.slice none 0 0,.bool false,.slice none 0 0,.slice none 0 0,.int .i64 aE,.slice aJ aF.length aK,.bool aG,.slice aL aH.length aM,.slice aN aI.length aO,.int .i64 (IntKind.i64.wrap ((D.f 2).n)),.slice none 0 0,.bool false,.slice none 0 0,.slice none 0 0,.int .i64 ac,.slice ai ae.length aj,.bool af,.slice ak ag.length al,.slice am ah.length ao,.int .i64 0,.slice none 0 0,.bool (((D.f 4).A).isNone),.slice aQ (k4_ + 1) aZ,.slice none 0 0],true⟩,⟨bd,0,[.int .i64 0,.slice none 0 0,.bool false,.slice (some ⟨aa,0,none⟩) 5 5,.slice none 0 0],true⟩] [(0,.p 0 0),(2,.p 1 0),(3,.p 3 0),(54,.v (.int .i64 (((D.f 4).l:Nat):Int))),(55,.v (.int .i64 (IntKind.i64.wrap (((k4_:Nat):Int) + 1))))]
  obtain ⟨gG,bZ⟩:=gF.cutR 1 [⟨aQ,aZ,37,5,k4_ + 1,xs4_ ++ [.int .i64 bA,.slice bF bB.length bG,.bool bC,.slice bH bD.length bI,.slice bJ bE.length bK]⟩]
  have gH:IntKind.i64.wrap (((k4_:Nat):Int) + 1) = ((k4_ + 1:Nat):Int):=qa3 (by omega)
  rw [gH] at dW
  exact ⟨(D.f 4).l - (k4_ + 1),by omega,k4_ + 1,aQ,aZ,xs4_ ++ [Value.int .i64 bA,.slice bF bB.length bG,.bool bC,.slice bH bD.length bI,.slice bJ bE.length bK],(css4_ ++ [[Value.int .i64 bA,.slice bF bB.length bG,.bool bC,.slice bH bD.length bI,.slice bJ bE.length bK]]),rfl,by omega,by rw [qcJ (by omega)]; exact (hT4_.move ((((((((((((av.trans ab).trans aw).trans ay).trans bg).trans aY).trans bh).trans ba).trans bV).trans bW).trans bX).trans bY).trans bZ).step immM ((((((((((((av.trans ab).trans aw).trans ay).trans bg).trans aY).trans bh).trans ba).trans bV).trans bW).trans bX).trans bY).trans bZ).to').snoc (x:=(fun i=>qaM ((D.f 4).f i)) k4_) (dj.move (((((ba.trans bV).trans bW).trans bX).trans bY).trans bZ).step immM (((((ba.trans bV).trans bW).trans bX).trans bY).trans bZ).to'),dW.pk,gG,(((((((((((((aR.trans av).trans ab).trans aw).trans ay).trans bg).trans aY).trans bh).trans ba).trans bV).trans bW).trans bX).trans bY).trans bZ)⟩
 have jm:=of_decide_eq_false cW
 refine wp_exit ?_
 refine qaw ?_
 refine qaw ?_
 refine qaT ?_
 refine qab ?_
 refine qad [0,1,2,3,4] kz ?_
 refine qaj [0,1,2] [3,4] [(2,.p 1 0),(3,.p 3 0),(99,.p 0 6)] au cV fun k9 gI=>?_
 refine qai (qeB gI (v:=.func (.func 104) #[] #[.pointer (some ⟨bd,0,none⟩)]) (d:=100) kz fun la gJ=>?_)
 refine qai (qak gJ (f:=103) (vs:=[.pointer (some ⟨b,o + 6,none⟩),.func (.func 104) #[] #[.pointer (some ⟨bd,0,none⟩)]]) (d:=101) kz Tryz.call103 (qe4 (F:=(Imm F w ix [⟨b,o,[.int .i16 v,.int .i32 ((D.f 0).n),.bool ((D.f 1).b),.int .i16 ((D.f 2).n),.pointer ((D.f 3).A),.slice ((D.f 4).A) ((D.f 4).l) ((D.f 4).c),.map D.m],false⟩,⟨b7,0,[.int .i64 0,.slice none 0 0,.bool false,.slice none 0 0,.slice none 0 0],true⟩,⟨aa,0,[.int .i64 (IntKind.i64.wrap ((D.f 0).n)),.slice none 0 0,.bool false,.slice none 0 0,.slice none 0 0,.int .i64 aE,.slice aJ aF.length aK,.bool aG,.slice aL aH.length aM,.slice aN aI.length aO,.int .i64 (IntKind.i64.wrap ((D.f 2).n)),.slice none 0 0,.bool false,.slice none 0 0,.slice none 0 0,.int .i64 ac,.slice ai ae.length aj,.bool af,.slice ak ag.length al,.slice am ah.length ao,.int .i64 0,.slice none 0 0,.bool (((D.f 4).A).isNone),.slice A4_ k4_ c4_,.slice none 0 0],true⟩,⟨bd,0,[.int .i64 0,.slice none 0 0,.bool false,.slice (some ⟨aa,0,none⟩) 5 5,.slice none 0 0],true⟩] [⟨A4_,c4_,37,5,k4_,xs4_⟩])) Tryz.call104 qcb ((hat.one 6 rfl).move au.step nilM au.imm) (g6.move au.step nilM au.imm) (Str.of au 3 rfl) (qjr 3 rfl) g6l) ?_)
 rintro e_ lb ⟨rfl,ap,ar,ec,gK,gL⟩
 obtain ⟨dq,bi,gM⟩:=au.wrote 3 [⟨b,o,[.int .i16 v,.int .i32 ((D.f 0).n),.bool ((D.f 1).b),.int .i16 ((D.f 2).n),.pointer ((D.f 3).A),.slice ((D.f 4).A) ((D.f 4).l) ((D.f 4).c),.map D.m],false⟩,⟨b7,0,[.int .i64 0,.slice none 0 0,.bool false,.slice none 0 0,.slice none 0 0],true⟩,⟨aa,0,[.int .i64 (IntKind.i64.wrap ((D.f 0).n)),.slice none 0 0,.bool false,.slice none 0 0,.slice none 0 0,.int .i64 aE,.slice aJ aF.length aK,.bool aG,.slice aL aH.length aM,.slice aN aI.length aO,.int .i64 (IntKind.i64.wrap ((D.f 2).n)),.slice none 0 0,.bool false,.slice none 0 0,.slice none 0 0,.int .i64 ac,.slice ai ae.length aj,.bool af,.slice ak ag.length al,.slice am ah.length ao,.int .i64 0,.slice none 0 0,.bool (((D.f 4).A).isNone),.slice A4_ k4_ c4_,.slice none 0 0],true⟩,⟨bd,0,[.int .i64 0,.slice none 0 0,.bool false,.slice (some ⟨aa,0,none⟩) 5 5,.slice ap D.u.length ar],true⟩] rfl gL ec
 have dX:=gK.move (Step.refl _ Nil) nilM (fun b_ o_ h_ hb_=>gM (G:=F) b_ o_ (.inr h_) hb_)
 refine ⟨_,rfl,fun lc gN=>?_⟩
 have gO:=(EnvOk.places (tb':=[⟨b,o,[.int .i16 v,.int .i32 ((D.f 0).n),.bool ((D.f 1).b),.int .i16 ((D.f 2).n),.pointer ((D.f 3).A),.slice ((D.f 4).A) ((D.f 4).l) ((D.f 4).c),.map D.m],false⟩,⟨b7,0,[.int .i64 0,.slice none 0 0,.bool false,.slice none 0 0,.slice none 0 0],true⟩,⟨aa,0,[.int .i64 (IntKind.i64.wrap ((D.f 0).n)),.slice none 0 0,.bool false,.slice none 0 0,.slice none 0 0,.int .i64 aE,.slice aJ aF.length aK,.bool aG,.slice aL aH.length aM,.slice aN aI.length aO,.int .i64 (IntKind.i64.wrap ((D.f 2).n)),.slice none 0 0,.bool false,.slice none 0 0,.slice none 0 0,.int .i64 ac,.slice ai ae.length aj,.bool af,.slice ak ag.length al,.slice am ah.length ao,.int .i64 0,.slice none 0 0,.bool (((D.f 4).A).isNone),.slice A4_ k4_ c4_,.slice none 0 0],true⟩,⟨bd,0,[.int .i64 0,.slice none 0 0,.bool false,.slice (some ⟨aa,0,none⟩) 5 5,.slice ap D.u.length ar],true⟩]) gN (show Pl [⟨b,o,[.int .i16 v,.int .i32 ((D.f 0).n),.bool ((D.f 1).b),.int .i16 ((D.f 2).n),.pointer ((D.f 3).A),.slice ((D.f 4).A) ((D.f 4).l) ((D.f 4).c),.map D.m],false⟩,⟨b7,0,[.int .i64 0,.slice none 0 0,.bool false,.slice none 0 0,.slice none 0 0],true⟩,⟨aa,0,[.int .i64 (IntKind.i64.wrap ((D.f 0).n)),.slice none 0 0,.bool false,.slice none 0 0,.slice none 0 0,.int .i64 aE,.slice aJ aF.length aK,.bool aG,.slice aL aH.length aM,.slice aN aI.length aO,.int .i64 (IntKind.i64.wrap ((D.f 2).n)),.slice none 0 0,.bool false,.slice none 0 0,.slice none 0 0,.int .i64 ac,.slice ai ae.length aj,.bool af,.slice ak ag.length al,.slice am ah.length ao,.int .i64 0,.slice none 0 0,.bool (((D.f 4).A).isNone),.slice A4_ k4_ c4_,.slice none 0 0],true⟩,⟨bd,0,[.int .i64 0,.slice none 0 0,.bool false,.slice (some ⟨aa,0,none⟩) 5 5,.slice none 0 0],true⟩] [⟨b,o,[.int .i16 v,.int .i32 ((D.f 0).n),.bool ((D.f 1).b),.int .i16 ((D.f 2).n),.pointer ((D.f 3).A),.slice ((D.f 4).A) ((D.f 4).l) ((D.f 4).c),.map D.m],false⟩,⟨b7,0,[.int .i64 0,.slice none 0 0,.bool false,.slice none 0 0,.slice none 0 0],true⟩,⟨aa,0,[.int .i64 (IntKind.i64.wrap ((D.f 0).n)),.slice none 0 0,.bool false,.slice none 0 0,.slice none 0 0,.int .i64 aE,.slice aJ aF.length aK,.bool aG,.slice aL aH.length aM,.slice aN aI.length aO,.int .i64 (IntKind.i64.wrap ((D.f 2).n)),.slice none 0 0,.bool false,.slice none 0 0,.slice none 0 0,.int .i64 ac,.slice ai ae.length aj,.bool af,.slice ak ag.length al,.slice am ah.length ao,.int .i64 0,.slice none 0 0,.bool (((D.f 4).A).isNone),.slice A4_ k4_ c4_,.slice none 0 0],true⟩,⟨bd,0,[.int .i64 0,.slice none 0 0,.bool false,.slice (some ⟨aa,0,none⟩) 5 5,.slice ap D.u.length ar],true⟩] from ⟨rfl,rfl,⟨rfl,rfl,⟨rfl,rfl,⟨rfl,rfl,trivial⟩⟩⟩⟩)).pk (env':=[(101,.v (.tuple #[])),(2,.p 1 0),(3,.p 3 0),(99,.p 0 6),(100,.v (.func (.func 104) #[] #[.pointer (some ⟨bd,0,none⟩)]))])
 refine qae (qab ?_)
 refine qad [0,1,2] kz ?_
 refine qaj [0,1] [2] [(2,.p 1 0),(3,.p 3 0),(103,.v (.slice ap D.u.length ar))] dq gO fun ld gP=>?_
 refine qai (qak gP (f:=105) (vs:=[.slice ap D.u.length ar]) (d:=104) kz Tryz.call105 (qgN dX g6.sorted) ?_)
 rintro e_ lf ⟨rfl,dY⟩
 refine ⟨_,rfl,fun lg gQ=>?_⟩
 have dZ:=dq.next_nil dY
 have aC:=dq.frN dY
 refine qae (qab ?_)
 refine qad [0,1] kz ?_
 refine qaj [0] [1] [(2,.p 1 0),(105,.v (.agg #[.int .i64 0,.slice none 0 0,.bool false,.slice (some ⟨aa,0,none⟩) 5 5,.slice ap D.u.length ar]))] dZ gQ fun lh gR=>?_
 refine qai (qam dZ gR (oi:=1) (cs:=[.int .i64 0,.slice none 0 0,.bool false,.slice (some ⟨aa,0,none⟩) 5 5,.slice ap D.u.length ar]) kz fun dr aD dt gS=>?_)
 refine qae (qab ?_)
 refine wp_ret ?_
 refine qaX gS dt.cells (v:=.agg #[.int .i64 0,.slice none 0 0,.bool false,.slice (some ⟨aa,0,none⟩) 5 5,.slice ap D.u.length ar]) kz ?_
 have d5:=(hT4_.move ((bi.trans aC).trans aD).step immM ((bi.trans aC).trans aD).to')
 rw [qhf (by omega)] at d5
 exact qfP (u:=D.u) (l:=[.mk (IntKind.i64.wrap (D.f 0).n) [] false [] [],qjz (D.f 1).b,.mk (IntKind.i64.wrap (D.f 2).n) [] false [] [],qiZ (D.f 3).A (D.f 3).s,.mk 0 [] (D.f 4).A.isNone ((List.range (D.f 4).l).map fun i=>qaM ((D.f 4).f i)) []]) (css:=[[.int .i64 (IntKind.i64.wrap ((D.f 0).n)),.slice none 0 0,.bool false,.slice none 0 0,.slice none 0 0],[.int .i64 aE,.slice aJ aF.length aK,.bool aG,.slice aL aH.length aM,.slice aN aI.length aO],[.int .i64 (IntKind.i64.wrap ((D.f 2).n)),.slice none 0 0,.bool false,.slice none 0 0,.slice none 0 0],[.int .i64 ac,.slice ai ae.length aj,.bool af,.slice ak ag.length al,.slice am ah.length ao],[.int .i64 0,.slice none 0 0,.bool (((D.f 4).A).isNone),.slice A4_ k4_ c4_,.slice none 0 0]]) dt 2 rfl ⟨(show TreeR _ (Imm F w dr [⟨b,o,[.int .i16 v,.int .i32 ((D.f 0).n),.bool ((D.f 1).b),.int .i16 ((D.f 2).n),.pointer ((D.f 3).A),.slice ((D.f 4).A) ((D.f 4).l) ((D.f 4).c),.map D.m],false⟩,⟨b7,0,[.int .i64 0,.slice none 0 0,.bool false,.slice (some ⟨aa,0,none⟩) 5 5,.slice ap D.u.length ar],true⟩,⟨aa,0,[.int .i64 (IntKind.i64.wrap ((D.f 0).n)),.slice none 0 0,.bool false,.slice none 0 0,.slice none 0 0,.int .i64 aE,.slice aJ aF.length aK,.bool aG,.slice aL aH.length aM,.slice aN aI.length aO,.int .i64 (IntKind.i64.wrap ((D.f 2).n)),.slice none 0 0,.bool false,.slice none 0 0,.slice none 0 0,.int .i64 ac,.slice ai ae.length aj,.bool af,.slice ak ag.length al,.slice am ah.length ao,.int .i64 0,.slice none 0 0,.bool (((D.f 4).A).isNone),.slice A4_ k4_ c4_,.slice none 0 0],true⟩,⟨bd,0,[.int .i64 0,.slice none 0 0,.bool false,.slice (some ⟨aa,0,none⟩) 5 5,.slice ap D.u.length ar],true⟩] [⟨A4_,c4_,37,5,k4_,xs4_⟩]) _ _ from (TreeR.mk (n:=IntKind.i64.wrap ((D.f 0).n)) (b:=false) (s:=[]) (l:=[]) (u:=[]) (fun _=>[]) (Octs.nil _ _) (Slots.nil _ _ _ _) (fun i_ x_ h_=>by simp at h_) (TagsR.nil _ _))).move (Step.refl _ Nil) nilM qbG,(show TreeR _ (Imm F w dr [⟨b,o,[.int .i16 v,.int .i32 ((D.f 0).n),.bool ((D.f 1).b),.int .i16 ((D.f 2).n),.pointer ((D.f 3).A),.slice ((D.f 4).A) ((D.f 4).l) ((D.f 4).c),.map D.m],false⟩,⟨b7,0,[.int .i64 0,.slice none 0 0,.bool false,.slice (some ⟨aa,0,none⟩) 5 5,.slice ap D.u.length ar],true⟩,⟨aa,0,[.int .i64 (IntKind.i64.wrap ((D.f 0).n)),.slice none 0 0,.bool false,.slice none 0 0,.slice none 0 0,.int .i64 aE,.slice aJ aF.length aK,.bool aG,.slice aL aH.length aM,.slice aN aI.length aO,.int .i64 (IntKind.i64.wrap ((D.f 2).n)),.slice none 0 0,.bool false,.slice none 0 0,.slice none 0 0,.int .i64 ac,.slice ai ae.length aj,.bool af,.slice ak ag.length al,.slice am ah.length ao,.int .i64 0,.slice none 0 0,.bool (((D.f 4).A).isNone),.slice A4_ k4_ c4_,.slice none 0 0],true⟩,⟨bd,0,[.int .i64 0,.slice none 0 0,.bool false,.slice (some ⟨aa,0,none⟩) 5 5,.slice ap D.u.length ar],true⟩] [⟨A4_,c4_,37,5,k4_,xs4_⟩]) _ _ from (d8.move ((((((((((((ei.trans ej).trans dx).trans dy).trans cS).trans b8).trans cd).trans ce).trans cg).trans aR).trans bi).trans aC).trans aD).step immM ((((((((((((ei.trans ej).trans dx).trans dy).trans cS).trans b8).trans cd).trans ce).trans cg).trans aR).trans bi).trans aC).trans aD).to')).move (Step.refl _ Nil) nilM qbG,(show TreeR _ (Imm F w dr [⟨b,o,[.int .i16 v,.int .i32 ((D.f 0).n),.bool ((D.f 1).b),.int .i16 ((D.f 2).n),.pointer ((D.f 3).A),.slice ((D.f 4).A) ((D.f 4).l) ((D.f 4).c),.map D.m],false⟩,⟨b7,0,[.int .i64 0,.slice none 0 0,.bool false,.slice (some ⟨aa,0,none⟩) 5 5,.slice ap D.u.length ar],true⟩,⟨aa,0,[.int .i64 (IntKind.i64.wrap ((D.f 0).n)),.slice none 0 0,.bool false,.slice none 0 0,.slice none 0 0,.int .i64 aE,.slice aJ aF.length aK,.bool aG,.slice aL aH.length aM,.slice aN aI.length aO,.int .i64 (IntKind.i64.wrap ((D.f 2).n)),.slice none 0 0,.bool false,.slice none 0 0,.slice none 0 0,.int .i64 ac,.slice ai ae.length aj,.bool af,.slice ak ag.length al,.slice am ah.length ao,.int .i64 0,.slice none 0 0,.bool (((D.f 4).A).isNone),.slice A4_ k4_ c4_,.slice none 0 0],true⟩,⟨bd,0,[.int .i64 0,.slice none 0 0,.bool false,.slice (some ⟨aa,0,none⟩) 5 5,.slice ap D.u.length ar],true⟩] [⟨A4_,c4_,37,5,k4_,xs4_⟩]) _ _ from (TreeR.mk (n:=IntKind.i64.wrap ((D.f 2).n)) (b:=false) (s:=[]) (l:=[]) (u:=[]) (fun _=>[]) (Octs.nil _ _) (Slots.nil _ _ _ _) (fun i_ x_ h_=>by simp at h_) (TagsR.nil _ _))).move (Step.refl _ Nil) nilM qbG,(show TreeR _ (Imm F w dr [⟨b,o,[.int .i16 v,.int .i32 ((D.f 0).n),.bool ((D.f 1).b),.int .i16 ((D.f 2).n),.pointer ((D.f 3).A),.slice ((D.f 4).A) ((D.f 4).l) ((D.f 4).c),.map D.m],false⟩,⟨b7,0,[.int .i64 0,.slice none 0 0,.bool false,.slice (some ⟨aa,0,none⟩) 5 5,.slice ap D.u.length ar],true⟩,⟨aa,0,[.int .i64 (IntKind.i64.wrap ((D.f 0).n)),.slice none 0 0,.bool false,.slice none 0 0,.slice none 0 0,.int .i64 aE,.slice aJ aF.length aK,.bool aG,.slice aL aH.length aM,.slice aN aI.length aO,.int .i64 (IntKind.i64.wrap ((D.f 2).n)),.slice none 0 0,.bool false,.slice none 0 0,.slice none 0 0,.int .i64 ac,.slice ai ae.length aj,.bool af,.slice ak ag.length al,.slice am ah.length ao,.int .i64 0,.slice none 0 0,.bool (((D.f 4).A).isNone),.slice A4_ k4_ c4_,.slice none 0 0],true⟩,⟨bd,0,[.int .i64 0,.slice none 0 0,.bool false,.slice (some ⟨aa,0,none⟩) 5 5,.slice ap D.u.length ar],true⟩] [⟨A4_,c4_,37,5,k4_,xs4_⟩]) _ _ from (cQ.move (((((((b8.trans cd).trans ce).trans cg).trans aR).trans bi).trans aC).trans aD).step immM (((((((b8.trans cd).trans ce).trans cg).trans aR).trans bi).trans aC).trans aD).to')).move (Step.refl _ Nil) nilM qbG,qgn dt (k:=0) rfl d5 (by rw [qcA]; omega) (by rw [qcA]; omega),trivial⟩ ((show TagsR _ (Imm F w dr [⟨b,o,[.int .i16 v,.int .i32 ((D.f 0).n),.bool ((D.f 1).b),.int .i16 ((D.f 2).n),.pointer ((D.f 3).A),.slice ((D.f 4).A) ((D.f 4).l) ((D.f 4).c),.map D.m],false⟩,⟨b7,0,[.int .i64 0,.slice none 0 0,.bool false,.slice (some ⟨aa,0,none⟩) 5 5,.slice ap D.u.length ar],true⟩,⟨aa,0,[.int .i64 (IntKind.i64.wrap ((D.f 0).n)),.slice none 0 0,.bool false,.slice none 0 0,.slice none 0 0,.int .i64 aE,.slice aJ aF.length aK,.bool aG,.slice aL aH.length aM,.slice aN aI.length aO,.int .i64 (IntKind.i64.wrap ((D.f 2).n)),.slice none 0 0,.bool false,.slice none 0 0,.slice none 0 0,.int .i64 ac,.slice ai ae.length aj,.bool af,.slice ak ag.length al,.slice am ah.length ao,.int .i64 0,.slice none 0 0,.bool (((D.f 4).A).isNone),.slice A4_ k4_ c4_,.slice none 0 0],true⟩,⟨bd,0,[.int .i64 0,.slice none 0 0,.bool false,.slice (some ⟨aa,0,none⟩) 5 5,.slice ap D.u.length ar],true⟩] [⟨A4_,c4_,37,5,k4_,xs4_⟩]) _ _ _ from (dX.move (aC.trans aD).step immM (aC.trans aD).to')).move (Step.refl _ Nil) nilM qbG)
def DefF:Fld → Tree → Prop
 | .mk k _ _ _ _ x5 _ _,g=>x5 = 0 ∨ g.N = qck k x5
def DefP (l:List Fld) (g:Tree):Prop:=∀ (i:Nat) (f:Fld),l[i]? = some f → DefF f (g.at_ i)
theorem qlc {k x1 x2 x3 x4 x5 x6 n:Int} {s:List Fld} {b:Bs} {c:Bool} {l:List Tree} {u:List (Int × Bs)} (h:DefF (.mk k x1 x2 x3 x4 x5 x6 s) (.mk n b c l u)) (h1:(x5 != 0) = true) (h2:(n != qck k x5) = true):False:=by
 have h':x5 = 0 ∨ n = qck k x5:=h
 rcases h' with h' | h'
 ·rw [h'] at h1; simp at h1
 rw [h'] at h2; simp at h2
theorem qkq (k n:Int) (w:World):Calls Tryz.prog 48 #[.int .i64 k,.int .i64 n] w (qcG w (.int .i64 (qck k n))):=by
 refine enter (n:=31) Tryz.func48 rfl Tryz.ntmps48 kz fun a hE=>?_
 have hW:=WOk.start w Nil
 refine qas [(0,.v (.int .i64 k)),(1,.v (.int .i64 n))] hW hE fun a1 hE2=>?_
 refine wp_seq ?_
 refine qas [(1,.v (.int .i64 n)),(5,.v (.int .i64 k))] hW hE2 fun a3 hE4=>?_
 refine wp_block ?_
 refine qas [(1,.v (.int .i64 n)),(5,.v (.int .i64 k)),(6,.v (.bool (k == 0)))] hW hE4 fun a5 hE6=>?_
 refine qaE hE6 (b:=k == 0) kz (fun hc7=>?_) (fun hc7=>?_)
 ·
  have hf8:k = 0:=by simpa using hc7
  refine qas [(4,.v (.int .i64 (IntKind.i64.wrap (BitVec.ofInt 64 n &&& BitVec.ofInt 64 1).toNat)))] hW hE6 fun a9 aj=>?_
  refine wp_ret ?_
  refine qaV ?_
  refine qaD ?_
  refine qaX aj hW.cells (v:=.int .i64 (IntKind.i64.wrap (BitVec.ofInt 64 n &&& BitVec.ofInt 64 1).toNat)) kz ?_
  exact ⟨by (try simp only [and1]); simp_all [qck,qhL,qfr,qfs,qeq],hW.step⟩
 have ar:k ≠ 0:=by simpa using hc7
 refine qas [(1,.v (.int .i64 n)),(5,.v (.int .i64 k)),(10,.v (.bool (k == 1)))] hW hE6 fun aC aa=>?_
 refine qaE aa (b:=k == 1) kz (fun ab=>?_) (fun ab=>?_)
 ·
  have au:k = 1:=by simpa using ab
  refine qas [(4,.v (.int .i64 (IntKind.i64.wrap (IntKind.i8.wrap n))))] hW aa fun aD ak=>?_
  refine wp_ret ?_
  refine qaV ?_
  refine qaD ?_
  refine qaX ak hW.cells (v:=.int .i64 (IntKind.i64.wrap (IntKind.i8.wrap n))) kz ?_
  exact ⟨by (try simp only [and1]); simp_all [qck,qhL,qfr,qfs,qeq],hW.step⟩
 have av:k ≠ 1:=by simpa using ab
 refine qas [(1,.v (.int .i64 n)),(5,.v (.int .i64 k)),(15,.v (.bool (k == 2)))] hW aa fun aE ac=>?_
 refine qaE ac (b:=k == 2) kz (fun ae=>?_) (fun ae=>?_)
 ·
  have aw:k = 2:=by simpa using ae
  refine qas [(4,.v (.int .i64 (IntKind.i64.wrap (IntKind.i16.wrap n))))] hW ac fun aF al=>?_
  refine wp_ret ?_
  refine qaV ?_
  refine qaD ?_
  refine qaX al hW.cells (v:=.int .i64 (IntKind.i64.wrap (IntKind.i16.wrap n))) kz ?_
  exact ⟨by (try simp only [and1]); simp_all [qck,qhL,qfr,qfs,qeq],hW.step⟩
 have ax:k ≠ 2:=by simpa using ae
 refine qas [(1,.v (.int .i64 n)),(5,.v (.int .i64 k)),(20,.v (.bool (k == 3)))] hW ac fun aG af=>?_
 refine qaE af (b:=k == 3) kz (fun ag=>?_) (fun ag=>?_)
 ·
  have ay:k = 3:=by simpa using ag
  refine qas [(4,.v (.int .i64 (IntKind.i64.wrap (IntKind.i32.wrap n))))] hW af fun aH am=>?_
  refine wp_ret ?_
  refine qaV ?_
  refine qaD ?_
  refine qaX am hW.cells (v:=.int .i64 (IntKind.i64.wrap (IntKind.i32.wrap n))) kz ?_
  exact ⟨by (try simp only [and1]); simp_all [qck,qhL,qfr,qfs,qeq],hW.step⟩
 have az:k ≠ 3:=by simpa using ag
 refine qas [(1,.v (.int .i64 n)),(25,.v (.bool (k == 5)))] hW af fun aI ah=>?_
 refine qaE ah (b:=k == 5) kz (fun ai=>?_) (fun ai=>?_)
 ·
  have aA:k = 5:=by simpa using ai
  refine qas [(4,.v (.int .i64 (IntKind.i64.wrap (IntKind.u16.wrap n))))] hW ah fun aJ ao=>?_
  refine wp_ret ?_
  refine qaV ?_
  refine qaD ?_
  refine qaX ao hW.cells (v:=.int .i64 (IntKind.i64.wrap (IntKind.u16.wrap n))) kz ?_
  exact ⟨by (try simp only [and1]); simp_all [qck,qhL,qfr,qfs,qeq],hW.step⟩
 have aB:k ≠ 5:=by simpa using ai
 refine wp_skip ?_
 refine qax ?_
 refine qab ?_
 refine qas [(4,.v (.int .i64 n))] hW ah fun aK ap=>?_
 refine wp_ret ?_
 refine qaX ap hW.cells (v:=.int .i64 n) kz ?_
 exact ⟨by (try simp only [and1]); simp_all [qck,qhL,qfr,qfs,qeq],hW.step⟩
theorem qi1 (A:Option Addr) (c:Nat) (l:List Fld) (ct:List Value) (g:Tree) (w:World) (F:Nat → Nat → Prop) (hl:FldsR w F A c l) (ht:TreeR w F ct g) (hD:DefP l g) :
  Calls Tryz.prog 16 #[.slice A l.length c,.agg ct.toArray] w (qcG w (.bool true)):=by
 obtain ⟨xfs,h1,h2⟩:=hl.ex
 have hsm:=h1.small
 obtain ⟨n1,s2,b3,l4,u5,A6,c7,A8,c9,aG,aH,bZ,rfl,rfl,b8,cd,de,dg⟩:=ht.open_
 have bQ:=b8.small
 have bR:=cd.small
 refine enter (n:=30) Tryz.func16 rfl Tryz.ntmps16 kz fun a hE=>?_
 have hW:=WOk.start w Nil
 refine qad [0,1] kz ?_
 refine qai (qbu hW hE (d:=3) (cs:=[.int .i64 n1,.slice A6 s2.length c7,.bool b3,.slice A8 l4.length c9,.slice aG u5.length aH]) kz fun bw dh di ce cg cm ap bx=>?_)
 refine qaj [1] [] [(0,.v (.slice A l.length c)),(3,.p 0 0)] ap bx fun dj bz=>?_
 refine qae (qab ?_)
 refine wp_seq ?_
 refine qas [(3,.p 0 0),(7,.v (.slice A l.length c)),(8,.v (.int .i64 ((l.length:Nat):Int))),(9,.v (.int .i64 0))] ap bz fun dl bA=>?_
 refine wp_block ?_
 refine wp_loop_ghost (fun n_ a_ w_=>∃ (k:Nat),n_ = l.length - k ∧ k ≤ l.length ∧ LInv ap 30 [⟨bw,0,[.int .i64 n1,.slice A6 s2.length c7,.bool b3,.slice A8 l4.length c9,.slice aG u5.length aH],true⟩] [] [(3,.p 0 0),(7,.v (.slice A l.length c)),(8,.v (.int .i64 ((l.length:Nat):Int))),(9,.v (.int .i64 ((k:Nat):Int)))] a_ w_) (l.length) ⟨0,by omega,by omega,bA.pk,ap,Fr.refl _ _ _⟩ ?_
 rintro dp dq dr ⟨k,cq,cr,bB,ac,aI⟩
 refine qas [(3,.p 0 0),(7,.v (.slice A l.length c)),(8,.v (.int .i64 ((l.length:Nat):Int))),(9,.v (.int .i64 ((k:Nat):Int))),(10,.v (.bool (decide (((k:Nat):Int) < ((l.length:Nat):Int)))))] ac bB fun dt aD=>?_
 refine wp_seq ?_
 refine qaE aD (b:=decide (((k:Nat):Int) < ((l.length:Nat):Int))) kz (fun aE=>?_) (fun aE=>?_)
 ·
  have cu:=of_decide_eq_true aE
  refine wp_skip ?_
  refine qab ?_
  refine wp_seq ?_
  refine wp_block ?_
  refine qad [0,1,2,3,4,5] kz ?_
  refine qaj [0] [1,2,3,4,5] [(3,.p 0 0),(7,.v (.slice A l.length c)),(8,.v (.int .i64 ((l.length:Nat):Int))),(9,.v (.int .i64 ((k:Nat):Int))),(11,.v (.int .i64 ((k:Nat):Int)))] ac aD fun du bC=>?_
  obtain ⟨cw,cz,bD,cA,ar⟩:=Slots.get h1 (i:=k) (by omega)
  obtain ⟨cB,aJ⟩:∃ x,l[k]? = some x:=⟨_,List.getElem?_eq_getElem (by omega)⟩
  have aK:=h2 k cB aJ
  obtain ⟨af,bj,bk,bn,bo,ab,bp,bq,bt,bu,cC,rfl,au,cD,dv⟩:=aK.open_
  rw [au] at aK
  have bS:=cD.small
  rw [au] at ar
  refine qai (qat bC (t:=29) (A:=A) (m:=l.length) (q:=((k:Nat):Int)) (d:=12) kz (e:=52) (size:=8) (bytes:=80) kz bD rfl (by omega) fun dw bE=>?_)
  refine qai (qaK bE (t:=52) (b:=cw) (o:=cz + k * 8) (d:=13) kz (cs:=[.int .i64 af,.int .i64 bj,.int .i64 bk,.int .i64 bn,.int .i64 bo,.int .i64 ab,.int .i64 bp,.slice bt bq.length bu]) (v:=.agg #[.int .i64 af,.int .i64 bj,.int .i64 bk,.int .i64 bn,.int .i64 bo,.int .i64 ab,.int .i64 bp,.slice bt bq.length bu]) kz (AtF.move ar ac.step nilM qbb).at_ fun dx bF=>?_)
  refine qai (qaO ac bF (d:=6) (cs:=[.int .i64 0,.int .i64 0,.int .i64 0,.int .i64 0,.int .i64 0,.int .i64 0,.int .i64 0,.slice none 0 0]) kz fun dy dz dA cE cG aL aM bG=>?_)
  refine qaj [4] [5] [(3,.p 0 0),(5,.v (.int .i64 ((k:Nat):Int))),(6,.p 1 0),(7,.v (.slice A l.length c)),(8,.v (.int .i64 ((l.length:Nat):Int))),(9,.v (.int .i64 ((k:Nat):Int))),(13,.v (.agg #[.int .i64 af,.int .i64 bj,.int .i64 bk,.int .i64 bn,.int .i64 bo,.int .i64 ab,.int .i64 bp,.slice bt bq.length bu]))] aM bG fun dB bH=>?_
  refine qai (qam aM bH (oi:=1) (cs:=[.int .i64 af,.int .i64 bj,.int .i64 bk,.int .i64 bn,.int .i64 bo,.int .i64 ab,.int .i64 bp,.slice bt bq.length bu]) kz fun dC aN bI bJ=>?_)
  refine qae (qab ?_)
  refine qa1 15 kz bI fun dD aO ae aF=>?_
  refine qaN [0,1,2,3] [(3,.p 0 0),(5,.v (.int .i64 ((k:Nat):Int))),(6,.p 1 0),(7,.v (.slice A l.length c)),(8,.v (.int .i64 ((l.length:Nat):Int))),(9,.v (.int .i64 ((k:Nat):Int))),(17,.v (.bool (ab != 0)))] 11 (qaa (qac (qaa (qaa (qac (qaa qaf)))))) (fun _ h=>h.cells) aF bJ fun dE aP=>?_
  refine (Bool.eq_false_or_eq_true (ab != 0)).elim (fun ag=>?_) (fun ag=>?_)
  ·
   have cH:ab ≠ 0:=by simpa using ag
   have bK:=aP.cast (env':=[(3,.p 0 0),(5,.v (.int .i64 ((k:Nat):Int))),(6,.p 1 0),(7,.v (.slice A l.length c)),(8,.v (.int .i64 ((l.length:Nat):Int))),(9,.v (.int .i64 ((k:Nat):Int))),(17,.v (.bool true))]) (by rw [ag])
   refine qaN [4,5,8,9,10,11] [(3,.p 0 0),(7,.v (.slice A l.length c)),(8,.v (.int .i64 ((l.length:Nat):Int))),(9,.v (.int .i64 ((k:Nat):Int))),(17,.v (.bool true)),(18,.v (.agg #[.int .i64 n1,.slice A6 s2.length c7,.bool b3,.slice A8 l4.length c9,.slice aG u5.length aH])),(19,.v (.int .i64 ((k:Nat):Int))),(23,.v (.int .i64 af)),(25,.v (.int .i64 ab))] 5 (qaa (qac (qaa (qaa (qac (qaa qaf)))))) (fun _ h=>h.cells) aF bK fun dF bL=>?_
   refine qav (i:=6) kz (qak bL (f:=47) (vs:=[.agg #[.int .i64 n1,.slice A6 s2.length c7,.bool b3,.slice A8 l4.length c9,.slice aG u5.length aH],.int .i64 ((k:Nat):Int)]) (d:=20) kz Tryz.call47 (sAt _ _ k _ _ (ht.move ae.step nilM ae.imm)) ?_)
   rintro e_ cI ⟨bT,rfl,aQ,ah⟩
   have av:=aQ.move ah nilM (fun b o h_ hb_=>ae.laid (G:=F) ah b o (.inl h_) (Nat.lt_of_lt_of_le hb_ ah.size))
   obtain ⟨ai,cJ,cK,cL,cM,cN,cO,cP,cQ,cR,cS,bU,aR,aj,bM,bN,cT,cU⟩:=av.open_
   rw [aj] at av
   have bO:=bM.small
   have bP:=bN.small
   rw [aj]
   refine ⟨_,rfl,fun cV aS=>?_⟩
   have ak:=ae.next_nil ah
   have al:=ae.frN ah
   have hq_:=hD k _ aJ
   rw [aR] at hq_
   have aw:=TT.ofW al ak
   refine ⟨fun _=>aw,?_⟩
   refine qaN [7] [(3,.p 0 0),(7,.v (.slice A l.length c)),(8,.v (.int .i64 ((l.length:Nat):Int))),(9,.v (.int .i64 ((k:Nat):Int))),(17,.v (.bool true)),(21,.v (.int .i64 ai)),(23,.v (.int .i64 af)),(25,.v (.int .i64 ab))] 3 (qaa (qac (qaa (qaa (qac (qaa qaf)))))) (fun _ h=>h.cells) aw aS fun cW aT=>?_
   refine qav (i:=12) kz (qak aT (f:=48) (vs:=[.int .i64 af,.int .i64 ab]) (d:=26) kz Tryz.call48 (qkq af ab _) ?_)
   rintro e_ cX ⟨rfl,ax⟩
   refine ⟨_,rfl,fun cY aU=>?_⟩
   have aa:=ak.next_nil ax
   have ay:=ak.frN ax
   have az:=TT.ofW (al.trans ay) aa
   refine ⟨fun _=>az,?_⟩
   refine qaN [13,14] [(3,.p 0 0),(7,.v (.slice A l.length c)),(8,.v (.int .i64 ((l.length:Nat):Int))),(9,.v (.int .i64 ((k:Nat):Int))),(28,.v (.bool (ai != (qck af ab))))] 0 (qaa (qac (qaa (qaa (qac (qaa qaf)))))) (fun _ h=>h.cells) az aU fun cZ am=>?_
   refine qaJ kz ?_ _
   refine qab ?_
   refine qaE am (b:=ai != (qck af ab)) kz (fun ao=>?_) (fun ao=>?_)
   ·
    have bV:ai ≠ (qck af ab):=by simpa using ao
    refine qas [(4,.v (.bool false))] aa am fun c5 aV=>?_
    refine wp_ret ?_
    refine qaV ?_
    refine qaD ?_
    refine qaD ?_
    refine qaV ?_
    refine qaD ?_
    refine qaX aV aa.cells (v:=.bool false) kz ?_
    exact (qlc hq_ ‹_› ‹_›).elim
   have bW:ai = (qck af ab):=by simpa using ao
   refine wp_skip ?_
   refine qax ?_
   refine qab ?_
   refine qap [0,1] kz ?_
   refine qaj [0,1] [] [(3,.p 0 0),(7,.v (.slice A l.length c)),(8,.v (.int .i64 ((l.length:Nat):Int))),(9,.v (.int .i64 (IntKind.i64.wrap (((k:Nat):Int) + 1))))] aa am fun c6 aW=>?_
   refine qae (qab ?_)
   obtain ⟨aA,aX,aY⟩:=aa.cutB aW 1 [⟨bw,0,[.int .i64 n1,.slice A6 s2.length c7,.bool b3,.slice A8 l4.length c9,.slice aG u5.length aH],true⟩] [(3,.p 0 0),(7,.v (.slice A l.length c)),(8,.v (.int .i64 ((l.length:Nat):Int))),(9,.v (.int .i64 (IntKind.i64.wrap (((k:Nat):Int) + 1))))]
   have aZ:IntKind.i64.wrap (((k:Nat):Int) + 1) = ((k + 1:Nat):Int):=qa3 (by omega)
   rw [aZ] at aA
   exact ⟨l.length - (k + 1),by omega,k + 1,rfl,by omega,aA.pk,aX,((((((aI.trans aL).trans aN).trans aO).trans al).trans ay).trans aY)⟩
  have bX:ab = 0:=by simpa using ag
  have ba:=aP.cast (env':=[(3,.p 0 0),(5,.v (.int .i64 ((k:Nat):Int))),(6,.p 1 0),(7,.v (.slice A l.length c)),(8,.v (.int .i64 ((l.length:Nat):Int))),(9,.v (.int .i64 ((k:Nat):Int))),(17,.v (.bool false))]) (by rw [ag])
  refine qaN [4,5,6,7,8,9,10,11,12,13,14] [(3,.p 0 0),(7,.v (.slice A l.length c)),(8,.v (.int .i64 ((l.length:Nat):Int))),(9,.v (.int .i64 ((k:Nat):Int))),(28,.v (.bool false))] 0 (qaa (qac (qaa (qaa (qac (qaa qaf)))))) (fun _ h=>h.cells) aF ba fun da aB=>?_
  refine qaJ kz ?_ _
  refine qab ?_
  refine qau aB (b:=false) kz rfl ?_
  refine wp_skip ?_
  refine qax ?_
  refine qab ?_
  refine qap [0,1] kz ?_
  refine qaj [0,1] [] [(3,.p 0 0),(7,.v (.slice A l.length c)),(8,.v (.int .i64 ((l.length:Nat):Int))),(9,.v (.int .i64 (IntKind.i64.wrap (((k:Nat):Int) + 1))))] ae aB fun db bd=>?_
  refine qae (qab ?_)
  obtain ⟨aC,bf,bg⟩:=ae.cutB bd 1 [⟨bw,0,[.int .i64 n1,.slice A6 s2.length c7,.bool b3,.slice A8 l4.length c9,.slice aG u5.length aH],true⟩] [(3,.p 0 0),(7,.v (.slice A l.length c)),(8,.v (.int .i64 ((l.length:Nat):Int))),(9,.v (.int .i64 (IntKind.i64.wrap (((k:Nat):Int) + 1))))]
  have bh:IntKind.i64.wrap (((k:Nat):Int) + 1) = ((k + 1:Nat):Int):=qa3 (by omega)
  rw [bh] at aC
  exact ⟨l.length - (k + 1),by omega,k + 1,rfl,by omega,aC.pk,bf,((((aI.trans aL).trans aN).trans aO).trans bg)⟩
 have bY:=of_decide_eq_false aE
 refine wp_exit ?_
 refine qaw ?_
 refine qaw ?_
 refine qaT ?_
 refine qab ?_
 refine qas [(4,.v (.bool true))] ac aD fun dc bi=>?_
 refine wp_ret ?_
 refine qaX bi ac.cells (v:=.bool true) kz ?_
 exact ⟨rfl,ac.step⟩
def qaU (D:DV):DV:=dvP D.m D.u [D.f 0,dvB true,D.f 2,D.f 3,D.f 4]
theorem qcc {v:World} {F:Nat → Nat → Prop} {D:DV} (h:qaI v F D):qaI v F (qaU D):=by
 unfold qaI at h
 obtain ⟨g0,g1,g2,g3,g4,t1,t2,t3,_⟩:=h
 exact ⟨g0,g1,g2,g3,g4,t1,t2,t3,trivial⟩
theorem qcd (D:DV):DefP sAlterPartitionAssignmentsResponseF (qa2 (qaU D)):=by
 intro i f hf
 match i,hf with
 | 0,hf =>
  obtain rfl:=Option.some.inj hf
  exact .inl rfl
 | 1,hf =>
  obtain rfl:=Option.some.inj hf
  exact .inr (show (qjz true).N = qck 0 (1) from by decide)
 | 2,hf =>
  obtain rfl:=Option.some.inj hf
  exact .inl rfl
 | 3,hf =>
  obtain rfl:=Option.some.inj hf
  exact .inl rfl
 | 4,hf =>
  obtain rfl:=Option.some.inj hf
  exact .inl rfl
 | n_ + 5,hf=>exact absurd (List.getElem?_eq_some_iff.1 hf).1 (by show ¬ n_ + 5 < 5; omega)
set_option maxHeartbeats 4000000 in
theorem qcm (v:Int) (T:Tree) {A2:Option Addr} {c2:Nat} {w:World} {F:Nat → Nat → Prop} (hs_:Octs w F A2 c2 (qag (IntKind.i16.wrap v) T)) (hc:qaR T) (hkey:T.ranged) (hroom:(qag (IntKind.i16.wrap v) T).length + 16 ≤ 1099511627776) :
  Calls Tryz.prog 14 #[.int .i64 v,.slice A2 (qag (IntKind.i16.wrap v) T).length c2] w (fun e w'=>∃ D cs,e = .returned (.tuple #[.agg cs.toArray,.bool true]) ∧ TreeR w' (Fp NoF w) cs (qa2 (qaU D)) ∧ Step w w' Nil):=by
 refine enter (n:=22) Tryz.func14 rfl Tryz.ntmps14 kz fun a hE=>?_
 have hW:=WOk.start w Nil
 have hsm2:=Slots.small hs_
 refine qad [0,1] kz ?_
 refine qai (qaO hW hE (d:=4) (cs:=[.int .i64 0,.slice none 0 0,.bool false,.slice none 0 0,.slice none 0 0]) kz fun b1 a2 w3 hb4 hz5 hF6 hW7 hE8=>?_)
 refine qaj [1] [] [(0,.v (.int .i64 v)),(1,.v (.slice A2 ((qag (IntKind.i16.wrap v) T).length) c2)),(4,.p 0 0)] hW7 hE8 fun a9 bj=>?_
 refine qae (qab ?_)
 refine qad [0,1] kz ?_
 refine qai (qbz bj (f:=39) (vs:=[]) (d:=7) (n':=3) kz Tryz.call39 Tryz.func39 rfl Tryz.ntmps39 kz fun c6 bk=>?_)
 refine qas [] hW7 bk fun da bn=>?_
 refine qad [0] kz ?_
 refine qai (qaO hW7 bn (d:=1) (cs:=[.int .i16 0,.int .i32 0,.bool false,.int .i16 0,.pointer none,.slice none 0 0,.map none]) kz fun ab db dc cD cE cG aK bo=>?_)
 refine qae (qab ?_)
 refine qad [0] kz ?_
 refine qai (qbz bo (f:=44) (vs:=[.pointer (some ⟨ab,0,none⟩)]) (d:=2) (n':=5) kz Tryz.call44 Tryz.func44 rfl Tryz.ntmps44 kz fun de bp=>?_)
 have bq:=bp.recast 0 (.v (.pointer (some ⟨ab,0,none⟩))) (.p 1 0) rfl rfl (Nat.le_of_ble_eq_true (n:=2) rfl)
 refine qap [0,1,2,3] kz ?_
 refine qaj [0,1,2] [3] [(4,.p 1 2)] aK bq fun dg bt=>?_
 refine qai (qam aK bt (oi:=1) (cs:=[.int .i16 0,.int .i32 0,.bool true,.int .i16 0,.pointer none,.slice none 0 0,.map none]) kz fun dh cH ac bu=>?_)
 refine qae ?_
 refine qbF bu ac.cells (v:=.tuple #[]) kz ?_
 refine ⟨_,rfl,fun di bw=>?_⟩
 have bx:EnvOk 3 [⟨b1,0,[.int .i64 0,.slice none 0 0,.bool false,.slice none 0 0,.slice none 0 0],true⟩,⟨ab,0,[.int .i16 0,.int .i32 0,.bool true,.int .i16 0,.pointer none,.slice none 0 0,.map none],true⟩] [(2,.v (.tuple #[])),(1,.p 1 0)] _:=bw.places (⟨rfl,rfl,⟨rfl,rfl,trivial⟩⟩)
 refine qae (qab ?_)
 refine qas [(0,.p 1 0)] ac bx fun dj bz=>?_
 refine wp_ret ?_
 refine qaX bz ac.cells (v:=.pointer (some ⟨ab,0,none⟩)) kz ?_
 refine ⟨_,rfl,fun dl bA=>?_⟩
 have bB:EnvOk 22 [⟨b1,0,[.int .i64 0,.slice none 0 0,.bool false,.slice none 0 0,.slice none 0 0],true⟩,⟨ab,0,[.int .i16 0,.int .i32 0,.bool true,.int .i16 0,.pointer none,.slice none 0 0,.map none],true⟩] [(7,.v (.pointer (some ⟨ab,0,none⟩))),(0,.v (.int .i64 v)),(1,.v (.slice A2 ((qag (IntKind.i16.wrap v) T).length) c2)),(4,.p 0 0)] _:=bA.places (⟨rfl,rfl,trivial⟩)
 have bC:=bB.recast 7 (.v (.pointer (some ⟨ab,0,none⟩))) (.p 1 0) rfl rfl (Nat.le_of_ble_eq_true (n:=2) rfl)
 have bD:=bC.pick (ks:=[0,1,4,7]) (env':=[(0,.v (.int .i64 v)),(1,.v (.slice A2 ((qag (IntKind.i16.wrap v) T).length) c2)),(4,.p 0 0),(7,.p 1 0)]) kz
 refine qaj [1] [] [(0,.v (.int .i64 v)),(1,.v (.slice A2 ((qag (IntKind.i16.wrap v) T).length) c2)),(4,.p 0 0),(6,.p 1 0)] ac bD fun dp bE=>?_
 refine qae (qab ?_)
 refine qad [0,1,2,3] kz ?_
 refine qaj [0,1,2] [3] [(1,.v (.slice A2 ((qag (IntKind.i16.wrap v) T).length) c2)),(4,.p 0 0),(6,.p 1 0),(8,.p 1 0),(10,.v (.int .i16 (IntKind.i16.wrap v)))] ac bE fun dq bF=>?_
 refine qai (qbz bF (f:=42) (vs:=[.pointer (some ⟨ab,0,none⟩),.int .i16 (IntKind.i16.wrap v)]) (d:=11) (n':=8) kz Tryz.call42 Tryz.func42 rfl Tryz.ntmps42 kz fun dr bG=>?_)
 have bH:=bG.recast 0 (.v (.pointer (some ⟨ab,0,none⟩))) (.p 1 0) rfl rfl (Nat.le_of_ble_eq_true (n:=2) rfl)
 refine qap [0,1,2,3,4] kz ?_
 refine qaj [0,1,2,3] [4] [(5,.v (.int .i16 (IntKind.i16.wrap v))),(7,.p 1 0)] ac bH fun dt bI=>?_
 refine qai (qam ac bI (oi:=1) (cs:=[.int .i16 (IntKind.i16.wrap v),.int .i32 0,.bool true,.int .i16 0,.pointer none,.slice none 0 0,.map none]) kz fun du cI ap bJ=>?_)
 refine qae ?_
 refine qbF bJ ap.cells (v:=.tuple #[]) kz ?_
 refine ⟨_,rfl,fun dv bK=>?_⟩
 have bL:EnvOk 22 [⟨b1,0,[.int .i64 0,.slice none 0 0,.bool false,.slice none 0 0,.slice none 0 0],true⟩,⟨ab,0,[.int .i16 (IntKind.i16.wrap v),.int .i32 0,.bool true,.int .i16 0,.pointer none,.slice none 0 0,.map none],true⟩] [(11,.v (.tuple #[])),(1,.v (.slice A2 ((qag (IntKind.i16.wrap v) T).length) c2)),(4,.p 0 0),(6,.p 1 0),(8,.p 1 0),(10,.v (.int .i16 (IntKind.i16.wrap v)))] _:=bK.places (⟨rfl,rfl,⟨rfl,rfl,trivial⟩⟩)
 refine qae (qab ?_)
 refine wp_seq ?_
 refine qad [0,1,2,3,4] kz ?_
 refine qaj [0,1] [2,3,4] [(4,.p 0 0),(6,.p 1 0),(12,.p 1 0),(13,.v (.slice A2 ((qag (IntKind.i16.wrap v) T).length) c2))] ap bL fun dw bM=>?_
 have ai:=ap.addNil 5 1
 have cJ:=ap.frNil 5 1
 refine qai (qaQ ai bM (k:=0) (d:=14) (t:=22) (e:=5) (size:=1) (bytes:=1) (A:=none) (As:=A2) (m0:=0) (c:=0) (m:=((qag (IntKind.i16.wrap v) T).length)) (cs:=c2) (xs:=[]) (news:=bc (qag (IntKind.i16.wrap v) T)) kz kz rfl (hs_.move ai.step nilM ai.imm).src (hs_.move ai.step nilM ai.imm).cap (by first | omega | (simp only [List.length_nil]; omega) | (simp; omega)) fun ag ah dx dy cK bN bO=>?_)
 have bP:(⟨ag,ah,5,1,0 + (qag (IntKind.i16.wrap v) T).length,[] ++ bc (qag (IntKind.i16.wrap v) T)⟩:Rw) = brow ag ah 5 (qag (IntKind.i16.wrap v) T):=by rw [List.nil_append,Nat.zero_add]
 obtain ⟨ar,cL⟩:=bN.rowEq 0 [brow ag ah 5 (qag (IntKind.i16.wrap v) T)] bP
 have bQ:=EnvOk.pick bO (ks:=[4,6,12,13,14]) (env':=[(4,.p 0 0),(6,.p 1 0),(12,.p 1 0),(13,.v (.slice A2 ((qag (IntKind.i16.wrap v) T).length) c2)),(14,.v (.slice ag (0 + (qag (IntKind.i16.wrap v) T).length) ah))]) kz
 have bR:=bQ.cast (env':=[(4,.p 0 0),(6,.p 1 0),(12,.p 1 0),(13,.v (.slice A2 ((qag (IntKind.i16.wrap v) T).length) c2)),(14,.v (.slice ag ((qag (IntKind.i16.wrap v) T).length) ah))]) (by simp only [List.length_append,List.length_cons,List.length_nil,Nat.zero_add])
 refine qai (qbz bR (f:=43) (vs:=[.pointer (some ⟨ab,0,none⟩),.slice ag ((qag (IntKind.i16.wrap v) T).length) ah]) (d:=15) (n':=8) kz Tryz.call43 Tryz.func43 rfl Tryz.ntmps43 kz fun dz bS=>?_)
 have bT:=bS.recast 0 (.v (.pointer (some ⟨ab,0,none⟩))) (.p 1 0) rfl rfl (Nat.le_of_ble_eq_true (n:=2) rfl)
 refine qas [(0,.p 1 0),(1,.v (.slice ag ((qag (IntKind.i16.wrap v) T).length) ah))] ar bT fun dA bU=>?_
 refine qad [0,1,2,3] kz ?_
 refine qaj [0,1] [2,3] [(5,.p 1 0),(6,.v (.slice ag ((qag (IntKind.i16.wrap v) T).length) ah))] ar bU fun dB bV=>?_
 have bW:=ar.giveUp (G:=NoF) 0 [] (show _ = some (brow ag ah 5 (qag (IntKind.i16.wrap v) T)) from rfl) (by omega)
 obtain ⟨aL,cM⟩:=ar.cutR 0 []
 refine qai (qak bV (f:=99) (vs:=[.pointer (some ⟨ab,0,none⟩),.slice ag ((qag (IntKind.i16.wrap v) T).length) ah,.bool false]) (d:=7) kz Tryz.call99 (qcj (IntKind.i16.wrap v) T (Str.of aL 1 rfl) bW (qjr 1 rfl) hc hkey) ?_)
 rintro e_ dC ⟨aa,rfl,bX,bY,cN,aM⟩
 obtain ⟨af,cO,bZ⟩:=aL.wrote 1 [⟨b1,0,[.int .i64 0,.slice none 0 0,.bool false,.slice none 0 0,.slice none 0 0],true⟩,⟨ab,0,[.int .i16 (IntKind.i16.wrap v),.int .i32 ((aa.f 0).n),.bool ((aa.f 1).b),.int .i16 ((aa.f 2).n),.pointer ((aa.f 3).A),.slice ((aa.f 4).A) ((aa.f 4).l) ((aa.f 4).c),.map aa.m],true⟩] rfl aM bX
 have b8:=qbC _ (Step.refl _ Nil) nilM bZ bY
 refine ⟨_,rfl,fun dD cd=>?_⟩
 have ce:=(EnvOk.places (tb':=[⟨b1,0,[.int .i64 0,.slice none 0 0,.bool false,.slice none 0 0,.slice none 0 0],true⟩,⟨ab,0,[.int .i16 (IntKind.i16.wrap v),.int .i32 ((aa.f 0).n),.bool ((aa.f 1).b),.int .i16 ((aa.f 2).n),.pointer ((aa.f 3).A),.slice ((aa.f 4).A) ((aa.f 4).l) ((aa.f 4).c),.map aa.m],true⟩]) cd (show Pl [⟨b1,0,[.int .i64 0,.slice none 0 0,.bool false,.slice none 0 0,.slice none 0 0],true⟩,⟨ab,0,[.int .i16 (IntKind.i16.wrap v),.int .i32 0,.bool true,.int .i16 0,.pointer none,.slice none 0 0,.map none],true⟩] [⟨b1,0,[.int .i64 0,.slice none 0 0,.bool false,.slice none 0 0,.slice none 0 0],true⟩,⟨ab,0,[.int .i16 (IntKind.i16.wrap v),.int .i32 ((aa.f 0).n),.bool ((aa.f 1).b),.int .i16 ((aa.f 2).n),.pointer ((aa.f 3).A),.slice ((aa.f 4).A) ((aa.f 4).l) ((aa.f 4).c),.map aa.m],true⟩] from ⟨rfl,rfl,⟨rfl,rfl,trivial⟩⟩)).pk (env':=[(7,.v (.nilIface)),(5,.p 1 0),(6,.v (.slice ag ((qag (IntKind.i16.wrap v) T).length) ah))])
 refine qaj [3] [] [(4,.v (.nilIface))] af ce fun dE cg=>?_
 refine qae (qab ?_)
 refine wp_ret ?_
 refine qaX cg af.cells (v:=.nilIface) kz ?_
 refine ⟨_,rfl,fun dF aN=>?_⟩
 have aO:EnvOk 22 [⟨b1,0,[.int .i64 0,.slice none 0 0,.bool false,.slice none 0 0,.slice none 0 0],true⟩,⟨ab,0,[.int .i16 (IntKind.i16.wrap v),.int .i32 ((aa.f 0).n),.bool ((aa.f 1).b),.int .i16 ((aa.f 2).n),.pointer ((aa.f 3).A),.slice ((aa.f 4).A) ((aa.f 4).l) ((aa.f 4).c),.map aa.m],true⟩] [(15,.v (.nilIface)),(4,.p 0 0),(6,.p 1 0),(12,.p 1 0),(13,.v (.slice A2 ((qag (IntKind.i16.wrap v) T).length) c2)),(14,.v (.slice ag ((qag (IntKind.i16.wrap v) T).length) ah))] _:=aN.places (⟨rfl,rfl,⟨rfl,rfl,trivial⟩⟩)
 refine qaj [4] [] [(4,.p 0 0),(6,.p 1 0),(16,.v (.bool false))] af aO fun cP au=>?_
 refine qae (qab ?_)
 refine qau au (b:=false) kz rfl ?_
 refine wp_skip ?_
 refine qab ?_
 refine qad [0,1] kz ?_
 refine qaj [0] [1] [(4,.p 0 0),(6,.p 1 0),(18,.p 1 0)] af au fun cQ aP=>?_
 refine qai (qbz aP (f:=44) (vs:=[.pointer (some ⟨ab,0,none⟩)]) (d:=19) (n':=5) kz Tryz.call44 Tryz.func44 rfl Tryz.ntmps44 kz fun cR aQ=>?_)
 have aR:=aQ.recast 0 (.v (.pointer (some ⟨ab,0,none⟩))) (.p 1 0) rfl rfl (Nat.le_of_ble_eq_true (n:=2) rfl)
 refine qap [0,1,2,3] kz ?_
 refine qaj [0,1,2] [3] [(4,.p 1 2)] af aR fun cS aS=>?_
 refine qai (qam af aS (oi:=1) (cs:=[.int .i16 (IntKind.i16.wrap v),.int .i32 ((aa.f 0).n),.bool true,.int .i16 ((aa.f 2).n),.pointer ((aa.f 3).A),.slice ((aa.f 4).A) ((aa.f 4).l) ((aa.f 4).c),.map aa.m]) kz fun cT av ae aT=>?_)
 refine qae ?_
 refine qbF aT ae.cells (v:=.tuple #[]) kz ?_
 refine ⟨_,rfl,fun cU aU=>?_⟩
 have aV:EnvOk 22 [⟨b1,0,[.int .i64 0,.slice none 0 0,.bool false,.slice none 0 0,.slice none 0 0],true⟩,⟨ab,0,[.int .i16 (IntKind.i16.wrap v),.int .i32 ((aa.f 0).n),.bool true,.int .i16 ((aa.f 2).n),.pointer ((aa.f 3).A),.slice ((aa.f 4).A) ((aa.f 4).l) ((aa.f 4).c),.map aa.m],true⟩] [(19,.v (.tuple #[])),(4,.p 0 0),(6,.p 1 0),(18,.p 1 0)] _:=aU.places (⟨rfl,rfl,⟨rfl,rfl,trivial⟩⟩)
 refine qae (qab ?_)
 refine qad [0,1,2,3] kz ?_
 refine qaj [0] [1,2,3] [(4,.p 0 0),(20,.p 1 0)] ae aV fun cV aW=>?_
 have aX:=aW.recast 20 (.p 1 0) (.v (.pointer (some ⟨ab,0,none⟩))) rfl rfl trivial
 have aY:=aX.pk (env':=[(4,.p 0 0),(20,.v (.pointer (some ⟨ab,0,none⟩)))])
 have ay:=WOk.strOut (G:=NoF) [⟨b1,0,[.int .i64 0,.slice none 0 0,.bool false,.slice none 0 0,.slice none 0 0],true⟩] ae
 obtain ⟨aZ,aj,aw⟩:=ae.cutB aY 1 [⟨b1,0,[.int .i64 0,.slice none 0 0,.bool false,.slice none 0 0,.slice none 0 0],true⟩] [(4,.p 0 0),(20,.v (.pointer (some ⟨ab,0,none⟩)))]
 have ba:=qcc (qbC _ (av.trans aw).step immM (av.trans aw).to' b8)
 refine qai (qak aZ (f:=45) (vs:=[.pointer (some ⟨ab,0,none⟩)]) (d:=21) kz Tryz.call45 (qcl (IntKind.i16.wrap v) (qaU aa) ab 0 _ _ ay ba) ?_)
 rintro e_ cW ⟨cz,rfl,bd,ak⟩
 have al:=bd.move (Step.refl _ Nil) nilM (aj.laid (G:=NoF) ak)
 obtain ⟨az,aA,aB,aC,aD,aE,aF,aG,aH,aI,aJ,cA,cB,am,cm,cq,cX,cY⟩:=al.open_
 rw [am] at al
 have cr:=cm.small
 have cu:=cq.small
 rw [am]
 refine ⟨_,rfl,fun cZ bf=>?_⟩
 have bg:=aj.next_nil ak
 have cC:=aj.frN ak
 refine qai (qam bg bf (oi:=0) (cs:=[.int .i64 az,.slice aE aA.length aF,.bool aB,.slice aG aC.length aH,.slice aI aD.length aJ]) kz fun cw ax ao bh=>?_)
 refine qaj [3] [] [(4,.p 0 0),(5,.v (.bool true))] ao bh fun c5 bi=>?_
 refine qae (qab ?_)
 refine wp_ret ?_
 refine qaX bi ao.cells (v:=.tuple #[.agg #[.int .i64 az,.slice aE aA.length aF,.bool aB,.slice aG aC.length aH,.slice aI aD.length aJ],.bool true]) kz ?_
 exact ⟨aa,_,rfl,(show TreeR _ (Imm NoF w cw [⟨b1,0,[.int .i64 az,.slice aE aA.length aF,.bool aB,.slice aG aC.length aH,.slice aI aD.length aJ],true⟩] []) _ (qa2 (qaU aa)) from (al.move ax.step immM ax.to')).move (Step.refl _ Nil) nilM qbG,ao.step⟩
theorem qce (v:Int) (T:Tree) (B:Bs) {A2:Option Addr} {c2:Nat} {w:World} {F:Nat → Nat → Prop} (hB:qag (IntKind.i16.wrap v) T = B) (hs_:Octs w F A2 c2 B) (hc:qaR T) (hkey:T.ranged) (hroom:B.length + 16 ≤ 1099511627776) :
  Calls Tryz.prog 14 #[.int .i64 v,.slice A2 B.length c2] w (fun e w'=>∃ D cs,e = .returned (.tuple #[.agg cs.toArray,.bool true]) ∧ TreeR w' (Fp NoF w) cs (qa2 (qaU D)) ∧ Step w w' Nil):=by
 subst hB
 exact qcm v T hs_ hc hkey hroom
theorem qcq (w:World):Calls Tryz.prog 11 #[] w (qcG w (.int .i64 1)):=by
 refine enter (n:=4) Tryz.func11 rfl Tryz.ntmps11 kz fun a hE=>?_
 have hW:=WOk.start w Nil
 refine qas [] hW hE fun a1 hE2=>?_
 refine qad [0,1,2,3] kz ?_
 refine qai (qbz hE2 (f:=39) (vs:=[]) (d:=1) (n':=3) kz Tryz.call39 Tryz.func39 rfl Tryz.ntmps39 kz fun a3 hE4=>?_)
 refine qas [] hW hE4 fun a5 hE6=>?_
 refine qad [0] kz ?_
 refine qai (qaO hW hE6 (d:=1) (cs:=[.int .i16 0,.int .i32 0,.bool false,.int .i16 0,.pointer none,.slice none 0 0,.map none]) kz fun b7 a8 w9 aA aB aC ab ac=>?_)
 refine qae (qab ?_)
 refine qad [0] kz ?_
 refine qai (qbz ac (f:=44) (vs:=[.pointer (some ⟨b7,0,none⟩)]) (d:=2) (n':=5) kz Tryz.call44 Tryz.func44 rfl Tryz.ntmps44 kz fun aE ae=>?_)
 have af:=ae.recast 0 (.v (.pointer (some ⟨b7,0,none⟩))) (.p 0 0) rfl rfl (Nat.le_of_ble_eq_true (n:=1) rfl)
 refine qap [0,1,2,3] kz ?_
 refine qaj [0,1,2] [3] [(4,.p 0 2)] ab af fun aF ag=>?_
 refine qai (qam ab ag (oi:=0) (cs:=[.int .i16 0,.int .i32 0,.bool true,.int .i16 0,.pointer none,.slice none 0 0,.map none]) kz fun aG aD aa ah=>?_)
 refine qae ?_
 refine qbF ah aa.cells (v:=.tuple #[]) kz ?_
 refine ⟨_,rfl,fun aH ai=>?_⟩
 have aj:EnvOk 3 [⟨b7,0,[.int .i16 0,.int .i32 0,.bool true,.int .i16 0,.pointer none,.slice none 0 0,.map none],true⟩] [(2,.v (.tuple #[])),(1,.p 0 0)] _:=ai.places (⟨rfl,rfl,trivial⟩)
 refine qae (qab ?_)
 refine qas [(0,.p 0 0)] aa aj fun aI ak=>?_
 refine wp_ret ?_
 refine qaX ak aa.cells (v:=.pointer (some ⟨b7,0,none⟩)) kz ?_
 refine ⟨_,rfl,fun aJ al=>?_⟩
 have am:EnvOk 4 [⟨b7,0,[.int .i16 0,.int .i32 0,.bool true,.int .i16 0,.pointer none,.slice none 0 0,.map none],true⟩] [(1,.v (.pointer (some ⟨b7,0,none⟩)))] _:=al.places (trivial)
 have ao:=am.recast 1 (.v (.pointer (some ⟨b7,0,none⟩))) (.p 0 0) rfl rfl (Nat.le_of_ble_eq_true (n:=1) rfl)
 have ap:=ao.pick (ks:=[1]) (env':=[(1,.p 0 0)]) kz
 refine qai (qbz ap (f:=40) (vs:=[.pointer (some ⟨b7,0,none⟩)]) (d:=2) (n':=3) kz Tryz.call40 Tryz.func40 rfl Tryz.ntmps40 kz fun aK ar=>?_)
 have au:=ar.recast 0 (.v (.pointer (some ⟨b7,0,none⟩))) (.p 0 0) rfl rfl (Nat.le_of_ble_eq_true (n:=1) rfl)
 refine qas [] aa au fun aL av=>?_
 refine qas [(2,.v (.int .i16 1))] aa av fun aM aw=>?_
 refine wp_ret ?_
 refine qaX aw aa.cells (v:=.int .i16 1) kz ?_
 refine ⟨_,rfl,fun aN ax=>?_⟩
 have ay:EnvOk 4 [⟨b7,0,[.int .i16 0,.int .i32 0,.bool true,.int .i16 0,.pointer none,.slice none 0 0,.map none],true⟩] [(2,.v (.int .i16 1)),(1,.p 0 0)] _:=ax.places (⟨rfl,rfl,trivial⟩)
 refine qaj [2,3] [] [(0,.v (.int .i64 1))] aa ay fun aO az=>?_
 refine qae (qab ?_)
 refine wp_ret ?_
 refine qaX az aa.cells (v:=.int .i64 1) kz ?_
 exact ⟨rfl,aa.step⟩
theorem qbX:depths sAlterPartitionAssignmentsResponseF ≤ 8:=by simp [sAlterPartitionAssignmentsResponseF,Fld.depth.depths,Fld.depth]
set_option maxHeartbeats 4000000 in
theorem qcf (x:Int) (hx:0 ≤ x) (hx':x < 256) (ct:List Value) (t:Tree) (w:World) (F:Nat → Nat → Prop) (ht:TreeR w F ct t) (hroom1:(qcM 8 sAlterPartitionAssignmentsResponseF qao (Int.tmod x (1 + 1)) t).length + 16 ≤ 1099511627776) (hcan:qaR (fitT (Int.tmod x (1 + 1)) 8 sAlterPartitionAssignmentsResponseF t)) (hkey:Tree.ranged (fitT (Int.tmod x (1 + 1)) 8 sAlterPartitionAssignmentsResponseF t)) (hpure:qag (IntKind.i16.wrap (Int.tmod x (1 + 1))) (fitT (Int.tmod x (1 + 1)) 8 sAlterPartitionAssignmentsResponseF t) = qcM 8 sAlterPartitionAssignmentsResponseF qao (Int.tmod x (1 + 1)) t) :
  Calls Tryz.prog 3 #[.int .u8 x,.agg ct.toArray] w (qcG w (.bool true)):=by
 obtain ⟨n1,s2,b3,l4,u5,A6,c7,A8,c9,aU,aV,cX,rfl,rfl,cY,cZ,dJ,dK⟩:=ht.open_
 have cI:=cY.small
 have cJ:=cZ.small
 refine enter (n:=37) Tryz.func3 rfl Tryz.ntmps3 kz fun a hE=>?_
 have hW:=WOk.start w Nil
 refine qad [0,1] kz ?_
 refine qai (qbu hW hE (d:=3) (cs:=[.int .i64 n1,.slice A6 s2.length c7,.bool b3,.slice A8 l4.length c9,.slice aU u5.length aV]) kz fun c5 dL dM c6 da db am bD=>?_)
 refine qaj [1] [] [(0,.v (.int .u8 x)),(3,.p 0 0)] am bD fun dN bE=>?_
 refine qae (qab ?_)
 refine wp_seq ?_
 refine qad [0,1,2] kz ?_
 refine qaj [0] [1,2] [(0,.v (.int .u8 x)),(3,.p 0 0),(10,.v (.agg #[.int .i64 n1,.slice A6 s2.length c7,.bool b3,.slice A8 l4.length c9,.slice aU u5.length aV]))] am bE fun dO bF=>?_
 refine qai (qak bF (f:=10) (vs:=[.agg #[.int .i64 n1,.slice A6 s2.length c7,.bool b3,.slice A8 l4.length c9,.slice aU u5.length aV]]) (d:=11) kz Tryz.call10 (qkR _ _ _ _ (ht.move am.step nilM am.imm)) ?_)
 rintro e_ dP ⟨cK,rfl,aY⟩
 refine ⟨_,rfl,fun dQ bG=>?_⟩
 have ao:=am.next_nil aY
 have dc:=am.frN aY
 refine qaj [2] [] [(0,.v (.int .u8 x)),(3,.p 0 0),(12,.v (.bool (!cK)))] ao bG fun dR aR=>?_
 refine qae (qab ?_)
 refine qaE aR (b:=!cK) kz (fun bH=>?_) (fun bH=>?_)
 ·
  refine qas [(4,.v (.bool true))] ao aR fun dS bI=>?_
  refine wp_ret ?_
  refine qaD ?_
  refine qaX bI ao.cells (v:=.bool true) kz ?_
  exact ⟨rfl,ao.step⟩
 refine wp_skip ?_
 refine qab ?_
 refine qad [0,1] kz ?_
 refine qai (qak aR (f:=11) (vs:=[]) (d:=13) kz Tryz.call11 (qcq _) ?_)
 rintro e_ de ⟨rfl,aZ⟩
 refine ⟨_,rfl,fun dT bJ=>?_⟩
 have ap:=ao.next_nil aZ
 have dg:=ao.frN aZ
 refine qaj [1] [] [(0,.v (.int .u8 x)),(3,.p 0 0),(5,.v (.int .i64 1))] ap bJ fun dU bK=>?_
 refine qae (qab ?_)
 refine wp_seq ?_
 refine qas [(0,.v (.int .u8 x)),(3,.p 0 0),(5,.v (.int .i64 1)),(15,.v (.bool false))] ap bK fun dV ba=>?_
 refine qau ba (b:=false) kz rfl ?_
 refine wp_skip ?_
 refine qab ?_
 refine qad [0,1,2,3,4,5,6] kz ?_
 refine qai (qak ba (f:=12) (vs:=[]) (d:=16) kz Tryz.call12 (qco _ (Imm F w de [⟨c5,0,[.int .i64 n1,.slice A6 s2.length c7,.bool b3,.slice A8 l4.length c9,.slice aU u5.length aV],true⟩] [])) ?_)
 rintro e_ dW ⟨aW,aX,rfl,bL,aS⟩
 obtain ⟨bd,cL,cM⟩:=bL.move (Step.refl _ Nil) nilM (ap.laid (G:=F) aS)
 refine ⟨_,rfl,fun dX bM=>?_⟩
 have aT:=ap.next_nil aS
 have dh:=ap.frN aS
 refine qaj [1,2] [3,4,5,6] [(3,.p 0 0),(16,.v (.agg #[.slice aW sAlterPartitionAssignmentsResponseF.length aX,.int .i64 qao])),(17,.v (.int .u8 x)),(18,.v (.int .i64 1))] aT bM fun dY bN=>?_
 refine qai (qak bN (f:=13) (vs:=[.int .u8 x,.int .i64 1]) (d:=19) kz Tryz.call13 (qjx x 1 hx hx' (by decide) (by decide) _) ?_)
 rintro e_ dZ ⟨rfl,bf⟩
 refine ⟨_,rfl,fun d5 bO=>?_⟩
 have bP:=aT.next_nil bf
 have af:=aT.frN bf
 refine qai (qaO bP bO (d:=6) (cs:=[.slice none 0 0,.int .i64 0]) kz fun d6 d7 d8 di dj ag bQ bR=>?_)
 refine qai (qam bQ bR (oi:=1) (cs:=[.slice aW sAlterPartitionAssignmentsResponseF.length aX,.int .i64 qao]) kz fun d9 ah ar bS=>?_)
 refine qaj [6] [] [(3,.p 0 0),(6,.p 1 0),(7,.v (.int .i64 (Int.tmod x (1 + 1))))] ar bS fun ea bT=>?_
 refine qae (qab ?_)
 refine qad [0,1,2,3,4,5,6,7,8,9,10,11] kz ?_
 refine qaj [0,1,2,3] [4,5,6,7,8,9,10,11] [(6,.p 1 0),(21,.v (.int .i64 (Int.tmod x (1 + 1)))),(22,.v (.agg #[.slice aW sAlterPartitionAssignmentsResponseF.length aX,.int .i64 qao])),(23,.v (.int .i64 (Int.tmod x (1 + 1)))),(24,.v (.agg #[.int .i64 n1,.slice A6 s2.length c7,.bool b3,.slice A8 l4.length c9,.slice aU u5.length aV]))] ar bT fun eb bU=>?_
 refine qai (qak bU (f:=15) (vs:=[.agg #[.slice aW sAlterPartitionAssignmentsResponseF.length aX,.int .i64 qao],.int .i64 (Int.tmod x (1 + 1)),.agg #[.int .i64 n1,.slice A6 s2.length c7,.bool b3,.slice A8 l4.length c9,.slice aU u5.length aV]]) (d:=25) kz Tryz.call15 (qkI _ _ sAlterPartitionAssignmentsResponseF qao (Int.tmod x (1 + 1)) _ (Tree.mk n1 s2 b3 l4 u5) _ _ ⟨bd,(cL.move ((af.trans ag).trans ah).step immM ((af.trans ag).trans ah).to'),(fun i_ x_ h_=>((cM i_ x_ h_).move ((af.trans ag).trans ah).step immM ((af.trans ag).trans ah).to'))⟩ qbX (ht.move ar.step nilM ar.imm) (Nat.le_trans (Nat.le_add_right _ _) hroom1)) ?_)
 rintro e_ ec ⟨cN,cO,rfl,bV,bW⟩
 refine ⟨_,rfl,fun ee bX=>?_⟩
 obtain ⟨ai,aj⟩:=ar.frFresh bW (brow cN cO 5 (qcM 8 sAlterPartitionAssignmentsResponseF qao (Int.tmod x (1 + 1)) (Tree.mk n1 s2 b3 l4 u5))) (Nat.le_refl _) bV
 refine qai (qak bX (f:=14) (vs:=[.int .i64 (Int.tmod x (1 + 1)),.slice cN ((qcM 8 sAlterPartitionAssignmentsResponseF qao (Int.tmod x (1 + 1)) (Tree.mk n1 s2 b3 l4 u5)).length) cO]) (d:=26) kz Tryz.call14 (qce (Int.tmod x (1 + 1)) _ (qcM 8 sAlterPartitionAssignmentsResponseF qao (Int.tmod x (1 + 1)) (Tree.mk n1 s2 b3 l4 u5)) hpure (qd4 (ai.own 0 _ rfl) (by first | omega | (rw [qcn]; decide) | (simp only [be_length]; exact Nat.le_trans (qbZ _) (by decide)) | (have:=hroom; omega) | (have:=hmade; omega) | (simp only [List.length_append,List.length_nil]; omega)) (F:=fun _ _=>True) (fun _ _ _=>trivial)) hcan hkey (by first | omega | (have:=hroom1; omega))) ?_)
 rintro e_ dl ⟨bg,cP,rfl,bh,au⟩
 have av:=bh.move (Step.refl _ Nil) nilM (fun b_ o_ h_ hb_=>ai.laid (G:=F) au b_ o_ (.inr (h_.resolve_left id)) hb_)
 obtain ⟨aC,aD,aE,aF,aG,aH,aI,aJ,aK,aL,aM,cQ,cR,aw,bY,bZ,dp,dq⟩:=av.open_
 rw [aw] at av
 have b8:=bY.small
 have cd:=bZ.small
 rw [aw]
 refine ⟨_,rfl,fun dr bi=>?_⟩
 have aN:=ai.next_nil au
 have ak:=ai.frN au
 refine qaj [6,7,8] [9,10,11] [(6,.p 1 0),(27,.v (.agg #[.int .i64 aC,.slice aH aD.length aI,.bool aE,.slice aJ aF.length aK,.slice aL aG.length aM])),(28,.v (.bool true))] aN bi fun dt bj=>?_
 refine qai (qaO aN bj (d:=8) (cs:=[.int .i64 0,.slice none 0 0,.bool false,.slice none 0 0,.slice none 0 0]) kz fun du dv dw cS cT aa bk bn=>?_)
 refine qai (qam bk bn (oi:=2) (cs:=[.int .i64 aC,.slice aH aD.length aI,.bool aE,.slice aJ aF.length aK,.slice aL aG.length aM]) kz fun dx ab aO bo=>?_)
 refine qaj [11] [] [(6,.p 1 0),(8,.p 2 0),(9,.v (.bool true))] aO bo fun dy bp=>?_
 refine qae (qab ?_)
 refine qa1 8 kz aO fun dz ac ax bq=>?_
 refine qaN [0,1,2,3,4] [(30,.v (.bool true)),(32,.v (.slice aW sAlterPartitionAssignmentsResponseF.length aX)),(33,.v (.agg #[.int .i64 aC,.slice aH aD.length aI,.bool aE,.slice aJ aF.length aK,.slice aL aG.length aM]))] 4 (qaa qaf) (fun _ h=>h.cells) bq bp fun dA bt=>?_
 refine qav (i:=5) kz (qak bt (f:=17) (vs:=[.agg #[.int .i64 aC,.slice aH aD.length aI,.bool aE,.slice aJ aF.length aK,.slice aL aG.length aM]]) (d:=34) kz Tryz.call17 (lGot _ _ _ _ _ (av.move ((aa.trans ab).trans ac).step immM ((aa.trans ab).trans ac).to') (Nat.le_refl _)) ?_)
 rintro e_ dB ⟨cU,rfl,bu,ay⟩
 have az:=bu.move (Step.refl _ Nil) nilM (ax.laid (G:=F) ay)
 obtain ⟨ce,cg,cm,cq,cr,cu,cw,cz,cA,cB,cC,cV,cW,aA,cD,cE,dC,dD⟩:=az.open_
 rw [aA] at az
 have cG:=cD.small
 have cH:=cE.small
 rw [aA]
 refine ⟨_,rfl,fun dE bw=>?_⟩
 have aB:=ax.next_nil ay
 have ae:=ax.frN ay
 have bx:=TT.ofW ae aB
 refine ⟨fun _=>bx,?_⟩
 refine qav (i:=6) kz (qak bw (f:=16) (vs:=[.slice aW sAlterPartitionAssignmentsResponseF.length aX,.agg #[.int .i64 ce,.slice cu cg.length cw,.bool cm,.slice cz cq.length cA,.slice cB cr.length cC]]) (d:=35) kz Tryz.call16 (qi1 _ _ sAlterPartitionAssignmentsResponseF _ (qa2 (qaU bg)) _ _ ⟨bd,(cL.move ((((((((af.trans ag).trans ah).trans aj).trans ak).trans aa).trans ab).trans ac).trans ae).step immM ((((((((af.trans ag).trans ah).trans aj).trans ak).trans aa).trans ab).trans ac).trans ae).to'),(fun i_ x_ h_=>((cM i_ x_ h_).move ((((((((af.trans ag).trans ah).trans aj).trans ak).trans aa).trans ab).trans ac).trans ae).step immM ((((((((af.trans ag).trans ah).trans aj).trans ak).trans aa).trans ab).trans ac).trans ae).to'))⟩ az (qcd bg)) ?_)
 rintro e_ dF ⟨rfl,aP⟩
 refine ⟨_,rfl,fun dG bz=>?_⟩
 have al:=aB.next_nil aP
 have bA:=aB.frN aP
 have aQ:=TT.ofW (ae.trans bA) al
 refine ⟨fun _=>aQ,?_⟩
 refine qaN [7] [(36,.v (.bool true))] 1 (qaa qaf) (fun _ h=>h.cells) aQ bz fun dH bB=>?_
 refine qav (i:=8) kz (qbN [4] al.cells bB (env':=[(4,.v (.bool true))]) kz fun dI bC=>?_)
 refine ⟨fun h=>absurd rfl h,?_⟩
 refine qaJ kz ?_ _
 refine qab ?_
 refine wp_ret ?_
 refine qaX bC al.cells (v:=.bool true) kz ?_
 exact ⟨rfl,al.step⟩
theorem qb8 (x:Int) (hx:0 ≤ x ∧ x ≤ 255) (ct:List Value) (t:Tree) (w:World) (F:Nat → Nat → Prop) (ht:TreeR w F ct t) (hi:t.i64s) (hsz:t.size ≤ 8388608):Calls Tryz.prog 3 #[.int .u8 x,.agg ct.toArray] w (qcG w (.bool true)):=by
 obtain ⟨g0,g1⟩:=qkE (m:=1 + 1) hx.1 hx.2 (by decide) (by decide)
 have hp:qag (IntKind.i16.wrap (Int.tmod x (1 + 1))) (fitT (Int.tmod x (1 + 1)) 8 sAlterPartitionAssignmentsResponseF t) = qcM 8 sAlterPartitionAssignmentsResponseF qao (Int.tmod x (1 + 1)) t:=by rw [qiq g0 g1]; exact qca (Int.tmod x (1 + 1)) g0 g1 t
 have h1:=qiy 8 sAlterPartitionAssignmentsResponseF qao (Int.tmod x (1 + 1)) t
 have h2:qgE sAlterPartitionAssignmentsResponseF ≤ 131000:=by decide +kernel
 have h3:=Nat.mul_le_mul h2 hsz
 exact qcf x hx.1 (by omega) ct t w F ht (by omega) (qb4 (Int.tmod x (1 + 1)) t) (qhD _ _ _ _ ht.ranged) hp
end Go.Proofs.YtcbpjflgkefidaaGreatDoor.ME