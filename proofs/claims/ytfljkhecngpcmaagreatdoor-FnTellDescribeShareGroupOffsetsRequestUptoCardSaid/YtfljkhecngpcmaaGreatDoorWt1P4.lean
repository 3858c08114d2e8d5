/- The texts of a claim, put together: the engine, the contracts, the law. Own work. -/
import Derived.Test.YtfljkhecngpcmaaGreatDoorWt1P3
import Derived.Lib.ConvBytes
namespace Go.Proofs.YtfljkhecngpcmaaGreatDoor.ME
open Go
open Go.RowKit
set_option linter.unusedVariables false
set_option linter.unusedSimpArgs false
set_option maxRecDepth 20000
section
variable {P:Program} {ops:Array Oper} {Q:Exit → Act → World → Prop} {n:Nat} {tb:Tb} {env:Env} {rs:List Rw} {w0:World} {M:Nat → Nat → Prop} {a:Act} {w:World}
theorem qeC {i d j:Nat} {t e:TypeId} {size bytes:Nat} (z:Value) (cs:List Value) {N:Act → World → Prop} (hW:WOk w0 M w tb rs) (hE:EnvOk n tb env a)
  (K:∀ b a' w',b = w.heap.size → w0.heap.size ≤ b → Fr w tb rs w' (tb ++ [⟨b,0,cs,true⟩]) rs → WOk w0 M w' (tb ++ [⟨b,0,cs,true⟩]) rs → EnvOk n (tb ++ [⟨b,0,cs,true⟩]) ((d,.v (.slice (some ⟨b,0,none⟩) j j)) :: env) a' → N a' w')
  (h:qiD env ops n i = some (t,((j:Nat):Int),((j:Nat):Int),d):=by kernel_rfl) (ht:qcK P t = some (e,size,bytes):=by kernel_rfl) (hz:(P.info? e).bind (·.zero) = some z:=by kernel_rfl) (hcs:(madeCells z.cells (j * size)).toList = cs:=by kernel_rfl) (hb:Nat.ble (bytes * j) 1000000 = true:=by kernel_rfl):wpOp P ops Q i N a w:=by
 obtain ⟨ht',inf,z',hi,hz',hzs,hs1,rfl,hsz,hbp⟩:=qcs ht
 obtain ⟨op,ho,hd,kl,kc,hrun⟩:=qfQ (P:=P) (w:=w) hE h
 have hzz:z' = z:=by rw [hi] at hz; simp only [Option.bind_some,hz',Option.some.injEq] at hz; exact hz
 subst hzz
 have hb':=Nat.le_of_ble_eq_true hb
 have hjm:j ≤ 1000000:=by
  have:=Nat.le_mul_of_pos_left j hbp
  omega
 have hr:=run_make (P:=P) w t e inf z' ht' hi hz' kl kc (j:Int) (j:Int) (by omega) (Int.le_refl _) (by
  have:((inf.bytes * j:Nat):Int) ≤ 281474976710656:=by omega
  rwa [Int.natCast_mul] at this) (by omega)
 simp only [Int.toNat_natCast,hs1] at hr
 have hca:madeCells z'.cells (j * size) = cs.toArray:=by rw [← hcs]
 rw [hca] at hr
 refine qba hE ho (fun o hop=>hrun o _ _ hop hr) ?_
 refine K w.heap.size _ _ rfl hW.step.size (Fr.alloc w tb rs _ cs true) (hW.alloc cs e) ?_
 exact (hE.put hd (.v (.slice (some ⟨w.heap.size,0,none⟩) j j)) trivial).grow _
theorem qfG {i d:Nat} {src dst e:TypeId} {s:ByteArray} {N:Act → World → Prop} (hW:WOk w0 M w tb rs) (hE:EnvOk n tb env a) (hsm:s.size ≤ 1099511627776)
  (K:∀ b c a' w',Fr w tb rs w' tb rs → WOk w0 M w' tb rs → (∀ G,Octs w' (Imm G w0 w' tb rs) (some ⟨b,0,none⟩) c (sb s)) → EnvOk n tb ((d,.v (.slice (some ⟨b,0,none⟩) (sb s).length c)) :: env) a' → N a' w')
  (h:qjY tb env ops n i = some (src,dst,.string s,d):=by kernel_rfl) (hs:P.underlying src = some .string:=by kernel_rfl) (hd:P.underlying dst = some (.slice e):=by kernel_rfl) (he:P.underlying e = some (.int .u8):=by kernel_rfl):wpOp P ops Q i N a w:=by
 unfold qjY at h
 split at h
 ·rename_i src' dst' x d' hop
  split at h
  ·rename_i v hx
   simp only [Option.some.injEq,Prod.mk.injEq] at h
   obtain ⟨rfl,rfl,rfl,rfl⟩:=h
   have hdn:=(qbr hE hop).choose_spec.2.2.2.1
   have hrun:=Lib.run_convert_string_bytes (P:=P) w src' dst' e s hs hd he
   have hst:Step w (Lib.bytesWorld w e s) Nil:=⟨rfl,rfl,by rw [Lib.bytesWorld_size]; omega,fun b hb=>by rw [Lib.bytesWorld_at_old w e s b hb]; exact Keeps.refl _ _⟩
   have hlen:(sb s).length = s.size:=qiA s
   have e1:=(qa6 hE hx).1
   refine qba hE hop (v:=.slice (some ⟨w.heap.size,0,none⟩) (sb s).length (grownCap w s.size 0 e)) (w':=Lib.bytesWorld w e s) (fun o' ho'=>?_) (K w.heap.size _ _ _ (Fr.nil tb rs hst) (hW.next_nil hst) (fun G=>?_) (hE.put hdn (.v _) trivial))
   ·unfold execOp
    rw [ho']
    simp only [SV.val] at e1
    simp only [e1,Sem.run_bind,hrun,Result.andThen_ok,Sem.run_pure,hlen]
   refine ⟨by rw [hlen]; exact grownCap_ge w s.size 0 e,by rw [hlen]; exact hsm,fun h=>(by cases h),fun ad hA _=>?_⟩
   obtain rfl:=Option.some.inj hA
   refine ⟨w.heap.size,0,rfl,fun q hq=>⟨rfl,fun j v hj=>?_⟩⟩
   have hj0:j = 0:=by
    cases j with
    | zero=>rfl
    | succ j=>simp at hj
   subst hj0
   simp only [List.getElem?_cons_zero,Option.some.injEq] at hj
   subst hj
   have h2:(Lib.bytesWorld w e s).heap.size = w.heap.size + 1:=Lib.bytesWorld_size w e s
   refine ⟨⟨.inr hW.step.size,by rw [h2]; exact Nat.lt_succ_self _,fun ha=>?_⟩,?_⟩
   ·have:=hW.act_live ha
    exact absurd this (Nat.lt_irrefl _)
   rw [Nat.zero_add,Nat.mul_one,Nat.add_zero,Lib.bytesWorld_cell w e s q (by rw [← hlen]; exact hq)]
   rfl
  cases h
 cases h
end
structure TBox (w:World) (B eT:Nat) (A:Option Addr) (cp n:Nat) (x0 x1 x2 x3:Value) (xs:List Value):Prop where
 str:Str w B [x0,x1,x2,x3,.slice A n cp]
 own:w.ownsRow 0 eT 2 (.slice A n cp) n xs
 ne:A.map (·.block) ≠ some B
def TM (B:Nat) (A:Option Addr):Nat → Nat → Prop:=fun b o=>(b = B ∧ o < 5) ∨ Blk A b o
def qj4 (w:World) (B eT:Nat) (A:Option Addr) (n:Nat) (x0 x1 x2 x3:Value) (xs:List Value) (k:Int) (x:Bs):Ending → World → Prop:=fun en w' =>
 en = .returned (.tuple #[]) ∧ ∃ A' cp' Av cv,TBox w' B eT A' cp' (n + 1) x0 x1 x2 x3 (xs ++ [.int .u32 k,.slice Av x.length cv]) ∧ Octs w' (fun b o=>(w.heap.size ≤ b ∨ A.map (·.block) = some b) ∧ ¬ TM B A' b o) Av cv x ∧ Near w A A' ∧ Step w w' (TM B A)
def qfk (P:Program) (fc eT:Nat):Prop:=∀ (w:World) (B cp c n:Nat) (k:Int) (A Av:Option Addr) (x:Bs) (x0 x1 x2 x3:Value) (xs:List Value) (G:Nat → Nat → Prop),TBox w B eT A cp n x0 x1 x2 x3 xs → Octs w G Av c x → (∀ b o,G b o → ¬ TM B A b o) → n ≤ 1000000 →
 Calls P fc [.int .u32 k,.slice Av x.length c,.pointer (some ⟨B,0,none⟩)].toArray w (qj4 w B eT A n x0 x1 x2 x3 xs k x)
theorem TBox.wok {w:World} {B eT cp n:Nat} {A:Option Addr} {x0 x1 x2 x3:Value} {xs:List Value} (h:TBox w B eT A cp n x0 x1 x2 x3 xs):WOk w (TM B A) w [⟨B,0,[x0,x1,x2,x3,.slice A n cp],true⟩] [⟨A,cp,eT,2,n,xs⟩]:=by
 have h1:WOk w (TM B A) w [⟨B,0,[x0,x1,x2,x3,.slice A n cp],true⟩] [] :=
  (WOk.start w _).add ⟨B,0,[x0,x1,x2,x3,.slice A n cp],true⟩ (World.lt_of_cell (h.str.at_ 0 _ rfl)) (fun j v hj=>by rw [Nat.zero_add]; exact h.str.at_ j v hj) (fun _ j hj=>⟨.inr (.inl ⟨rfl,by rw [Nat.zero_add]; exact hj⟩),by rw [Nat.zero_add]; exact h.str.frz j hj⟩) (fun i ob hi=>by simp at hi) (fun i r hi=>by simp at hi)
 refine h1.addRow ⟨A,cp,eT,2,n,xs⟩ h.own (fun g hg=>.inr fun o=>.inr hg) (fun i ob hi=>?_) (fun i r hi=>by simp at hi)
 cases i with
 | zero =>
  simp only [List.getElem?_cons_zero,Option.some.injEq] at hi; subst hi
  exact h.ne
 | succ i=>simp at hi
theorem qf7 {w0 w:World} {B eT cp n:Nat} {A0 A:Option Addr} {x0 x1 x2 x3:Value} {xs:List Value} {rs:List Rw} (hW:WOk w0 (TM B A0) w [⟨B,0,[x0,x1,x2,x3,.slice A n cp],true⟩] (⟨A,cp,eT,2,n,xs⟩ :: rs)) (hB:B < w0.heap.size):TBox w B eT A cp n x0 x1 x2 x3 xs ∧ Near w0 A0 A ∧ Step w0 w (TM B A0):=by
 refine ⟨⟨Str.of hW 0 rfl,hW.own 0 _ rfl,fun e=>hW.rtb 0 _ rfl B e 0 _ rfl rfl⟩,fun g hg=>?_,hW.step⟩
 rcases hW.ownM 0 _ rfl g hg with h | h
 ·exact .inr h
 rcases h 5 with ⟨_,h⟩ | h
 ·omega
 exact .inl h
theorem qej {w0 w:World} {B eT cp n c e8:Nat} {A0 A Av:Option Addr} {cs:List Value} {xs:List Value} {s:Bs} (hl:cs.length = 5) (hW:WOk w0 (TM B A0) w [⟨B,0,cs,true⟩] [⟨A,cp,eT,2,n,xs⟩,brow Av c e8 s]) (hsm:s.length ≤ 1099511627776):Octs w (fun b o=>(w0.heap.size ≤ b ∨ A0.map (·.block) = some b) ∧ ¬ TM B A b o) Av c s:=by
 refine qct (hW.own 1 _ rfl) hsm fun g hg o=>⟨?_,?_⟩
 ·rcases hW.ownM 1 _ rfl g hg with h | h
  ·exact .inl h
  rcases h 5 with ⟨_,h⟩ | h
  ·omega
  exact .inr h
 rintro (⟨rfl,_⟩ | h)
 ·exact hW.rtb 1 _ rfl g hg 0 _ rfl rfl
 exact hW.rr 1 0 _ _ (by decide) rfl rfl g hg h
theorem qfl {fc eT B b o:Nat} {m:Option Nat} {u:List (Int × Bs)} {w:World} {F:Nat → Nat → Prop} {x0 x1 x2 x3:Value} (hcf:∀ args w,(callFunc fc args).run Tryz.prog w = .ok (.enter fc args) w) (hone:qfk Tryz.prog fc eT) (hat:AtF w F b o [.map m]) (hm:MapR w F m u) (hB:Str w B [x0,x1,x2,x3,.slice none 0 0]) (hF:∀ b o,F b o → ¬ (b = B ∧ o < 5)) (hul:u.length ≤ 1000000) :
  Calls Tryz.prog 64 [.pointer (some ⟨b,o,none⟩),cloV fc (.pointer (some ⟨B,0,none⟩))].toArray w (fun e w'=>e = .returned (.tuple #[]) ∧ ∃ A c,Str w' B [x0,x1,x2,x3,.slice A u.length c] ∧ TagsR w' (fun b o=>w.heap.size ≤ b) A c u ∧ Step w w' (fun b o=>b = B ∧ o < 5)):=by
 have hBl:B < w.heap.size:=World.lt_of_cell (hB.at_ 0 _ rfl)
 refine (qlz (M:=fun b o=>b = B ∧ o < 5) hcf (fun w7 j w8=>∃ A cp xs css,TBox w8 B eT A cp j x0 x1 x2 x3 xs ∧ Tags w8 (fun b o=>w7.heap.size ≤ b ∧ ¬ TM B A b o) xs (u.take j) css ∧ (∀ g,A.map (·.block) = some g → w7.heap.size ≤ g) ∧ Step w7 w8 (fun b o=>b = B ∧ o < 5)) hat hm hF (fun b o h=>by rw [h.1]; exact hBl) (fun w7 hs=>?_) (fun w7 j w8 h=>by obtain ⟨_,_,_,_,_,_,_,h⟩:=h; exact h) (fun w7 hs j k x w8 Ax cx hI hu hk hox=>?_) hul).mono ?_
 ·exact ⟨none,0,[],[],⟨hB.move hs fun _ h=>h,World.ownsRow_nil _ 0 eT 2,fun h=>by cases h⟩,Tags.nil _ _,fun g h=>(by cases h),Step.refl _ _⟩
 ·obtain ⟨A,cp,xs,css,hbx,hT,hA,hs8⟩:=hI
  have hj:j < u.length:=(List.getElem?_eq_some_iff.1 hu).1
  refine (hone w8 B cp cx j k A Ax x x0 x1 x2 x3 xs _ hbx hox (fun b o hf=>?_) (by omega)).mono ?_
  ·rintro (h | h)
   ·exact hF _ _ hf.1 h
   have:=hA b h; have:=hf.2; omega
  rintro e w9 ⟨rfl,A',cp',Av,cv,hbx',ho',hn,hs9⟩
  refine ⟨rfl,A',cp',_,css ++ [[.int .u32 k,.slice Av x.length cv]],hbx',?_,fun g hg=>?_,hs8.trans hs9 fun b o hb h=>?_⟩
  ·rw [qcZ hu]
   have e1:Tags w9 (fun b o=>w7.heap.size ≤ b ∧ ¬ TM B A' b o) xs (u.take j) css:=hT.move hs9 (fun b o h _=>h.2) (fun b o h hb=>⟨h.1,fun h'=>by
    rcases h' with h' | h'
    ·exact h.2 (.inl h')
    rcases hn b h' with h' | h'
    ·exact h.2 (.inr h')
    omega⟩)
   have e2:Octs w9 (fun b o=>w7.heap.size ≤ b ∧ ¬ TM B A' b o) Av cv x:=ho'.move (Step.refl _ Nil) nilM fun b o h _=>⟨by
    rcases h.1 with h' | h'
    ·exact Nat.le_trans hs8.size h'
    exact hA b h',h.2⟩
   exact e1.snoc (c:=[.int .u32 k,.slice Av x.length cv]) (x:=(k,x)) ⟨⟨_,_,rfl,e2⟩,hk.1,hk.2⟩
  ·rcases hn g hg with h | h
   ·exact hA g h
   exact Nat.le_trans hs8.size h
  rcases h with h | h
  ·exact h
  have:=hA b h; omega
 rintro e w' ⟨rfl,w7,hs,A,cp,xs,css,hbx,hT,hA,hs8⟩
 rw [List.take_length] at hT
 refine ⟨rfl,A,cp,hbx.str,?_,(hs.mono (N:=fun b o=>b = B ∧ o < 5) fun _ _ _ f=>f.elim).trans hs8 fun b o _ h=>h⟩
 exact ((hT.move (Step.refl _ Nil) nilM fun b o h _=>Nat.le_trans hs.size h.1).slots (F:=fun b o=>w.heap.size ≤ b) hbx.own rfl (by omega) fun g hg o=>Nat.le_trans hs.size (hA g hg))
abbrev NoF:Nat → Nat → Prop:=fun _ _=>False
theorem WOk.strOut {G:Nat → Nat → Prop} {w0 w:World} {tb:Tb} {rs:List Rw} {p:Nat} {cs:List Value} (tb':Tb) (hW:WOk w0 Nil w tb rs) (ht:tb' ++ [⟨p,0,cs,true⟩] = tb:=by rfl):AtF w (Imm G w0 w tb' rs) p 0 cs:=fun j v hj=>by
 subst ht
 have hi:(tb' ++ [(⟨p,0,cs,true⟩:Ob)])[tb'.length]? = some ⟨p,0,cs,true⟩:=by rw [List.getElem?_append_right (Nat.le_refl _),Nat.sub_self]; rfl
 have h1:=hW.cells _ _ hi j v hj
 have hlt:j < cs.length:=(List.getElem?_eq_some_iff.1 hj).1
 refine ⟨⟨?_,hW.live _ _ hi,fun ha=>?_⟩,h1⟩
 ·rcases (hW.rw_ _ _ hi rfl j hlt).1 with h2 | h2
  ·exact .inr h2
  exact h2.elim
 rcases ha with ⟨k,ob,h2,h3,h4,h5,h6⟩ | ⟨k,r,h2,h3⟩
 ·have hk:k < tb'.length:=(List.getElem?_eq_some_iff.1 h2).1
  have h7:(tb' ++ [(⟨p,0,cs,true⟩:Ob)])[k]? = some ob:=by rw [List.getElem?_append_left hk]; exact h2
  rcases hW.apart k _ ob _ (by omega) h7 hi (.inr rfl) with h8 | h8 | h8
  ·exact h8 h4
  ·simp only [Nat.zero_add] at h5 h6; simp only [Nat.le_zero] at h8; omega
  simp only [Nat.zero_add] at h5 h6 h8; omega
 exact hW.rtb k r h2 p h3 _ _ hi rfl
theorem qik {u:List (Int × Bs)} (h:qc9 u) {i j:Nat} {k k':Int} {s s':Bs} (hi:u[i]? = some (k,s)) (hj:u[j]? = some (k',s')) (hij:j < i):¬ k < k':=by
 obtain ⟨h1,h2⟩:=List.getElem?_eq_some_iff.1 hi
 obtain ⟨h3,h4⟩:=List.getElem?_eq_some_iff.1 hj
 have:=List.pairwise_iff_getElem.1 h j i h3 h1 hij
 rw [h2,h4] at this
 simp only at this
 omega
section
variable {w0 w:World} {tb:Tb} {rs:List Rw} {F:Nat → Nat → Prop}
theorem WOk.objFp (hW:WOk w0 Nil w tb rs) (i:Nat) {b:Nat} {cs:List Value} (hi:tb[i]? = some ⟨b,0,cs,true⟩):AtF w (Fp F w0) b 0 cs:=fun j v hj=>by
 have hlt:=(List.getElem?_eq_some_iff.1 hj).1
 refine ⟨?_,hW.cells i _ hi j v hj⟩
 rcases (hW.rw_ i _ hi rfl j hlt).1 with h | h
 ·exact .inr h
 exact h.elim
def TrL (w:World) (F:Nat → Nat → Prop):List (List Value) → List Tree → Prop
 | [],[]=>True
 | c :: cs,x :: xs=>TreeR w F c x ∧ TrL w F cs xs
 | _,_=>False
theorem TrL.move {w w':World} {F F' M:Nat → Nat → Prop} (hs:Step w w' M) (hM:∀ b o,F b o → b < w.heap.size → ¬ M b o) (hF:∀ b o,F b o → b < w.heap.size → F' b o):∀ {cs:List (List Value)} {l:List Tree},TrL w F cs l → TrL w' F' cs l
 | [],[],_=>trivial
 | _ :: _,_ :: _,h=>⟨h.1.move hs hM hF,TrL.move hs hM hF h.2⟩
 | [],_ :: _,h=>h.elim
 | _ :: _,[],h=>h.elim
theorem TrL.len:∀ {cs:List (List Value)} {l:List Tree},TrL w F cs l → cs.length = l.length
 | [],[],_=>rfl
 | _ :: _,_ :: _,h=>congrArg (· + 1) (TrL.len h.2)
 | [],_ :: _,h=>h.elim
 | _ :: _,[],h=>h.elim
theorem TrL.five:∀ {cs:List (List Value)} {l:List Tree},TrL w F cs l → ∀ c ∈ cs,c.length = 5
 | [],[],_=>fun c hc=>by cases hc
 | _ :: _,_ :: _,h=>fun c hc=>by
  rcases List.mem_cons.1 hc with rfl | hc
  ·exact h.1.five
  exact TrL.five h.2 c hc
 | [],_ :: _,h=>h.elim
 | _ :: _,[],h=>h.elim
theorem TrL.get:∀ {cs:List (List Value)} {l:List Tree},TrL w F cs l → ∀ (i:Nat) (x:Tree),l[i]? = some x → TreeR w F (cs.getD i []) x
 | [],[],_,i,x,hx=>by simp at hx
 | _ :: _,_ :: _,h,0,x,hx=>by
  simp only [List.getElem?_cons_zero,Option.some.injEq] at hx
  subst hx
  exact h.1
 | _ :: _,_ :: _,h,i + 1,x,hx=>TrL.get h.2 i x hx
 | [],_ :: _,h,_,_,_=>h.elim
 | _ :: _,[],h,_,_,_=>h.elim
theorem qlA {b:Nat}:∀ (css:List (List Value)) (o:Nat),AtF w F b o css.flatten → (∀ c ∈ css,c.length = 5) → ∀ i,i < css.length → (css.getD i []).length = 5 ∧ AtF w F b (o + i * 5) (css.getD i [])
 | [],o,h,hl,i,hi=>absurd hi (Nat.not_lt_zero _)
 | c :: r,o,h,hl,0,_=>⟨hl c List.mem_cons_self,fun j v hj=>by
   have hj':c[j]? = some v:=hj
   have:=h j v (by rw [List.flatten_cons,List.getElem?_append_left (List.getElem?_eq_some_iff.1 hj').1]; exact hj')
   rw [show o + 0 * 5 + j = o + j by omega]
   exact this⟩
 | c :: r,o,h,hl,i + 1,hi=>by
  have hc:=hl c List.mem_cons_self
  have:=qlA r (o + 5) (fun j v hj=>by
   have:=h (5 + j) v (by rw [List.flatten_cons,List.getElem?_append_right (by omega),show 5 + j - c.length = j by omega]; exact hj)
   rw [show o + 5 + j = o + (5 + j) by omega]
   exact this) (fun d hd=>hl d (List.mem_cons_of_mem _ hd)) i (by simpa using hi)
  rw [show o + (i + 1) * 5 = o + 5 + i * 5 by omega]
  exact this
theorem qil {b:Nat} {css:List (List Value)} {l:List Tree} (h:AtF w F b 0 css.flatten) (hT:TrL w F css l) (hsm:l.length ≤ 1099511627776):Slots w F 5 (some ⟨b,0,none⟩) l.length l.length (fun i=>css.getD i []) :=
 ⟨Nat.le_refl _,hsm,fun h=>(by cases h),fun ad hA _=>⟨b,0,(Option.some.inj hA).symm,fun i hi=>qlA css 0 h hT.five i (by rw [hT.len]; exact hi)⟩⟩
theorem Trees.xslen {w:World} {xs:List Value} {l:List Tree} {css:List (List Value)} (h:Trees w F xs l css):xs.length = l.length * 5:=by
 have h1:∀ css:List (List Value),(∀ c ∈ css,c.length = 5) → css.flatten.length = css.length * 5:=fun css hc=>by
  induction css with
  | nil=>rfl
  | cons c r ih =>
   rw [List.flatten_cons,List.length_append,hc c List.mem_cons_self,ih fun d hd=>hc d (List.mem_cons_of_mem _ hd),List.length_cons]
   omega
 rw [h.flat.eq,h1 css,h.len]
 intro c hc
 obtain ⟨i,hi,rfl⟩:=List.getElem_of_mem hc
 have hl:=h.len
 exact (h.each i _ _ (List.getElem?_eq_getElem hi) (List.getElem?_eq_getElem (show i < l.length by omega))).five
theorem qcX {xs zs cs:List Value} {k:Nat} (hx:xs.length = k * 5) (hz:zs.length = cs.length:=by rfl):qbl (xs ++ zs) (k * 5) cs = xs ++ cs:=by
 unfold qbl
 rw [List.take_left' hx,List.drop_of_length_le (by rw [List.length_append]; omega),List.append_nil]
theorem qfm (hW:WOk w0 Nil w tb rs) {k:Nat} {A:Option Addr} {c e n:Nat} {xs:List Value} {l:List Tree} {css:List (List Value)} {b:Bool} (hk:rs[k]? = some ⟨A,c,e,5,n,xs⟩) (hT:Trees w (Imm F w0 w tb rs) xs l css) (hn:n = l.length) (hsm:l.length ≤ 1099511627776):TreeR w (Fp F w0) [.int .i64 0,.slice none 0 0,.bool b,.slice A n c,.slice none 0 0] (.mk 0 [] b l []):=by
 have h:=qhr hW hk hT hn hsm
 subst hn
 exact TreeR.mk (s:=[]) (u:=[]) _ (Octs.nil _ _) h.1 h.2 (TagsR.nil _ _)
theorem qcm {L k:Nat} {f:Nat → Tree} (h:k < L):((List.range L).map f).take (k + 1) = ((List.range L).map f).take k ++ [f k] :=
 qcZ (by rw [List.getElem?_map,List.getElem?_range h]; rfl)
theorem qf8 {L k:Nat} {f:Nat → Tree} (h:L ≤ k):((List.range L).map f).take k = (List.range L).map f:=List.take_of_length_le (by rw [List.length_map,List.length_range]; exact h)
theorem qb7 {L:Nat} {f:Nat → Tree}:((List.range L).map f).length = L:=by rw [List.length_map,List.length_range]
theorem qf9 (hW:WOk w0 Nil w tb rs) (i:Nat) {b n2 c3:Nat} {A3:Option Addr} {u:List (Int × Bs)} {css:List (List Value)} {cs:List Value} {l:List Tree} (hi:tb[i]? = some ⟨b,0,cs,true⟩) (hT':TrL w (Fp F w0) css l) (hU:TagsR w (Fp F w0) A3 c3 u) (hf:css.flatten = cs:=by rfl) (hl:l.length = n2:=by rfl) (hn:Nat.ble n2 1000000 = true:=by kernel_rfl) :
  qe4 w0 F (.mk 0 [] false l u) (.returned (.agg #[.int .i64 0,.slice none 0 0,.bool false,.slice (some ⟨b,0,none⟩) n2 n2,.slice A3 u.length c3])) w:=by
 subst hf
 subst hl
 have hn':=Nat.le_of_ble_eq_true hn
 exact ⟨_,rfl,TreeR.mk (s:=[]) _ (Octs.nil _ _) (qil (hW.objFp i hi) hT' (by omega)) hT'.get hU,hW.step⟩
end
def qlB (m:Nat):Prop:=∀ (ct:List Value) (t:Tree) (w:World) (F:Nat → Nat → Prop),TreeR w F ct t → t.depth ≤ m →
  Calls Tryz.prog 15 #[.agg ct.toArray] w (qe4 w F t)
theorem qju {m:Nat} (hg:qlB m) (ct:List Value) (t:Tree) (w:World) (F:Nat → Nat → Prop) (ht:TreeR w F ct t) (hd:t.depth ≤ m + 1) :
  Calls Tryz.prog 15 #[.agg ct.toArray] w (qe4 w F t):=by
 obtain ⟨n1,s2,b3,l4,u5,A6,c7,A8,c9,ap,ar,dT,rfl,rfl,dw,dx,dU,dV⟩:=ht.open_
 have dy:=dw.small
 have dz:=dx.small
 obtain ⟨dW,dA,dX⟩:=dV.ex
 have dB:=dA.small
 refine enter (n:=49) Tryz.func15 rfl Tryz.ntmps15 kz fun a hE=>?_
 have hW:=WOk.start w Nil
 refine qad [0,1] kz ?_
 refine qal (qbj hW hE (d:=1) (cs:=[.int .i64 n1,.slice A6 s2.length c7,.bool b3,.slice A8 l4.length c9,.slice ap u5.length ar]) kz fun bF fk fm dY dZ d5 cY cZ=>?_)
 refine qal (qaU cY cZ (d:=2) (cs:=[.int .i64 0,.slice none 0 0,.bool false,.slice none 0 0,.slice none 0 0]) kz fun bG fo fq d6 d7 d8 bI c5=>?_)
 refine qae (qab ?_)
 refine qad [0,1,2,3,4,5,6,7,8] kz ?_
 refine qaj [0,1,2,3,4,5,6] [7,8] [(1,.p 0 0),(2,.p 1 0),(14,.v (.agg #[.int .i64 n1,.slice A6 s2.length c7,.bool b3,.slice none 0 0,.slice none 0 0]))] bI c5 fun fr c6=>?_
 refine qal (qaU bI c6 (d:=3) (cs:=[.int .i64 0,.slice none 0 0,.bool false,.slice none 0 0,.slice none 0 0]) kz fun bH ft fu d9 ea eb da db=>?_)
 refine qal (qau da db (oi:=2) (cs:=[.int .i64 n1,.slice A6 s2.length c7,.bool b3,.slice none 0 0,.slice none 0 0]) kz fun fv ec bz dc=>?_)
 refine qae (qab ?_)
 refine wp_seq ?_
 refine qap [(1,.p 0 0),(2,.p 1 0),(3,.p 2 0),(16,.v (.slice A8 l4.length c9)),(17,.v (.int .i64 ((l4.length:Nat):Int))),(18,.v (.int .i64 0))] bz dc fun fw de=>?_
 refine wp_block ?_
 have bJ:=bz.addNil 26 5
 have ee:=bz.frNil 26 5
 refine wp_loop_ghost (fun n_ a_ w_=>∃ (k:Nat) (A_:Option Addr) (c_:Nat) (xs:List Value) (css:List (List Value)),n_ = l4.length - k ∧ k ≤ l4.length ∧ (Trees w_ (Imm F w w_ [⟨bF,0,[.int .i64 n1,.slice A6 s2.length c7,.bool b3,.slice A8 l4.length c9,.slice ap u5.length ar],true⟩,⟨bG,0,[.int .i64 0,.slice none 0 0,.bool false,.slice none 0 0,.slice none 0 0],true⟩,⟨bH,0,[.int .i64 n1,.slice A6 s2.length c7,.bool b3,.slice A_ k c_,.slice none 0 0],true⟩] [⟨A_,c_,26,5,k,xs⟩]) xs (l4.take k) css) ∧ LInv bJ 49 [⟨bF,0,[.int .i64 n1,.slice A6 s2.length c7,.bool b3,.slice A8 l4.length c9,.slice ap u5.length ar],true⟩,⟨bG,0,[.int .i64 0,.slice none 0 0,.bool false,.slice none 0 0,.slice none 0 0],true⟩,⟨bH,0,[.int .i64 n1,.slice A6 s2.length c7,.bool b3,.slice A_ k c_,.slice none 0 0],true⟩] [⟨A_,c_,26,5,k,xs⟩] [(1,.p 0 0),(2,.p 1 0),(3,.p 2 0),(16,.v (.slice A8 l4.length c9)),(17,.v (.int .i64 ((l4.length:Nat):Int))),(18,.v (.int .i64 ((k:Nat):Int)))] a_ w_) (l4.length) ⟨0,none,0,[],[],by omega,by omega,Trees.nil _ _,de.pk,bJ,Fr.refl _ _ _⟩ ?_
 rintro fx fy fz ⟨k,A_,c_,xs,css,ef,eg,hT,df,aw,dg⟩
 refine qap [(1,.p 0 0),(2,.p 1 0),(3,.p 2 0),(16,.v (.slice A8 l4.length c9)),(17,.v (.int .i64 ((l4.length:Nat):Int))),(18,.v (.int .i64 ((k:Nat):Int))),(19,.v (.bool (decide (((k:Nat):Int) < ((l4.length:Nat):Int)))))] aw df fun fA bA=>?_
 refine wp_seq ?_
 refine qav bA (b:=decide (((k:Nat):Int) < ((l4.length:Nat):Int))) kz (fun bB=>?_) (fun bB=>?_)
 ·
  have eh:=of_decide_eq_true bB
  refine wp_skip ?_
  refine qab ?_
  refine wp_seq ?_
  refine wp_block ?_
  refine qad [0,1,2,3] kz ?_
  obtain ⟨ei,ej,dh,ek,bf⟩:=Slots.get dx (i:=k) (by omega)
  obtain ⟨em,bC⟩:∃ x,l4[k]? = some x:=⟨_,List.getElem?_eq_getElem (by omega)⟩
  have bD:=dU k em bC
  obtain ⟨bK,bL,bM,bN,bO,bP,bQ,bR,bS,bT,bU,eo,rfl,bg,ep,eu,fB,fC⟩:=bD.open_
  rw [bg] at bD
  have dC:=ep.small
  have dD:=eu.small
  rw [bg] at bf
  refine qal (qaA bA (t:=34) (A:=A8) (m:=l4.length) (q:=((k:Nat):Int)) (d:=20) kz (e:=37) (size:=5) (bytes:=88) kz dh rfl (by omega) fun fD bV=>?_)
  refine qal (qaR bV (t:=37) (b:=ei) (o:=ej + k * 5) (d:=21) kz (cs:=[.int .i64 bK,.slice bP bL.length bQ,.bool bM,.slice bR bN.length bS,.slice bT bO.length bU]) (v:=.agg #[.int .i64 bK,.slice bP bL.length bQ,.bool bM,.slice bR bN.length bS,.slice bT bO.length bU]) kz (AtF.move bf aw.step nilM qbb).at_ fun ev bW=>?_)
  refine qal (qaU aw bW (d:=5) (cs:=[.int .i64 0,.slice none 0 0,.bool false,.slice none 0 0,.slice none 0 0]) kz fun ew ey ez dE dF ax bX bY=>?_)
  refine qal (qau bX bY (oi:=3) (cs:=[.int .i64 bK,.slice bP bL.length bQ,.bool bM,.slice bR bN.length bS,.slice bT bO.length bU]) kz fun eB ay bZ b8=>?_)
  refine qae (qab ?_)
  refine qcG 7 kz bZ fun eC az ag cd=>?_
  refine qaE [0,1,2] [(1,.p 0 0),(2,.p 1 0),(3,.p 2 0),(16,.v (.slice A8 l4.length c9)),(17,.v (.int .i64 ((l4.length:Nat):Int))),(18,.v (.int .i64 ((k:Nat):Int))),(23,.v (.slice A_ k c_)),(24,.v (.agg #[.int .i64 bK,.slice bP bL.length bQ,.bool bM,.slice bR bN.length bS,.slice bT bO.length bU]))] 5 (qac (qaa (qaa (qac (qaa qaf))))) (fun _ h=>h.cells) cd b8 fun eD ce=>?_
  refine qas (i:=3) kz (qak ce (f:=15) (vs:=[.agg #[.int .i64 bK,.slice bP bL.length bQ,.bool bM,.slice bR bN.length bS,.slice bT bO.length bU]]) (d:=25) kz Tryz.call15 ( hg _ _ _ _ (bD.move ag.step nilM ag.imm) (by have h_:=qhq bC; rw [qgx] at hd; omega)) ?_)
  rintro e_ eE ⟨dG,rfl,cm,aA⟩
  have aB:=cm.move (Step.refl _ Nil) nilM (ag.laid (G:=F) aA)
  obtain ⟨aC,aD,aE,aF,aG,aH,aI,aJ,aK,aL,aM,dH,dI,aN,di,dj,eF,eG⟩:=aB.open_
  rw [aN] at aB
  have dl:=di.small
  have dp:=dj.small
  rw [aN]
  refine ⟨_,rfl,fun eH cq=>?_⟩
  have bh:=ag.next_nil aA
  have ae:=ag.frN aA
  have cr:=TT.ofW ae bh
  refine ⟨fun _=>cr,?_⟩
  refine qas (i:=4) kz (qbs bh cq (e:=26) (size:=5) (len:=1) (cs:=[.int .i64 aC,.slice aH aD.length aI,.bool aE,.slice aJ aF.length aK,.slice aL aG.length aM]) (d:=26) kz kz fun dq eI eJ dJ dK aa au cu=>?_)
  have cw:=TT.ofW (ae.trans aa) au
  refine ⟨fun _=>cw,?_⟩
  refine qas (i:=5) kz (qaV au cu (k:=0) (d:=27) (t:=23) (e:=26) (size:=5) (bytes:=88) (A:=A_) (As:=(some ⟨dq,0,none⟩)) (m0:=k) (c:=c_) (m:=1) (cs:=1) (xs:=xs) (news:=[.int .i64 aC,.slice aH aD.length aI,.bool aE,.slice aJ aF.length aK,.slice aL aG.length aM]) kz kz rfl (qbz (au.own 1 _ rfl) (qbu kz)) (qbE (au.own 1 _ rfl)) (by omega) fun aO aP eK eL af bi cz=>?_)
  have bj:=TT.ofW ((ae.trans aa).trans af) bi
  refine ⟨fun _=>bj,?_⟩
  refine qaE [6] [(1,.p 0 0),(2,.p 1 0),(3,.p 2 0),(16,.v (.slice A8 l4.length c9)),(17,.v (.int .i64 ((l4.length:Nat):Int))),(18,.v (.int .i64 ((k:Nat):Int))),(27,.v (.slice aO (k + 1) aP)),(28,.p 2 3)] 1 (qac (qaa (qaa (qac (qaa qaf))))) (fun _ h=>h.cells) bj cz fun eM cA=>?_
  refine qas (i:=7) kz (qau bi cA (oi:=2) (cs:=[.int .i64 n1,.slice A6 s2.length c7,.bool b3,.slice aO (k + 1) aP,.slice none 0 0]) kz fun eN ah bk cB=>?_)
  refine ⟨fun h=>absurd rfl h,?_⟩
  refine qaC kz ?_ _
  refine qar ?_
  refine qab ?_
  refine qaq [0,1] kz ?_
  refine qaj [0,1] [] [(1,.p 0 0),(2,.p 1 0),(3,.p 2 0),(16,.v (.slice A8 l4.length c9)),(17,.v (.int .i64 ((l4.length:Nat):Int))),(18,.v (.int .i64 (IntKind.i64.wrap (((k:Nat):Int) + 1))))] bk cB fun eO cC=>?_
  refine qae (qab ?_)
  obtain ⟨bn,cD,ai⟩:=bk.cutB cC 3 [⟨bF,0,[.int .i64 n1,.slice A6 s2.length c7,.bool b3,.slice A8 l4.length c9,.slice ap u5.length ar],true⟩,⟨bG,0,[.int .i64 0,.slice none 0 0,.bool false,.slice none 0 0,.slice none 0 0],true⟩,⟨bH,0,[.int .i64 n1,.slice A6 s2.length c7,.bool b3,.slice aO (k + 1) aP,.slice none 0 0],true⟩] [(1,.p 0 0),(2,.p 1 0),(3,.p 2 0),(16,.v (.slice A8 l4.length c9)),(17,.v (.int .i64 ((l4.length:Nat):Int))),(18,.v (.int .i64 (IntKind.i64.wrap (((k:Nat):Int) + 1))))]
  obtain ⟨cE,aj⟩:=cD.cutR 1 [⟨aO,aP,26,5,k + 1,xs ++ [.int .i64 aC,.slice aH aD.length aI,.bool aE,.slice aJ aF.length aK,.slice aL aG.length aM]⟩]
  have cG:IntKind.i64.wrap (((k:Nat):Int) + 1) = ((k + 1:Nat):Int):=qaP (by omega)
  rw [cG] at bn
  exact ⟨l4.length - (k + 1),by omega,k + 1,aO,aP,xs ++ [Value.int .i64 aC,.slice aH aD.length aI,.bool aE,.slice aJ aF.length aK,.slice aL aG.length aM],(css ++ [[Value.int .i64 aC,.slice aH aD.length aI,.bool aE,.slice aJ aF.length aK,.slice aL aG.length aM]]),rfl,by omega,by rw [qcZ bC]; exact (hT.move ((((((((ax.trans ay).trans az).trans ae).trans aa).trans af).trans ah).trans ai).trans aj).step immM ((((((((ax.trans ay).trans az).trans ae).trans aa).trans af).trans ah).trans ai).trans aj).to').snoc (aB.move ((((aa.trans af).trans ah).trans ai).trans aj).step immM ((((aa.trans af).trans ah).trans ai).trans aj).to'),bn.pk,cE,(((((((((dg.trans ax).trans ay).trans az).trans ae).trans aa).trans af).trans ah).trans ai).trans aj)⟩
 have dL:=of_decide_eq_false bB
 refine wp_exit ?_
 refine qaw ?_
 refine qaw ?_
 refine qaL ?_
 refine qab ?_
 refine wp_seq ?_
 refine qap [(2,.p 1 0),(3,.p 2 0),(31,.v (.slice ap u5.length ar)),(32,.v (.int .i64 ((u5.length:Nat):Int))),(33,.v (.int .i64 0))] aw bA fun eP cH=>?_
 refine wp_block ?_
 have hk0:k = l4.length:=by omega
 have bo:=aw.addNil 66 2
 have bp:=aw.frNil 66 2
 refine wp_loop_ghost (fun n_ a_ w_=>∃ (q:Nat) (A5_:Option Addr) (c5_:Nat) (ys:List Value) (dss:List (List Value)),n_ = u5.length - q ∧ q ≤ u5.length ∧ (Tags w_ (Imm F w w_ [⟨bF,0,[.int .i64 n1,.slice A6 s2.length c7,.bool b3,.slice A8 l4.length c9,.slice ap u5.length ar],true⟩,⟨bG,0,[.int .i64 0,.slice none 0 0,.bool false,.slice none 0 0,.slice none 0 0],true⟩,⟨bH,0,[.int .i64 n1,.slice A6 s2.length c7,.bool b3,.slice A_ k c_,.slice A5_ q c5_],true⟩] [⟨A_,c_,26,5,k,xs⟩,⟨A5_,c5_,66,2,q,ys⟩]) ys (u5.take q) dss) ∧ LInv bo 49 [⟨bF,0,[.int .i64 n1,.slice A6 s2.length c7,.bool b3,.slice A8 l4.length c9,.slice ap u5.length ar],true⟩,⟨bG,0,[.int .i64 0,.slice none 0 0,.bool false,.slice none 0 0,.slice none 0 0],true⟩,⟨bH,0,[.int .i64 n1,.slice A6 s2.length c7,.bool b3,.slice A_ k c_,.slice A5_ q c5_],true⟩] [⟨A_,c_,26,5,k,xs⟩,⟨A5_,c5_,66,2,q,ys⟩] [(2,.p 1 0),(3,.p 2 0),(31,.v (.slice ap u5.length ar)),(32,.v (.int .i64 ((u5.length:Nat):Int))),(33,.v (.int .i64 ((q:Nat):Int)))] a_ w_) (u5.length) ⟨0,none,0,[],[],by omega,by omega,Tags.nil _ _,cH.pk,bo,Fr.refl _ _ _⟩ ?_
 rintro eQ eR eS ⟨q,A5_,c5_,ys,dss,dM,dN,hU,cI,ak,aQ⟩
 refine qap [(2,.p 1 0),(3,.p 2 0),(31,.v (.slice ap u5.length ar)),(32,.v (.int .i64 ((u5.length:Nat):Int))),(33,.v (.int .i64 ((q:Nat):Int))),(34,.v (.bool (decide (((q:Nat):Int) < ((u5.length:Nat):Int)))))] ak cI fun eU aR=>?_
 refine wp_seq ?_
 refine qav aR (b:=decide (((q:Nat):Int) < ((u5.length:Nat):Int))) kz (fun aS=>?_) (fun aS=>?_)
 ·
  have dO:=of_decide_eq_true aS
  refine wp_skip ?_
  refine qab ?_
  refine wp_seq ?_
  refine wp_block ?_
  refine qad [0,1,2,3] kz ?_
  obtain ⟨dr,dt,cJ,dP,aT⟩:=Slots.get dA (i:=q) (by omega)
  obtain ⟨⟨ab,ac⟩,bq⟩:∃ x,u5[q]? = some x:=⟨_,List.getElem?_eq_getElem (by omega)⟩
  obtain ⟨⟨al,am,bE,cK⟩,du,dv⟩:=dX q ab ac bq
  rw [bE] at aT
  refine qal (qaA aR (t:=35) (A:=ap) (m:=u5.length) (q:=((q:Nat):Int)) (d:=35) kz (e:=69) (size:=2) (bytes:=32) kz cJ rfl (by omega) fun eV cL=>?_)
  refine qal (qaR cL (t:=69) (b:=dr) (o:=dt + q * 2) (d:=36) kz (cs:=[.int .u32 ab,.slice al ac.length am]) (v:=.agg #[.int .u32 ab,.slice al ac.length am]) kz (AtF.move aT ak.step nilM qbb).at_ fun eW cM=>?_)
  refine qal (qaU ak cM (d:=7) (cs:=[.int .u32 0,.slice none 0 0]) kz fun eX eY eZ dQ dR aU cN cO=>?_)
  refine qal (qau cN cO (oi:=3) (cs:=[.int .u32 ab,.slice al ac.length am]) kz fun e9 aV bt cP=>?_)
  refine qae (qab ?_)
  refine qaq [0,1,2,3,4,5,6,7,8,9,10] kz ?_
  refine qaj [0,1,2,3,4,5,6] [7,8,9,10] [(2,.p 1 0),(3,.p 2 0),(31,.v (.slice ap u5.length ar)),(32,.v (.int .i64 ((u5.length:Nat):Int))),(33,.v (.int .i64 ((q:Nat):Int))),(38,.v (.slice A5_ q c5_)),(43,.v (.agg #[.int .u32 ab,.slice al ac.length am]))] bt cP fun fa cQ=>?_
  refine qcC bt cQ (k:=1) (e:=66) (size:=2) (len:=1) (cs:=[.int .u32 ab,.slice al ac.length am]) (d1:=44) (d:=45) kz (t:=24) (bytes:=32) kz (fun _=>by kernel_rfl) rfl kz (by omega) fun ba bd fb fe aW bu ⟨_,cR⟩=>?_
  refine qaj [9] [10] [(2,.p 1 0),(3,.p 2 0),(31,.v (.slice ap u5.length ar)),(32,.v (.int .i64 ((u5.length:Nat):Int))),(33,.v (.int .i64 ((q:Nat):Int))),(45,.v (.slice ba (q + 1) bd)),(46,.p 2 4)] bu cR fun ff cS=>?_
  refine qal (qau bu cS (oi:=2) (cs:=[.int .i64 n1,.slice A6 s2.length c7,.bool b3,.slice A_ k c_,.slice ba (q + 1) bd]) kz fun fg aX bw cT=>?_)
  refine qae ?_
  refine qar ?_
  refine qab ?_
  refine qaq [0,1] kz ?_
  refine qaj [0,1] [] [(2,.p 1 0),(3,.p 2 0),(31,.v (.slice ap u5.length ar)),(32,.v (.int .i64 ((u5.length:Nat):Int))),(33,.v (.int .i64 (IntKind.i64.wrap (((q:Nat):Int) + 1))))] bw cT fun fh cU=>?_
  refine qae (qab ?_)
  obtain ⟨bx,aY,aZ⟩:=bw.cutB cU 3 [⟨bF,0,[.int .i64 n1,.slice A6 s2.length c7,.bool b3,.slice A8 l4.length c9,.slice ap u5.length ar],true⟩,⟨bG,0,[.int .i64 0,.slice none 0 0,.bool false,.slice none 0 0,.slice none 0 0],true⟩,⟨bH,0,[.int .i64 n1,.slice A6 s2.length c7,.bool b3,.slice A_ k c_,.slice ba (q + 1) bd],true⟩] [(2,.p 1 0),(3,.p 2 0),(31,.v (.slice ap u5.length ar)),(32,.v (.int .i64 ((u5.length:Nat):Int))),(33,.v (.int .i64 (IntKind.i64.wrap (((q:Nat):Int) + 1))))]
  have cV:IntKind.i64.wrap (((q:Nat):Int) + 1) = ((q + 1:Nat):Int):=qaP (by omega)
  rw [cV] at bx
  exact ⟨u5.length - (q + 1),by omega,q + 1,ba,bd,ys ++ [Value.int .u32 ab,.slice al ac.length am],(dss ++ [[Value.int .u32 ab,.slice al ac.length am]]),rfl,by omega,by rw [qcZ bq]; exact (hU.move ((((aU.trans aV).trans aW).trans aX).trans aZ).step immM ((((aU.trans aV).trans aW).trans aX).trans aZ).to').snoc (c:=[.int .u32 ab,.slice al ac.length am]) (x:=(ab,ac)) ⟨⟨_,_,rfl,(cK.move aY.step nilM aY.imm)⟩,du,dv⟩,bx.pk,aY,(((((aQ.trans aU).trans aV).trans aW).trans aX).trans aZ)⟩
 have dS:=of_decide_eq_false aS
 refine wp_exit ?_
 refine qaw ?_
 refine qaw ?_
 refine qaL ?_
 refine qab ?_
 refine qad [0,1] kz ?_
 refine qaj [0] [1] [(2,.p 1 0),(48,.v (.agg #[.int .i64 n1,.slice A6 s2.length c7,.bool b3,.slice A_ k c_,.slice A5_ q c5_]))] ak aR fun fi cW=>?_
 refine qal (qau ak cW (oi:=1) (cs:=[.int .i64 n1,.slice A6 s2.length c7,.bool b3,.slice A_ k c_,.slice A5_ q c5_]) kz fun fj av ao cX=>?_)
 refine qae (qab ?_)
 refine wp_ret ?_
 refine qaK cX ao.cells (v:=.agg #[.int .i64 n1,.slice A6 s2.length c7,.bool b3,.slice A_ k c_,.slice A5_ q c5_]) kz ?_
 have hq0:q = u5.length:=by omega
 have hT':=(hT.move ((bp.trans aQ).trans av).step immM ((bp.trans aQ).trans av).to')
 have hU':=(hU.move av.step immM av.to')
 rw [show l4.take k = l4 by rw [hk0,List.take_length]] at hT'
 rw [show u5.take q = u5 by rw [hq0,List.take_length]] at hU'
 exact qjV ao rfl (dw.move ao.step nilM qkM) hk0 (qhr ao (k:=0) rfl hT' hk0 (by omega)) hq0 (qkL ao (k:=1) rfl hU' hq0 (by omega)) rfl
theorem lGot:∀ m,qlB m
 | 0=>fun ct t w F ht hd=>by
  obtain ⟨n,s,b,l,u,A1,c1,A2,c2,A3,c3,xs,rfl,_⟩:=ht.open_
  rw [qgx] at hd; omega
 | m + 1=>qju (lGot m)
theorem qhi {u:List (Int × Bs)} {A:Option Addr} {c:Nat} {w:World} {F:Nat → Nat → Prop} (hu:TagsR w F A c u) (hsrt:qc9 u):Calls Tryz.prog 66 #[.slice A u.length c] w (qci w (.tuple #[])):=by
 obtain ⟨cs1,h2,h3⟩:=hu.ex
 have hsm4:=h2.small
 refine enter (n:=45) Tryz.func66 rfl Tryz.ntmps66 kz fun a hE=>?_
 have hW:=WOk.start w Nil
 refine qap [(0,.v (.slice A u.length c)),(5,.v (.int .i64 ((u.length:Nat):Int))),(6,.v (.int .i64 0))] hW hE fun a5 hE6=>?_
 refine wp_block ?_
 refine wp_loop_ghost (fun n_ a_ w_=>∃ (k:Nat),n_ = u.length - k ∧ k ≤ u.length ∧ LInv hW 45 [] [] [(0,.v (.slice A u.length c)),(5,.v (.int .i64 ((u.length:Nat):Int))),(6,.v (.int .i64 ((k:Nat):Int)))] a_ w_) (u.length) ⟨0,by omega,by omega,hE6.pk,hW,Fr.refl _ _ _⟩ ?_
 rintro n7 a8 w9 ⟨k,aW,aX,aB,ab,aj⟩
 refine qap [(0,.v (.slice A u.length c)),(5,.v (.int .i64 ((u.length:Nat):Int))),(6,.v (.int .i64 ((k:Nat):Int))),(7,.v (.bool (decide (((k:Nat):Int) < ((u.length:Nat):Int)))))] ab aB fun bn ah=>?_
 refine wp_seq ?_
 refine qav ah (b:=decide (((k:Nat):Int) < ((u.length:Nat):Int))) kz (fun ai=>?_) (fun ai=>?_)
 ·
  have aY:=of_decide_eq_true ai
  refine wp_skip ?_
  refine qab ?_
  refine wp_seq ?_
  refine wp_block ?_
  refine qap [(0,.v (.slice A u.length c)),(2,.v (.int .i64 ((k:Nat):Int))),(5,.v (.int .i64 ((u.length:Nat):Int))),(6,.v (.int .i64 ((k:Nat):Int)))] ab ah fun bo aC=>?_
  refine qap [(0,.v (.slice A u.length c)),(3,.v (.int .i64 ((k:Nat):Int))),(5,.v (.int .i64 ((u.length:Nat):Int))),(6,.v (.int .i64 ((k:Nat):Int)))] ab aC fun bp aD=>?_
  refine wp_block ?_
  refine qeT ?_
  refine wp_seq ?_
  refine qb4 kz ab fun bq ak aa=>?_
  refine qaE [0,1,2] [(0,.v (.slice A u.length c)),(3,.v (.int .i64 ((k:Nat):Int))),(5,.v (.int .i64 ((u.length:Nat):Int))),(6,.v (.int .i64 ((k:Nat):Int))),(12,.v (.bool (decide (((k:Nat):Int) > 0))))] 13 (qaa (qaa (qaa (qac (qac (qaa (qaa (qac qaf)))))))) (fun _ h=>h ▸ aa.cells) rfl aD fun bt al=>?_
  refine (Bool.eq_false_or_eq_true (decide (((k:Nat):Int) > 0))).elim (fun ac=>?_) (fun ac=>?_)
  ·
   have aZ:=of_decide_eq_true ac
   have aE:=al.cast (env':=[(0,.v (.slice A u.length c)),(3,.v (.int .i64 ((k:Nat):Int))),(5,.v (.int .i64 ((u.length:Nat):Int))),(6,.v (.int .i64 ((k:Nat):Int))),(12,.v (.bool true))]) (by rw [ac])
   refine qaE [3,4,8,9,10] [(0,.v (.slice A u.length c)),(3,.v (.int .i64 ((k:Nat):Int))),(5,.v (.int .i64 ((u.length:Nat):Int))),(6,.v (.int .i64 ((k:Nat):Int))),(12,.v (.bool true)),(13,.v (.slice A u.length c)),(14,.v (.int .i64 ((k:Nat):Int))),(18,.v (.slice A u.length c)),(20,.v (.int .i64 (IntKind.i64.wrap (((k:Nat):Int) - 1))))] 8 (qaa (qaa (qaa (qac (qac (qaa (qaa (qac qaf)))))))) (fun _ h=>h ▸ aa.cells) rfl aE fun bu aF=>?_
   obtain ⟨az,aA,aG,ba,ae⟩:=Slots.get h2 (i:=k) (by omega)
   obtain ⟨⟨af,bd⟩,am⟩:∃ x,u[k]? = some x:=⟨_,List.getElem?_eq_getElem (by omega)⟩
   obtain ⟨⟨bw,bx,ao,bf⟩,bz,bA⟩:=h3 k af bd am
   rw [ao] at ae
   refine qaQ aF (i:=5) (t:=35) (A:=A) (m:=u.length) (q:=((k:Nat):Int)) (d:=15) kz (e:=69) (size:=2) (bytes:=32) kz aG rfl (by omega) kz kz (qaa (qaa (qaa (qac (qac (qaa (qaa (qac qaf)))))))) rfl fun bB aH=>?_
   refine qaE [6] [(0,.v (.slice A u.length c)),(3,.v (.int .i64 ((k:Nat):Int))),(5,.v (.int .i64 ((u.length:Nat):Int))),(6,.v (.int .i64 ((k:Nat):Int))),(12,.v (.bool true)),(16,.v (.pointer (some ⟨az,aA + k * 2,none⟩))),(18,.v (.slice A u.length c)),(20,.v (.int .i64 (IntKind.i64.wrap (((k:Nat):Int) - 1))))] 6 (qaa (qaa (qaa (qac (qac (qaa (qaa (qac qaf)))))))) (fun _ h=>h ▸ aa.cells) rfl aH fun bC aI=>?_
   refine qa8 aI (i:=7) (t:=64) (b:=az) (o:=aA + k * 2) (d:=17) kz (cs:=[.int .u32 af]) (v:=.int .u32 af) kz (fun w' h'=>h' ▸ (At.drop (AtF.move ae aa.step nilM qbb).at_ 0 1)) kz kz (qaa (qaa (qaa (qac (qac (qaa (qaa (qac qaf)))))))) rfl fun bD aJ=>?_
   have aK:IntKind.i64.wrap (((k:Nat):Int) - 1) = (((k - 1):Nat):Int):=by simp only [qcL,qay,qbC,IntKind.wrap_i64,IntKind.wrap_i32]; omega
   have aL:=EnvOk.pick aJ (ks:=[0,3,5,6,12,16,18,20,17]) (env':=[(0,.v (.slice A u.length c)),(3,.v (.int .i64 ((k:Nat):Int))),(5,.v (.int .i64 ((u.length:Nat):Int))),(6,.v (.int .i64 ((k:Nat):Int))),(12,.v (.bool true)),(16,.v (.pointer (some ⟨az,aA + k * 2,none⟩))),(18,.v (.slice A u.length c)),(20,.v (.int .i64 (IntKind.i64.wrap (((k:Nat):Int) - 1)))),(17,.v (.int .u32 af))]) kz
   have aM:=aL.cast (env':=[(0,.v (.slice A u.length c)),(3,.v (.int .i64 ((k:Nat):Int))),(5,.v (.int .i64 ((u.length:Nat):Int))),(6,.v (.int .i64 ((k:Nat):Int))),(12,.v (.bool true)),(16,.v (.pointer (some ⟨az,aA + k * 2,none⟩))),(18,.v (.slice A u.length c)),(20,.v (.int .i64 (((k - 1):Nat):Int))),(17,.v (.int .u32 af))]) (by rw [aK])
   obtain ⟨aU,aV,aN,bg,ag⟩:=Slots.get h2 (i:=(k - 1)) (by omega)
   obtain ⟨⟨ap,bh⟩,ar⟩:∃ x,u[(k - 1)]? = some x:=⟨_,List.getElem?_eq_getElem (by omega)⟩
   obtain ⟨⟨bE,bF,au,bi⟩,bG,bH⟩:=h3 (k - 1) ap bh ar
   rw [au] at ag
   refine qaQ aM (i:=11) (t:=35) (A:=A) (m:=u.length) (q:=(((k - 1):Nat):Int)) (d:=21) kz (e:=69) (size:=2) (bytes:=32) kz aN rfl (by omega) kz kz (qaa (qaa (qaa (qac (qac (qaa (qaa (qac qaf)))))))) rfl fun bI aO=>?_
   refine qaE [12] [(0,.v (.slice A u.length c)),(3,.v (.int .i64 ((k:Nat):Int))),(5,.v (.int .i64 ((u.length:Nat):Int))),(6,.v (.int .i64 ((k:Nat):Int))),(12,.v (.bool true)),(17,.v (.int .u32 af)),(22,.v (.pointer (some ⟨aU,aV + (k - 1) * 2,none⟩)))] 3 (qaa (qaa (qaa (qac (qac (qaa (qaa (qac qaf)))))))) (fun _ h=>h ▸ aa.cells) rfl aO fun bJ aP=>?_
   refine qa8 aP (i:=13) (t:=64) (b:=aU) (o:=aV + (k - 1) * 2) (d:=23) kz (cs:=[.int .u32 ap]) (v:=.int .u32 ap) kz (fun w' h'=>h' ▸ (At.drop (AtF.move ag aa.step nilM qbb).at_ 0 1)) kz kz (qaa (qaa (qaa (qac (qac (qaa (qaa (qac qaf)))))))) rfl fun bK aQ=>?_
   refine qaE [14,15] [(0,.v (.slice A u.length c)),(3,.v (.int .i64 ((k:Nat):Int))),(5,.v (.int .i64 ((u.length:Nat):Int))),(6,.v (.int .i64 ((k:Nat):Int))),(25,.v (.bool (decide (af < ap))))] 0 (qaa (qaa (qaa (qac (qac (qaa (qaa (qac qaf)))))))) (fun _ h=>h ▸ aa.cells) rfl aQ fun bL av=>?_
   refine qaC kz ?_ _
   refine qab ?_
   refine qao av (b:=decide (af < ap)) kz (decide_eq_false (qik hsrt am ar (by omega))) ?_
   refine wp_exit ?_
   refine qaw ?_
   refine qaw ?_
   refine qaL ?_
   refine qar ?_
   refine qab ?_
   refine qaq [0,1] kz ?_
   refine qaj [0,1] [] [(0,.v (.slice A u.length c)),(5,.v (.int .i64 ((u.length:Nat):Int))),(6,.v (.int .i64 (IntKind.i64.wrap (((k:Nat):Int) + 1))))] aa av fun bM aw=>?_
   refine qae (qab ?_)
   have aR:IntKind.i64.wrap (((k:Nat):Int) + 1) = ((k + 1:Nat):Int):=qaP (by omega)
   rw [aR] at aw
   exact ⟨u.length - (k + 1),by omega,k + 1,rfl,by omega,aw.pk,aa,(aj.trans ak)⟩
  have bj:=of_decide_eq_false ac
  have aS:=al.cast (env':=[(0,.v (.slice A u.length c)),(3,.v (.int .i64 ((k:Nat):Int))),(5,.v (.int .i64 ((u.length:Nat):Int))),(6,.v (.int .i64 ((k:Nat):Int))),(12,.v (.bool false))]) (by rw [ac])
  refine qaE [3,4,5,6,7,8,9,10,11,12,13,14,15] [(0,.v (.slice A u.length c)),(3,.v (.int .i64 ((k:Nat):Int))),(5,.v (.int .i64 ((u.length:Nat):Int))),(6,.v (.int .i64 ((k:Nat):Int))),(25,.v (.bool false))] 0 (qaa (qaa (qaa (qac (qac (qaa (qaa (qac qaf)))))))) (fun _ h=>h ▸ aa.cells) rfl aS fun bN ax=>?_
  refine qaC kz ?_ _
  refine qab ?_
  refine qao ax (b:=false) kz rfl ?_
  refine wp_exit ?_
  refine qaw ?_
  refine qaw ?_
  refine qaL ?_
  refine qar ?_
  refine qab ?_
  refine qaq [0,1] kz ?_
  refine qaj [0,1] [] [(0,.v (.slice A u.length c)),(5,.v (.int .i64 ((u.length:Nat):Int))),(6,.v (.int .i64 (IntKind.i64.wrap (((k:Nat):Int) + 1))))] aa ax fun bO ay=>?_
  refine qae (qab ?_)
  have aT:IntKind.i64.wrap (((k:Nat):Int) + 1) = ((k + 1:Nat):Int):=qaP (by omega)
  rw [aT] at ay
  exact ⟨u.length - (k + 1),by omega,k + 1,rfl,by omega,ay.pk,aa,(aj.trans ak)⟩
 have bk:=of_decide_eq_false ai
 refine wp_exit ?_
 refine qaw ?_
 refine qaw ?_
 refine qaL ?_
 refine qbN ah ab.cells (v:=.tuple #[]) kz ?_
 exact ⟨rfl,ab.step⟩
theorem qeD:qfk Tryz.prog 65 69:=by
 intro w B cp c n k A Av x x0 x1 x2 x3 xs G hbx ho hG hn
 refine enter (n:=14) Tryz.func65 rfl Tryz.ntmps65 kz fun a hE=>?_
 have hW:=hbx.wok
 have hE0:=(hE.grow ⟨B,0,[x0,x1,x2,x3,.slice A n cp],true⟩).recast 2 (.v (.pointer (some ⟨B,0,none⟩))) (.p 0 0) rfl rfl (by simp [SV.ok])
 have hsm:=Slots.small ho
 have ap:=hE0.pk (env':=[(0,.v (.int .u32 k)),(1,.v (.slice Av x.length c)),(2,.p 0 0)])
 refine qcG 9 kz hW fun w1 hF2 hW3 hT4=>?_
 refine qaE [0,1,2,3] [(2,.p 0 0),(6,.v (.slice A n cp)),(7,.v (.int .u32 k)),(8,.v (.slice Av x.length c))] 6 qaf (fun _ h=>h.cells) hT4 ap fun a5 hE6=>?_
 have hW7:=hW3.addNil 5 1
 have hF8:=hW3.frNil 5 1
 refine qas (i:=4) kz (qaV hW7 hE6 (k:=1) (d:=9) (t:=22) (e:=5) (size:=1) (bytes:=1) (A:=none) (As:=Av) (m0:=0) (c:=0) (m:=x.length) (cs:=c) (xs:=[]) (news:=bc x) kz kz rfl (ho.move hW7.step (fun b o h _=>hG b o h) qbb).src (ho.move hW7.step (fun b o h _=>hG b o h) qbb).cap (by first | omega | (simp only [List.length_nil]; omega) | (simp; omega)) fun A9 aa aK aL ac ar au=>?_)
 have av:(⟨A9,aa,5,1,0 + x.length,[] ++ bc x⟩:Rw) = brow A9 aa 5 x:=by rw [List.nil_append,Nat.zero_add]
 obtain ⟨af,ae⟩:=ar.rowEq 1 [⟨A,cp,69,2,n,xs⟩,brow A9 aa 5 x] av
 have aw:=EnvOk.pick au (ks:=[2,6,7,8,9]) (env':=[(2,.p 0 0),(6,.v (.slice A n cp)),(7,.v (.int .u32 k)),(8,.v (.slice Av x.length c)),(9,.v (.slice A9 (0 + x.length) aa))]) kz
 have ax:=aw.cast (env':=[(2,.p 0 0),(6,.v (.slice A n cp)),(7,.v (.int .u32 k)),(8,.v (.slice Av x.length c)),(9,.v (.slice A9 x.length aa))]) (by simp only [List.length_append,List.length_cons,List.length_nil,Nat.zero_add])
 have ag:=TT.ofW ((hF8.trans ac).trans ae) af
 refine ⟨fun _=>ag,?_⟩
 refine qaE [5] [(2,.p 0 0),(6,.v (.slice A n cp)),(10,.v (.agg #[.int .u32 k,.slice A9 x.length aa]))] 4 qaf (fun _ h=>h.cells) ag ax fun aM ay=>?_
 refine qas (i:=6) kz (qbs af ay (e:=69) (size:=2) (len:=1) (cs:=[.int .u32 k,.slice A9 x.length aa]) (d:=11) kz kz fun aF aN aO aG aH ah ab az=>?_)
 have aA:=TT.ofW (((hF8.trans ac).trans ae).trans ah) ab
 refine ⟨fun _=>aA,?_⟩
 refine qas (i:=7) kz (qaV ab az (k:=0) (d:=12) (t:=35) (e:=69) (size:=2) (bytes:=32) (A:=A) (As:=(some ⟨aF,0,none⟩)) (m0:=n) (c:=cp) (m:=1) (cs:=1) (xs:=xs) (news:=[.int .u32 k,.slice A9 x.length aa]) kz kz rfl (qbz (ab.own 2 _ rfl) (qbu kz)) (qbE (ab.own 2 _ rfl)) (by first | omega | (simp only [List.length_nil]; omega) | (simp; omega)) fun am ao aP aQ aB ai aC=>?_)
 have aj:=TT.ofW ((((hF8.trans ac).trans ae).trans ah).trans aB) ai
 refine ⟨fun _=>aj,?_⟩
 refine qaE [8] [(12,.v (.slice am (n + 1) ao)),(13,.p 0 4)] 1 qaf (fun _ h=>h.cells) aj aC fun aR aD=>?_
 refine qas (i:=9) kz (qau ai aD (oi:=0) (cs:=[x0,x1,x2,x3,.slice am (n + 1) ao]) kz fun aS aI ak aE=>?_)
 refine ⟨fun h=>absurd rfl h,?_⟩
 refine qaC kz ?_ _
 refine qbN aE ak.cells (v:=.tuple #[]) kz ?_
 obtain ⟨al,aJ⟩:=ak.cutR 2 [⟨am,ao,69,2,n + 1,xs ++ [.int .u32 k,.slice A9 x.length aa]⟩,brow A9 aa 5 x]
 have hoo:=qej (s:=x) (Av:=A9) (c:=aa) (e8:=5) rfl al (by omega)
 obtain ⟨hb1,hb2,hb3⟩:=qf7 al (World.lt_of_cell (hbx.str.at_ 0 _ rfl))
 exact ⟨rfl,am,ao,A9,aa,hb1,hoo,hb2,hb3⟩
theorem qcj:qfk Tryz.prog 85 69:=by
 intro w B cp c n k A Av x x0 x1 x2 x3 xs G hbx ho hG hn
 refine enter (n:=14) Tryz.func85 rfl Tryz.ntmps85 kz fun a hE=>?_
 have hW:=hbx.wok
 have hE0:=(hE.grow ⟨B,0,[x0,x1,x2,x3,.slice A n cp],true⟩).recast 2 (.v (.pointer (some ⟨B,0,none⟩))) (.p 0 0) rfl rfl (by simp [SV.ok])
 have hsm:=Slots.small ho
 have ap:=hE0.pk (env':=[(0,.v (.int .u32 k)),(1,.v (.slice Av x.length c)),(2,.p 0 0)])
 refine qcG 9 kz hW fun w1 hF2 hW3 hT4=>?_
 refine qaE [0,1,2,3] [(2,.p 0 0),(6,.v (.slice A n cp)),(7,.v (.int .u32 k)),(8,.v (.slice Av x.length c))] 6 qaf (fun _ h=>h.cells) hT4 ap fun a5 hE6=>?_
 have hW7:=hW3.addNil 5 1
 have hF8:=hW3.frNil 5 1
 refine qas (i:=4) kz (qaV hW7 hE6 (k:=1) (d:=9) (t:=22) (e:=5) (size:=1) (bytes:=1) (A:=none) (As:=Av) (m0:=0) (c:=0) (m:=x.length) (cs:=c) (xs:=[]) (news:=bc x) kz kz rfl (ho.move hW7.step (fun b o h _=>hG b o h) qbb).src (ho.move hW7.step (fun b o h _=>hG b o h) qbb).cap (by first | omega | (simp only [List.length_nil]; omega) | (simp; omega)) fun A9 aa aK aL ac ar au=>?_)
 have av:(⟨A9,aa,5,1,0 + x.length,[] ++ bc x⟩:Rw) = brow A9 aa 5 x:=by rw [List.nil_append,Nat.zero_add]
 obtain ⟨af,ae⟩:=ar.rowEq 1 [⟨A,cp,69,2,n,xs⟩,brow A9 aa 5 x] av
 have aw:=EnvOk.pick au (ks:=[2,6,7,8,9]) (env':=[(2,.p 0 0),(6,.v (.slice A n cp)),(7,.v (.int .u32 k)),(8,.v (.slice Av x.length c)),(9,.v (.slice A9 (0 + x.length) aa))]) kz
 have ax:=aw.cast (env':=[(2,.p 0 0),(6,.v (.slice A n cp)),(7,.v (.int .u32 k)),(8,.v (.slice Av x.length c)),(9,.v (.slice A9 x.length aa))]) (by simp only [List.length_append,List.length_cons,List.length_nil,Nat.zero_add])
 have ag:=TT.ofW ((hF8.trans ac).trans ae) af
 refine ⟨fun _=>ag,?_⟩
 refine qaE [5] [(2,.p 0 0),(6,.v (.slice A n cp)),(10,.v (.agg #[.int .u32 k,.slice A9 x.length aa]))] 4 qaf (fun _ h=>h.cells) ag ax fun aM ay=>?_
 refine qas (i:=6) kz (qbs af ay (e:=69) (size:=2) (len:=1) (cs:=[.int .u32 k,.slice A9 x.length aa]) (d:=11) kz kz fun aF aN aO aG aH ah ab az=>?_)
 have aA:=TT.ofW (((hF8.trans ac).trans ae).trans ah) ab
 refine ⟨fun _=>aA,?_⟩
 refine qas (i:=7) kz (qaV ab az (k:=0) (d:=12) (t:=35) (e:=69) (size:=2) (bytes:=32) (A:=A) (As:=(some ⟨aF,0,none⟩)) (m0:=n) (c:=cp) (m:=1) (cs:=1) (xs:=xs) (news:=[.int .u32 k,.slice A9 x.length aa]) kz kz rfl (qbz (ab.own 2 _ rfl) (qbu kz)) (qbE (ab.own 2 _ rfl)) (by first | omega | (simp only [List.length_nil]; omega) | (simp; omega)) fun am ao aP aQ aB ai aC=>?_)
 have aj:=TT.ofW ((((hF8.trans ac).trans ae).trans ah).trans aB) ai
 refine ⟨fun _=>aj,?_⟩
 refine qaE [8] [(12,.v (.slice am (n + 1) ao)),(13,.p 0 4)] 1 qaf (fun _ h=>h.cells) aj aC fun aR aD=>?_
 refine qas (i:=9) kz (qau ai aD (oi:=0) (cs:=[x0,x1,x2,x3,.slice am (n + 1) ao]) kz fun aS aI ak aE=>?_)
 refine ⟨fun h=>absurd rfl h,?_⟩
 refine qaC kz ?_ _
 refine qbN aE ak.cells (v:=.tuple #[]) kz ?_
 obtain ⟨al,aJ⟩:=ak.cutR 2 [⟨am,ao,69,2,n + 1,xs ++ [.int .u32 k,.slice A9 x.length aa]⟩,brow A9 aa 5 x]
 have hoo:=qej (s:=x) (Av:=A9) (c:=aa) (e8:=5) rfl al (by omega)
 obtain ⟨hb1,hb2,hb3⟩:=qf7 al (World.lt_of_cell (hbx.str.at_ 0 _ rfl))
 exact ⟨rfl,am,ao,A9,aa,hb1,hoo,hb2,hb3⟩
theorem qb1:qfk Tryz.prog 123 69:=by
 intro w B cp c n k A Av x x0 x1 x2 x3 xs G hbx ho hG hn
 refine enter (n:=14) Tryz.func123 rfl Tryz.ntmps123 kz fun a hE=>?_
 have hW:=hbx.wok
 have hE0:=(hE.grow ⟨B,0,[x0,x1,x2,x3,.slice A n cp],true⟩).recast 2 (.v (.pointer (some ⟨B,0,none⟩))) (.p 0 0) rfl rfl (by simp [SV.ok])
 have hsm:=Slots.small ho
 have ap:=hE0.pk (env':=[(0,.v (.int .u32 k)),(1,.v (.slice Av x.length c)),(2,.p 0 0)])
 refine qcG 9 kz hW fun w1 hF2 hW3 hT4=>?_
 refine qaE [0,1,2,3] [(2,.p 0 0),(6,.v (.slice A n cp)),(7,.v (.int .u32 k)),(8,.v (.slice Av x.length c))] 6 qaf (fun _ h=>h.cells) hT4 ap fun a5 hE6=>?_
 have hW7:=hW3.addNil 5 1
 have hF8:=hW3.frNil 5 1
 refine qas (i:=4) kz (qaV hW7 hE6 (k:=1) (d:=9) (t:=22) (e:=5) (size:=1) (bytes:=1) (A:=none) (As:=Av) (m0:=0) (c:=0) (m:=x.length) (cs:=c) (xs:=[]) (news:=bc x) kz kz rfl (ho.move hW7.step (fun b o h _=>hG b o h) qbb).src (ho.move hW7.step (fun b o h _=>hG b o h) qbb).cap (by first | omega | (simp only [List.length_nil]; omega) | (simp; omega)) fun A9 aa aK aL ac ar au=>?_)
 have av:(⟨A9,aa,5,1,0 + x.length,[] ++ bc x⟩:Rw) = brow A9 aa 5 x:=by rw [List.nil_append,Nat.zero_add]
 obtain ⟨af,ae⟩:=ar.rowEq 1 [⟨A,cp,69,2,n,xs⟩,brow A9 aa 5 x] av
 have aw:=EnvOk.pick au (ks:=[2,6,7,8,9]) (env':=[(2,.p 0 0),(6,.v (.slice A n cp)),(7,.v (.int .u32 k)),(8,.v (.slice Av x.length c)),(9,.v (.slice A9 (0 + x.length) aa))]) kz
 have ax:=aw.cast (env':=[(2,.p 0 0),(6,.v (.slice A n cp)),(7,.v (.int .u32 k)),(8,.v (.slice Av x.length c)),(9,.v (.slice A9 x.length aa))]) (by simp only [List.length_append,List.length_cons,List.length_nil,Nat.zero_add])
 have ag:=TT.ofW ((hF8.trans ac).trans ae) af
 refine ⟨fun _=>ag,?_⟩
 refine qaE [5] [(2,.p 0 0),(6,.v (.slice A n cp)),(10,.v (.agg #[.int .u32 k,.slice A9 x.length aa]))] 4 qaf (fun _ h=>h.cells) ag ax fun aM ay=>?_
 refine qas (i:=6) kz (qbs af ay (e:=69) (size:=2) (len:=1) (cs:=[.int .u32 k,.slice A9 x.length aa]) (d:=11) kz kz fun aF aN aO aG aH ah ab az=>?_)
 have aA:=TT.ofW (((hF8.trans ac).trans ae).trans ah) ab
 refine ⟨fun _=>aA,?_⟩
 refine qas (i:=7) kz (qaV ab az (k:=0) (d:=12) (t:=35) (e:=69) (size:=2) (bytes:=32) (A:=A) (As:=(some ⟨aF,0,none⟩)) (m0:=n) (c:=cp) (m:=1) (cs:=1) (xs:=xs) (news:=[.int .u32 k,.slice A9 x.length aa]) kz kz rfl (qbz (ab.own 2 _ rfl) (qbu kz)) (qbE (ab.own 2 _ rfl)) (by first | omega | (simp only [List.length_nil]; omega) | (simp; omega)) fun am ao aP aQ aB ai aC=>?_)
 have aj:=TT.ofW ((((hF8.trans ac).trans ae).trans ah).trans aB) ai
 refine ⟨fun _=>aj,?_⟩
 refine qaE [8] [(12,.v (.slice am (n + 1) ao)),(13,.p 0 4)] 1 qaf (fun _ h=>h.cells) aj aC fun aR aD=>?_
 refine qas (i:=9) kz (qau ai aD (oi:=0) (cs:=[x0,x1,x2,x3,.slice am (n + 1) ao]) kz fun aS aI ak aE=>?_)
 refine ⟨fun h=>absurd rfl h,?_⟩
 refine qaC kz ?_ _
 refine qbN aE ak.cells (v:=.tuple #[]) kz ?_
 obtain ⟨al,aJ⟩:=ak.cutR 2 [⟨am,ao,69,2,n + 1,xs ++ [.int .u32 k,.slice A9 x.length aa]⟩,brow A9 aa 5 x]
 have hoo:=qej (s:=x) (Av:=A9) (c:=aa) (e8:=5) rfl al (by omega)
 obtain ⟨hb1,hb2,hb3⟩:=qf7 al (World.lt_of_cell (hbx.str.at_ 0 _ rfl))
 exact ⟨rfl,am,ao,A9,aa,hb1,hoo,hb2,hb3⟩
theorem qbR:qfk Tryz.prog 140 69:=by
 intro w B cp c n k A Av x x0 x1 x2 x3 xs G hbx ho hG hn
 refine enter (n:=14) Tryz.func140 rfl Tryz.ntmps140 kz fun a hE=>?_
 have hW:=hbx.wok
 have hE0:=(hE.grow ⟨B,0,[x0,x1,x2,x3,.slice A n cp],true⟩).recast 2 (.v (.pointer (some ⟨B,0,none⟩))) (.p 0 0) rfl rfl (by simp [SV.ok])
 have hsm:=Slots.small ho
 have ap:=hE0.pk (env':=[(0,.v (.int .u32 k)),(1,.v (.slice Av x.length c)),(2,.p 0 0)])
 refine qcG 9 kz hW fun w1 hF2 hW3 hT4=>?_
 refine qaE [0,1,2,3] [(2,.p 0 0),(6,.v (.slice A n cp)),(7,.v (.int .u32 k)),(8,.v (.slice Av x.length c))] 6 qaf (fun _ h=>h.cells) hT4 ap fun a5 hE6=>?_
 have hW7:=hW3.addNil 5 1
 have hF8:=hW3.frNil 5 1
 refine qas (i:=4) kz (qaV hW7 hE6 (k:=1) (d:=9) (t:=22) (e:=5) (size:=1) (bytes:=1) (A:=none) (As:=Av) (m0:=0) (c:=0) (m:=x.length) (cs:=c) (xs:=[]) (news:=bc x) kz kz rfl (ho.move hW7.step (fun b o h _=>hG b o h) qbb).src (ho.move hW7.step (fun b o h _=>hG b o h) qbb).cap (by first | omega | (simp only [List.length_nil]; omega) | (simp; omega)) fun A9 aa aK aL ac ar au=>?_)
 have av:(⟨A9,aa,5,1,0 + x.length,[] ++ bc x⟩:Rw) = brow A9 aa 5 x:=by rw [List.nil_append,Nat.zero_add]
 obtain ⟨af,ae⟩:=ar.rowEq 1 [⟨A,cp,69,2,n,xs⟩,brow A9 aa 5 x] av
 have aw:=EnvOk.pick au (ks:=[2,6,7,8,9]) (env':=[(2,.p 0 0),(6,.v (.slice A n cp)),(7,.v (.int .u32 k)),(8,.v (.slice Av x.length c)),(9,.v (.slice A9 (0 + x.length) aa))]) kz
 have ax:=aw.cast (env':=[(2,.p 0 0),(6,.v (.slice A n cp)),(7,.v (.int .u32 k)),(8,.v (.slice Av x.length c)),(9,.v (.slice A9 x.length aa))]) (by simp only [List.length_append,List.length_cons,List.length_nil,Nat.zero_add])
 have ag:=TT.ofW ((hF8.trans ac).trans ae) af
 refine ⟨fun _=>ag,?_⟩
 refine qaE [5] [(2,.p 0 0),(6,.v (.slice A n cp)),(10,.v (.agg #[.int .u32 k,.slice A9 x.length aa]))] 4 qaf (fun _ h=>h.cells) ag ax fun aM ay=>?_
 refine qas (i:=6) kz (qbs af ay (e:=69) (size:=2) (len:=1) (cs:=[.int .u32 k,.slice A9 x.length aa]) (d:=11) kz kz fun aF aN aO aG aH ah ab az=>?_)
 have aA:=TT.ofW (((hF8.trans ac).trans ae).trans ah) ab
 refine ⟨fun _=>aA,?_⟩
 refine qas (i:=7) kz (qaV ab az (k:=0) (d:=12) (t:=35) (e:=69) (size:=2) (bytes:=32) (A:=A) (As:=(some ⟨aF,0,none⟩)) (m0:=n) (c:=cp) (m:=1) (cs:=1) (xs:=xs) (news:=[.int .u32 k,.slice A9 x.length aa]) kz kz rfl (qbz (ab.own 2 _ rfl) (qbu kz)) (qbE (ab.own 2 _ rfl)) (by first | omega | (simp only [List.length_nil]; omega) | (simp; omega)) fun am ao aP aQ aB ai aC=>?_)
 have aj:=TT.ofW ((((hF8.trans ac).trans ae).trans ah).trans aB) ai
 refine ⟨fun _=>aj,?_⟩
 refine qaE [8] [(12,.v (.slice am (n + 1) ao)),(13,.p 0 4)] 1 qaf (fun _ h=>h.cells) aj aC fun aR aD=>?_
 refine qas (i:=9) kz (qau ai aD (oi:=0) (cs:=[x0,x1,x2,x3,.slice am (n + 1) ao]) kz fun aS aI ak aE=>?_)
 refine ⟨fun h=>absurd rfl h,?_⟩
 refine qaC kz ?_ _
 refine qbN aE ak.cells (v:=.tuple #[]) kz ?_
 obtain ⟨al,aJ⟩:=ak.cutR 2 [⟨am,ao,69,2,n + 1,xs ++ [.int .u32 k,.slice A9 x.length aa]⟩,brow A9 aa 5 x]
 have hoo:=qej (s:=x) (Av:=A9) (c:=aa) (e8:=5) rfl al (by omega)
 obtain ⟨hb1,hb2,hb3⟩:=qf7 al (World.lt_of_cell (hbx.str.at_ 0 _ rfl))
 exact ⟨rfl,am,ao,A9,aa,hb1,hoo,hb2,hb3⟩
theorem n8w (x:Int):IntKind.i8.wrap x = (x + 128) % 256 - 128:=by simp [IntKind.wrap,IntKind.signed,IntKind.bits]; omega
theorem n16w (x:Int):IntKind.i16.wrap x = (x + 32768) % 65536 - 32768:=by simp [IntKind.wrap,IntKind.signed,IntKind.bits]; omega
theorem n32w (x:Int):IntKind.i32.wrap x = (x + 2147483648) % 4294967296 - 2147483648:=by simp [IntKind.wrap,IntKind.signed,IntKind.bits]; omega
theorem n64w (x:Int):IntKind.i64.wrap x = (x + 9223372036854775808) % 18446744073709551616 - 9223372036854775808:=by simp [IntKind.wrap,IntKind.signed,IntKind.bits]; omega
theorem qim (x:Int):IntKind.i64.wrap (IntKind.i8.wrap x) = IntKind.i8.wrap x:=by rw [n64w,n8w]; omega
theorem qfH (x:Int):IntKind.i64.wrap (IntKind.i16.wrap x) = IntKind.i16.wrap x:=by rw [n64w,n16w]; omega
theorem qfn (x:Int):IntKind.i64.wrap (IntKind.i32.wrap x) = IntKind.i32.wrap x:=by rw [n64w,n32w]; omega
theorem qeE (x:Int):IntKind.i64.wrap (IntKind.u16.wrap x) = IntKind.u16.wrap x:=by rw [n64w,qbC]; omega
def qby (k n:Int):Int:=if k = 0 then n % 2 else if k = 1 then IntKind.i8.wrap n else if k = 2 then IntKind.i16.wrap n else if k = 3 then IntKind.i32.wrap n else if k = 5 then IntKind.u16.wrap n else n
structure UsQ (U:List Fld → Tree → Prop) (k x1 x2 x3 x4 x5 x6:Int) (sub:List Fld) (n:Int) (s:Bs) (b:Bool) (l:List Tree) (u:List (Int × Bs)):Prop where
 text:k = 8 → b = decide (x3 ≥ 0) ∧ s = []
 uuid:k = 7 → s = List.replicate 16 0
 octs:k = 9 ∨ k = 11 → s = [] ∧ l = []
 part:k = 10 → (x3 ≥ 0 → b = true) ∧ (x3 < 0 → U sub (.mk n s b l u))
 num:k ≠ 7 → k ≠ 8 → k ≠ 9 → k ≠ 10 → k ≠ 11 → n = qby k x5
def UsF (U:List Fld → Tree → Prop):Fld → Tree → Prop
 | .mk k x1 x2 x3 x4 x5 x6 sub,.mk n s b l u=>UsQ U k x1 x2 x3 x4 x5 x6 sub n s b l u
def UsP (U:List Fld → Tree → Prop) (l:List Fld) (g:Tree):Prop:=g.U = [] ∧ ∀ (i:Nat) (f:Fld),l[i]? = some f → UsF U f (g.at_ i)
def qjv:Nat → List Fld → Tree → Prop
 | 0=>UsP fun _ _=>False
 | d + 1=>UsP (qjv d)
structure ToQ (T:List Fld → Tree → Tree → Prop) (v:Int) (f:Fld) (k x3:Int) (sub:List Fld) (t:Tree) (tn:Int) (ts:Bs) (n:Int) (s:Bs) (b:Bool) (g:Tree):Prop where
 null:k = 8 ∨ k = 10 ∨ (x3 ≥ 0 ∧ v ≥ x3) → b = f.nul v t
 text:f.nul v t = false → k = 8 ∨ k = 9 → s = qaD ts
 uuid:f.nul v t = false → k = 7 → s = qbo ts
 part:f.nul v t = false → k = 10 → T sub t g
 num:f.nul v t = false → k ≠ 7 → k ≠ 8 → k ≠ 9 → k ≠ 10 → k ≠ 11 → n = qby k tn
def ToF0 (T:List Fld → Tree → Tree → Prop) (v:Int):Fld → Tree → Tree → Prop
 | .mk k x1 x2 x3 x4 x5 x6 sub,.mk tn ts tb tl tu,.mk n s b l u=>ToQ T v (.mk k x1 x2 x3 x4 x5 x6 sub) k x3 sub (.mk tn ts tb tl tu) tn ts n s b (.mk n s b l u)
def ToF (T:List Fld → Tree → Tree → Prop) (v:Int) (f:Fld) (t g:Tree):Prop :=
 ToF0 T v f t g ∧ (f.kind = 11 → f.nul v t = false → g.L.length = (qam t.L).length ∧ ∀ (i:Nat) (x y:Tree),(qam t.L)[i]? = some x → g.L[i]? = some y → ToF0 T v f.elem x y)
def Fld.pres (f:Fld) (v:Int) (flex:Bool) (x:Tree):Bool:=(decide (f.tag < 0) && f.has v) || (decide (f.tag ≥ 0) && (flex && !f.usual x))
def ToP (T:List Fld → Tree → Tree → Prop) (U:List Fld → Tree → Prop) (l:List Fld) (v:Int) (flex:Bool) (t g:Tree):Prop :=
 g.L.length = l.length ∧ (∀ (i:Nat) (f:Fld) (y:Tree),l[i]? = some f → g.L[i]? = some y → (f.pres v flex (t.at_ i) = true → ToF T v f (t.at_ i) y) ∧ (f.pres v flex (t.at_ i) = false → UsF U f y)) ∧
  g.U = (if flex = true then qcw (qai l t.U) else [])
def qin (v:Int) (flex:Bool):Nat → List Fld → Tree → Tree → Prop
 | 0=>fun l t g=>ToP (fun _ _ _=>False) (fun _ _=>False) l v flex t g
 | d + 1=>fun l t g=>ToP (qin v flex d) (qjv d) l v flex t g
theorem qkr {U:List Fld → Tree → Prop} {f:Fld} {y:Tree} (h:UsF U f y):UsP U [f] (.mk 0 [] false [y] []):=by
 refine ⟨rfl,fun i g hg=>?_⟩
 cases i with
 | zero =>
  simp only [List.getElem?_cons_zero,Option.some.injEq] at hg
  subst hg
  exact h
 | succ i=>simp at hg
theorem qjw {w:World} {e:Nat} {A:Option Addr} {c:Nat} {F:Nat → Nat → Prop} (h:w.ownsRow 0 e 1 (.slice A 16 c) 16 (List.replicate 16 (.int .u8 0))) (hF:∀ g,A.map (·.block) = some g → ∀ o,F g o):Octs w F A c (List.replicate 16 0) :=
 qct (s:=List.replicate 16 0) h (by decide) hF
section
variable {U:List Fld → Tree → Prop} {k x1 x2 x3 x4 x5 x6 n:Int} {sub:List Fld} {s:Bs} {b:Bool} {l:List Tree} {u:List (Int × Bs)}
abbrev UsH (U:List Fld → Tree → Prop) (k x1 x2 x3 x4 x5 x6:Int) (sub:List Fld) (n:Int) (s:Bs) (b:Bool) (l:List Tree) (u:List (Int × Bs)):Prop:=UsF U (.mk k x1 x2 x3 x4 x5 x6 sub) (.mk n s b l u)
theorem us_q (h:UsH U k x1 x2 x3 x4 x5 x6 sub n s b l u):UsQ U k x1 x2 x3 x4 x5 x6 sub n s b l u:=h
theorem qga (h:UsH U k x1 x2 x3 x4 x5 x6 sub n s b l u) (hk:k = 8) (hc:(b != decide (x3 ≥ 0)) = true):False:=by
 have:=((us_q h).text hk).1
 rw [this] at hc; simp at hc
theorem qgb (h:UsH U k x1 x2 x3 x4 x5 x6 sub n s b l u) (hk:k = 8) (hc:((s.length:Nat):Int) > 0):False:=by
 have:=((us_q h).text hk).2
 rw [this] at hc; simp at hc
theorem us_7 (h:UsH U k x1 x2 x3 x4 x5 x6 sub n s b l u) (hk:k = 7) (hc:(!decide (s = (List.replicate 16 0:Bs))) = true):False:=by
 have:=(us_q h).uuid hk
 rw [this] at hc; simp at hc
theorem qgc (h:UsH U k x1 x2 x3 x4 x5 x6 sub n s b l u) (hk:k = 9) (hc:((s.length:Nat):Int) > 0):False:=by
 have:=((us_q h).octs (.inl hk)).1
 rw [this] at hc; simp at hc
theorem qgd (h:UsH U k x1 x2 x3 x4 x5 x6 sub n s b l u) (hk:k = 9) (hc:((l.length:Nat):Int) > 0):False:=by
 have:=((us_q h).octs (.inl hk)).2
 rw [this] at hc; simp at hc
theorem qek (h:UsH U k x1 x2 x3 x4 x5 x6 sub n s b l u) (hk:k = 11) (hc:((s.length:Nat):Int) > 0):False:=by
 have:=((us_q h).octs (.inr hk)).1
 rw [this] at hc; simp at hc
theorem qel (h:UsH U k x1 x2 x3 x4 x5 x6 sub n s b l u) (hk:k = 11) (hc:((l.length:Nat):Int) > 0):False:=by
 have:=((us_q h).octs (.inr hk)).2
 rw [this] at hc; simp at hc
theorem qge (h:UsH U k x1 x2 x3 x4 x5 x6 sub n s b l u) (hk:k = 10) (h3:x3 ≥ 0) (hc:(!b) = true):False:=by
 have:=((us_q h).part hk).1 h3
 rw [this] at hc; simp at hc
theorem qks (h:UsH U k x1 x2 x3 x4 x5 x6 sub n s b l u) (hk:k = 10) (h3:x3 < 0):U sub (.mk n s b l u):=((us_q h).part hk).2 h3
theorem us_n (h:UsH U k x1 x2 x3 x4 x5 x6 sub n s b l u) (h7:k ≠ 7) (h8:k ≠ 8) (h9:k ≠ 9) (h10:k ≠ 10) (h11:k ≠ 11) (hc:n ≠ qby k x5):False:=hc ((us_q h).num h7 h8 h9 h10 h11)
theorem us_u {g:Tree} (h:g.U = []) {u:List (Int × Bs)} (e:g.U = u) (hc:((u.length:Nat):Int) > 0):False:=by
 rw [← e,h] at hc; simp at hc
end
section
variable {T:List Fld → Tree → Tree → Prop} {v k x1 x2 x3 x4 x5 x6 tn n:Int} {sub:List Fld} {ts s:Bs} {tb b:Bool} {tl l:List Tree} {tu u:List (Int × Bs)}
abbrev ToH (T:List Fld → Tree → Tree → Prop) (v k x1 x2 x3 x4 x5 x6:Int) (sub:List Fld) (tn:Int) (ts:Bs) (tb:Bool) (tl:List Tree) (tu:List (Int × Bs)) (n:Int) (s:Bs) (b:Bool) (l:List Tree) (u:List (Int × Bs)):Prop:=ToF0 T v (.mk k x1 x2 x3 x4 x5 x6 sub) (.mk tn ts tb tl tu) (.mk n s b l u)
abbrev NulH (v k x1 x2 x3 x4 x5 x6:Int) (sub:List Fld) (tn:Int) (ts:Bs) (tb:Bool) (tl:List Tree) (tu:List (Int × Bs)):Bool:=Fld.nul (.mk k x1 x2 x3 x4 x5 x6 sub) v (.mk tn ts tb tl tu)
theorem to_q (h:ToH T v k x1 x2 x3 x4 x5 x6 sub tn ts tb tl tu n s b l u):ToQ T v (.mk k x1 x2 x3 x4 x5 x6 sub) k x3 sub (.mk tn ts tb tl tu) tn ts n s b (.mk n s b l u):=h
theorem qjx (h:ToH T v k x1 x2 x3 x4 x5 x6 sub tn ts tb tl tu n s b l u) (hk:k = 8) (hc:(b != NulH v k x1 x2 x3 x4 x5 x6 sub tn ts tb tl tu) = true):False:=by
 rw [(to_q h).null (.inl hk)] at hc; simp at hc
theorem qgP (h:ToH T v k x1 x2 x3 x4 x5 x6 sub tn ts tb tl tu n s b l u) (hk:k = 10) (hc:(b != NulH v k x1 x2 x3 x4 x5 x6 sub tn ts tb tl tu) = true):False:=by
 rw [(to_q h).null (.inr (.inl hk))] at hc; simp at hc
theorem qgf (h:ToH T v k x1 x2 x3 x4 x5 x6 sub tn ts tb tl tu n s b l u) (h1:x3 ≥ 0) (h2:v ≥ x3) (hc:(b != NulH v k x1 x2 x3 x4 x5 x6 sub tn ts tb tl tu) = true):False:=by
 rw [(to_q h).null (.inr (.inr ⟨h1,h2⟩))] at hc; simp at hc
theorem qjy (h:ToH T v k x1 x2 x3 x4 x5 x6 sub tn ts tb tl tu n s b l u) (hn:NulH v k x1 x2 x3 x4 x5 x6 sub tn ts tb tl tu = false) (hk:k = 10):T sub (.mk tn ts tb tl tu) (.mk n s b l u):=(to_q h).part hn hk
theorem qd4 (h:ToH T v k x1 x2 x3 x4 x5 x6 sub tn ts tb tl tu n s b l u) (hn:NulH v k x1 x2 x3 x4 x5 x6 sub tn ts tb tl tu = false) (hk:k = 8):decide (s = qaD ts) = true:=decide_eq_true ((to_q h).text hn (.inl hk))
theorem qd5 (h:ToH T v k x1 x2 x3 x4 x5 x6 sub tn ts tb tl tu n s b l u) (hn:NulH v k x1 x2 x3 x4 x5 x6 sub tn ts tb tl tu = false) (hk:k = 9):decide (s = qaD ts) = true:=decide_eq_true ((to_q h).text hn (.inr hk))
theorem to_u (h:ToH T v k x1 x2 x3 x4 x5 x6 sub tn ts tb tl tu n s b l u) (hn:NulH v k x1 x2 x3 x4 x5 x6 sub tn ts tb tl tu = false) (hk:k = 7):decide (s = qbo ts) = true:=decide_eq_true ((to_q h).uuid hn hk)
theorem to_m (h:ToH T v k x1 x2 x3 x4 x5 x6 sub tn ts tb tl tu n s b l u) (hn:NulH v k x1 x2 x3 x4 x5 x6 sub tn ts tb tl tu = false) (h8:k ≠ 8) (h9:k ≠ 9) (h7:k ≠ 7) (h10:k ≠ 10) (h11:k ≠ 11):(n == qby k tn) = true:=by
 rw [(to_q h).num hn h7 h8 h9 h10 h11]; simp
theorem qhH {a c:Nat} (h:a = c) (hc:((a:Nat):Int) ≠ ((c:Nat):Int)):False:=hc (by rw [h])
end
theorem qdM {P:Program} {ops:Array Oper} {Q:Exit → Act → World → Prop} {a:Act} {w:World} {T:World → Prop} {c i j fuel:Nat} {listed:Array Bool} (hr:Region.ready .any ops listed = [i,j]) (h:wpOp P ops Q i (fun a' w'=>(i ≠ c → T w') ∧ qbO P ops Q T c fuel (listed.setIfInBounds i true) a' w') a w)
  (h':wpOp P ops Q j (fun a' w'=>(j ≠ c → T w') ∧ qbO P ops Q T c fuel (listed.setIfInBounds j true) a' w') a w):qbO P ops Q T c (fuel + 1) listed a w:=by
 refine ⟨fun h0=>(by rw [hr] at h0; cases h0),fun q hq=>?_⟩
 rw [hr] at hq
 simp only [List.mem_cons,List.not_mem_nil,or_false] at hq
 rcases hq with rfl | rfl
 ·exact h
 exact h'
theorem qlC {k x1 x2 x3 x4 x5 x6 v:Int} {sub:List Fld} {flex:Bool} {x:Tree} (h:x4 < 0) (h2:Fld.has (.mk k x1 x2 x3 x4 x5 x6 sub) v = true):Fld.pres (.mk k x1 x2 x3 x4 x5 x6 sub) v flex x = true:=by
 simp [Fld.pres,Fld.tag,h,h2]
theorem qlD {k x1 x2 x3 x4 x5 x6 v:Int} {sub:List Fld} {flex:Bool} {x:Tree} (h:x4 ≥ 0) (h2:flex = true) (h3:(!Fld.usual (.mk k x1 x2 x3 x4 x5 x6 sub) x) = true):Fld.pres (.mk k x1 x2 x3 x4 x5 x6 sub) v flex x = true:=by
 subst h2
 simp only [Bool.not_eq_true'] at h3
 simp [Fld.pres,Fld.tag,h,h3]
theorem qhI {k x1 x2 x3 x4 x5 x6 v:Int} {sub:List Fld} {flex:Bool} {x:Tree} (h:x4 < 0) (h2:Fld.has (.mk k x1 x2 x3 x4 x5 x6 sub) v = false):Fld.pres (.mk k x1 x2 x3 x4 x5 x6 sub) v flex x = false:=by
 have:¬ x4 ≥ 0:=by omega
 simp [Fld.pres,Fld.tag,h2,this]
theorem qhJ {k x1 x2 x3 x4 x5 x6 v:Int} {sub:List Fld} {flex:Bool} {x:Tree} (h:¬ x4 < 0) (h2:flex = false):Fld.pres (.mk k x1 x2 x3 x4 x5 x6 sub) v flex x = false:=by
 subst h2
 simp [Fld.pres,Fld.tag,h]
theorem qhK {k x1 x2 x3 x4 x5 x6 v:Int} {sub:List Fld} {flex:Bool} {x:Tree} (h:¬ x4 < 0) (h3:(!Fld.usual (.mk k x1 x2 x3 x4 x5 x6 sub) x) = false):Fld.pres (.mk k x1 x2 x3 x4 x5 x6 sub) v flex x = false:=by
 simp only [Bool.not_eq_false'] at h3
 simp [Fld.pres,Fld.tag,h,h3]
theorem qkt {k x1 x2 x3 x4 x5 x6 v:Int} {sub:List Fld} {flex:Bool} {x:Tree} (h:¬ x4 < 0) (h2:flex = true):Fld.pres (.mk k x1 x2 x3 x4 x5 x6 sub) v flex x = !Fld.usual (.mk k x1 x2 x3 x4 x5 x6 sub) x:=by
 subst h2
 have:x4 ≥ 0:=by omega
 simp [Fld.pres,Fld.tag,h,this]
theorem qku {k x1 x2 x3 x4 x5 x6 v:Int} {sub:List Fld} {flex:Bool} {x:Tree} (h:x4 < 0):Fld.pres (.mk k x1 x2 x3 x4 x5 x6 sub) v flex x = Fld.has (.mk k x1 x2 x3 x4 x5 x6 sub) v:=by
 have:¬ x4 ≥ 0:=by omega
 simp [Fld.pres,Fld.tag,h,this]
section
variable {w:World} {F:Nat → Nat → Prop}
theorem qkv {e size b c:Nat} {xs:List Value} {n:Nat} (h:w.ownsRow 0 e size (.slice (some ⟨b,0,none⟩) n c) n xs):AtF w (fun _ _=>True) b 0 xs:=fun j v hj=>⟨trivial,by
 have:=h.cells (g:=b) rfl j v hj
 rw [qbM] at this
 exact this⟩
theorem qhL {e b c:Nat} {cf:List Value} {f:Fld} (h:w.ownsRow 0 e 8 (.slice (some ⟨b,0,none⟩) 1 c) 1 cf) (hf:FldR w F cf f) (hc:1 ≤ c):FldsR w (fun _ _=>True) (some ⟨b,0,none⟩) c [f]:=by
 refine ⟨fun _=>cf,⟨hc,(by show 1 ≤ 1099511627776; decide),fun h=>(by cases h),fun ad hA _=>?_⟩,fun i x hx=>?_⟩
 ·obtain rfl:=Option.some.inj hA
  refine ⟨b,0,rfl,fun i hi=>⟨hf.eight,?_⟩⟩
  have:i = 0:=by simp at hi; omega
  subst this
  simpa using qkv h
 cases i with
 | zero =>
  simp only [List.getElem?_cons_zero,Option.some.injEq] at hx
  subst hx
  exact hf.move (Step.refl _ Nil) nilM fun _ _ _ _=>trivial
 | succ i=>simp at hx
theorem qhM {e b c:Nat} {cy:List Value} {y:Tree} (h:w.ownsRow 0 e 5 (.slice (some ⟨b,0,none⟩) 1 c) 1 cy) (hy:TreeR w F cy y) (hc:1 ≤ c):TreeR w (fun _ _=>True) [.int .i64 0,.slice none 0 0,.bool false,.slice (some ⟨b,0,none⟩) 1 c,.slice none 0 0] (.mk 0 [] false [y] []):=by
 refine TreeR.mk (l:=[y]) (s:=[]) (u:=[]) (fun _=>cy) (Octs.nil _ _) ⟨hc,(by show 1 ≤ 1099511627776; decide),fun h=>(by cases h),fun ad hA _=>?_⟩ (fun i x hx=>?_) (TagsR.nil _ _)
 ·obtain rfl:=Option.some.inj hA
  refine ⟨b,0,rfl,fun i hi=>⟨hy.five,?_⟩⟩
  have:i = 0:=by simp at hi; omega
  subst this
  simpa using qkv h
 cases i with
 | zero =>
  simp only [List.getElem?_cons_zero,Option.some.injEq] at hx
  subst hx
  exact hy.move (Step.refl _ Nil) nilM fun _ _ _ _=>trivial
 | succ i=>simp at hx
end
section
variable {gu tu:List (Int × Bs)} {l:List Fld} {flex:Bool} {i:Nat} {k k':Int} {s s':Bs}
theorem qem (h:gu = if flex = true then qcw (qai l tu) else []) (hf:(!flex) = false) (hc:((gu.length:Nat):Int) ≠ (((qai l tu).length:Nat):Int)):False:=by
 cases flex
 ·cases hf
 rw [if_pos rfl] at h
 rw [h,qcP] at hc
 exact hc rfl
theorem qdu (h:gu = if flex = true then qcw (qai l tu) else []) (hf:(!flex) = true) (hc:((gu.length:Nat):Int) ≠ 0):False:=by
 cases flex
 ·rw [if_neg (by decide)] at h
  rw [h] at hc
  exact hc rfl
 cases hf
theorem qjz (h:gu = if flex = true then qcw (qai l tu) else []) (hf:(!flex) = false) (hu:(qai l tu)[i]? = some (k,s)) (hg:gu[i]? = some (k',s')):k' = k ∧ s' = qaD s:=by
 cases flex
 ·cases hf
 rw [if_pos rfl] at h
 rw [h,qh8 hu] at hg
 have:=Option.some.inj hg
 exact ⟨(Prod.mk.injEq .. ▸ this).1.symm,(Prod.mk.injEq .. ▸ this).2.symm⟩
theorem qen (h:gu = if flex = true then qcw (qai l tu) else []) (hf:(!flex) = false) (hu:(qai l tu)[i]? = some (k,s)) (hg:gu[i]? = some (k',s')) (hc:k' ≠ k):False:=hc (qjz h hf hu hg).1
theorem qeo (h:gu = if flex = true then qcw (qai l tu) else []) (hf:(!flex) = false) (hu:(qai l tu)[i]? = some (k,s)) (hg:gu[i]? = some (k',s')) (hc:(!decide (s' = qaD s)) = true):False:=by
 rw [(qjz h hf hu hg).2] at hc; simp at hc
theorem qcA (h:gu = if flex = true then qcw (qai l tu) else []) (hf:(!flex) = false):gu.length = (qai l tu).length:=by
 cases flex
 ·cases hf
 rw [if_pos rfl] at h
 rw [h,qcP]
end
def qaH (D:DV):Tree:=.mk 0 [] false [.mk 0 (sb (D.f 0).s) false [] [],.mk 0 [] (D.f 1).A.isNone ((List.range (D.f 1).l).map fun i=>.mk (IntKind.i64.wrap ((D.f 1).f i).n) [] false [] []) []] D.u
def qaO (D:DV):Tree:=.mk 0 [] false [.mk 0 (sb (D.f 0).s) false [] [],.mk 0 [] (D.f 1).A.isNone ((List.range (D.f 1).l).map fun i=>qaH ((D.f 1).f i)) []] D.u
def qa1 (D:DV):Tree:=.mk 0 [] false [.mk 0 [] (D.f 0).A.isNone ((List.range (D.f 0).l).map fun i=>qaO ((D.f 0).f i)) []] D.u
set_option maxHeartbeats 4000000 in
theorem qbd (v:Int) (D:DV) (b o:Nat) (w:World) (F:Nat → Nat → Prop) (hat:AtF w F b o [.string ((D.f 0).s),.slice ((D.f 1).A) ((D.f 1).l) ((D.f 1).c),.map D.m]) (hok:qaG w F D):Calls Tryz.prog 122 #[.pointer (some ⟨b,o,none⟩)] w (qe4 w F (qaH D)):=by
 refine enter (n:=85) Tryz.func122 rfl Tryz.ntmps122 kz fun a hE=>?_
 have hW:WOk w Nil w [⟨b,o,[.string ((D.f 0).s),.slice ((D.f 1).A) ((D.f 1).l) ((D.f 1).c),.map D.m],false⟩] []:=(WOk.start w Nil).start1 hat rfl rfl
 unfold qaG at hok
 obtain ⟨g1,⟨g2,g2l,g2e⟩,g3,g3l,g3x,_⟩:=hok
 have hE0:=(EnvOk.ptr0 (cs:=[.string ((D.f 0).s),.slice ((D.f 1).A) ((D.f 1).l) ((D.f 1).c),.map D.m]) (r:=false) hE).pk (env':=[(0,.p 0 0)])
 refine qad [0] kz ?_
 refine qal (qaU hW hE0 (d:=2) (cs:=[.int .i64 0,.slice none 0 0,.bool false,.slice none 0 0,.slice none 0 0]) kz fun b4 a5 w6 hb7 hz8 hF9 dJ dK=>?_)
 refine qae (qab ?_)
 refine qad [0,1,2,3] kz ?_
 refine qal (qeC (t:=34) (e:=37) (size:=5) (bytes:=88) (d:=5) (j:=2) (.agg #[.int .i64 0,.slice none 0 0,.bool false,.slice none 0 0,.slice none 0 0]) [.int .i64 0,.slice none 0 0,.bool false,.slice none 0 0,.slice none 0 0,.int .i64 0,.slice none 0 0,.bool false,.slice none 0 0,.slice none 0 0] dJ dK fun aa fV fW eH eI eJ bK dL=>?_)
 refine qaj [1] [2,3] [(0,.p 0 0),(2,.p 1 0),(6,.v (.agg #[.int .i64 0,.slice none 0 0,.bool false,.slice (some ⟨aa,0,none⟩) 2 2,.slice none 0 0]))] bK dL fun fX dM=>?_
 refine qal (qaU bK dM (d:=3) (cs:=[.int .i64 0,.slice none 0 0,.bool false,.slice none 0 0,.slice none 0 0]) kz fun aA fY fZ eK eL eM dN dO=>?_)
 refine qal (qau dN dO (oi:=3) (cs:=[.int .i64 0,.slice none 0 0,.bool false,.slice (some ⟨aa,0,none⟩) 2 2,.slice none 0 0]) kz fun f7 eN dP dQ=>?_)
 refine qae (qab ?_)
 refine qaI 9 kz dP fun f8 eO dR dS=>?_
 refine qaE [0,1,2,3,4,5] [(0,.p 0 0),(2,.p 1 0),(3,.p 3 0),(8,.v (.slice (some ⟨aa,0,none⟩) 2 2)),(12,.v (.string ((D.f 0).s)))] 4 (qaa qaf) (fun _ h=>h.cells) dS dQ fun f9 dT=>?_
 refine qas (i:=6) kz (qfG (d:=13) (src:=9) (dst:=22) (e:=5) (s:=((D.f 0).s)) dR dT (by omega) fun au av ga gb dU bL dV dW=>?_)
 have dX:=dV F
 have bB:=TT.ofW dU bL
 refine ⟨fun _=>bB,?_⟩
 refine qaE [7] [(0,.p 0 0),(2,.p 1 0),(3,.p 3 0),(8,.v (.slice (some ⟨aa,0,none⟩) 2 2)),(14,.v (.agg #[.int .i64 0,.slice (some ⟨au,0,none⟩) ((sb ((D.f 0).s)).length) av,.bool false,.slice none 0 0,.slice none 0 0]))] 2 (qaa qaf) (fun _ h=>h.cells) bB dW fun gc dY=>?_
 refine qaQ dY (i:=8) (t:=34) (A:=(some ⟨aa,0,none⟩)) (m:=2) (q:=0) (d:=15) kz (e:=37) (size:=5) (bytes:=88) (j:=0) kz (b:=aa) (o:=0) rfl rfl (by decide) kz kz (qaa qaf) bB fun gd dZ=>?_
 have d5:=dZ.recast 15 (.v (.pointer (some ⟨aa,0 + 0 * 5,none⟩))) (.p 2 0) rfl rfl (Nat.le_of_ble_eq_true (n:=3) rfl)
 have d6:=d5.pk (env':=[(0,.p 0 0),(2,.p 1 0),(3,.p 3 0),(8,.v (.slice (some ⟨aa,0,none⟩) 2 2)),(14,.v (.agg #[.int .i64 0,.slice (some ⟨au,0,none⟩) ((sb ((D.f 0).s)).length) av,.bool false,.slice none 0 0,.slice none 0 0])),(15,.p 2 0)])
 refine qas (i:=9) kz (qau bL d6 (oi:=2) (cs:=[.int .i64 0,.slice (some ⟨au,0,none⟩) ((sb ((D.f 0).s)).length) av,.bool false,.slice none 0 0,.slice none 0 0,.int .i64 0,.slice none 0 0,.bool false,.slice none 0 0,.slice none 0 0]) kz fun ge bM d7 d8=>?_)
 refine ⟨fun h=>absurd rfl h,?_⟩
 refine qaC kz ?_ _
 refine qab ?_
 refine qaI 9 kz d7 fun gg bN d9 bC=>?_
 refine qaE [0,1,2,3,4,5,6] [(0,.p 0 0),(2,.p 1 0),(3,.p 3 0),(17,.v (.slice (some ⟨aa,0,none⟩) 2 2)),(22,.v (.bool (((D.f 1).A).isNone)))] 3 (qaa qaf) (fun _ h=>h.cells) bC d8 fun gh ea=>?_
 refine qas (i:=7) kz (qaA ea (t:=34) (A:=(some ⟨aa,0,none⟩)) (m:=2) (q:=1) (d:=23) kz (e:=37) (size:=5) (bytes:=88) (j:=1) kz (b:=aa) (o:=0) rfl rfl (by decide) fun gi eb=>?_)
 have ec:=eb.recast 23 (.v (.pointer (some ⟨aa,0 + 1 * 5,none⟩))) (.p 2 5) rfl rfl (Nat.le_of_ble_eq_true (n:=3) rfl)
 have ee:=ec.pk (env':=[(0,.p 0 0),(2,.p 1 0),(3,.p 3 0),(17,.v (.slice (some ⟨aa,0,none⟩) 2 2)),(22,.v (.bool (((D.f 1).A).isNone))),(23,.p 2 5)])
 refine ⟨fun _=>bC,?_⟩
 refine qaE [8] [(0,.p 0 0),(2,.p 1 0),(3,.p 3 0),(22,.v (.bool (((D.f 1).A).isNone))),(24,.p 2 7)] 1 (qaa qaf) (fun _ h=>h.cells) bC ee fun gj ef=>?_
 refine qas (i:=9) kz (qau d9 ef (oi:=2) (cs:=[.int .i64 0,.slice (some ⟨au,0,none⟩) ((sb ((D.f 0).s)).length) av,.bool false,.slice none 0 0,.slice none 0 0,.int .i64 0,.slice none 0 0,.bool (((D.f 1).A).isNone),.slice none 0 0,.slice none 0 0]) kz fun gk bO bD eg=>?_)
 refine ⟨fun h=>absurd rfl h,?_⟩
 refine qaC kz ?_ _
 refine qab ?_
 refine wp_seq ?_
 refine qap [(0,.p 0 0),(2,.p 1 0),(3,.p 3 0),(29,.v (.int .i64 (((D.f 1).l:Nat):Int))),(30,.v (.int .i64 0))] bD eg fun gl eh=>?_
 refine wp_block ?_
 have bP:=bD.addNil 37 5
 have bQ:=bD.frNil 37 5
 refine wp_loop_ghost (fun n_ a_ w_=>∃ (k1_:Nat) (A1_:Option Addr) (c1_:Nat) (xs1_:List Value) (css1_:List (List Value)),n_ = (D.f 1).l - k1_ ∧ k1_ ≤ (D.f 1).l ∧ (Trees w_ (Imm F w w_ [⟨b,o,[.string ((D.f 0).s),.slice ((D.f 1).A) ((D.f 1).l) ((D.f 1).c),.map D.m],false⟩,⟨b4,0,[.int .i64 0,.slice none 0 0,.bool false,.slice none 0 0,.slice none 0 0],true⟩,⟨aa,0,[.int .i64 0,.slice (some ⟨au,0,none⟩) ((sb ((D.f 0).s)).length) av,.bool false,.slice none 0 0,.slice none 0 0,.int .i64 0,.slice none 0 0,.bool (((D.f 1).A).isNone),.slice A1_ k1_ c1_,.slice none 0 0],true⟩,⟨aA,0,[.int .i64 0,.slice none 0 0,.bool false,.slice (some ⟨aa,0,none⟩) 2 2,.slice none 0 0],true⟩] [⟨A1_,c1_,37,5,k1_,xs1_⟩]) xs1_ (((List.range (D.f 1).l).map (fun i=>Tree.mk (IntKind.i64.wrap ((D.f 1).f i).n) [] false [] [])).take k1_) css1_) ∧ LInv bP 85 [⟨b,o,[.string ((D.f 0).s),.slice ((D.f 1).A) ((D.f 1).l) ((D.f 1).c),.map D.m],false⟩,⟨b4,0,[.int .i64 0,.slice none 0 0,.bool false,.slice none 0 0,.slice none 0 0],true⟩,⟨aa,0,[.int .i64 0,.slice (some ⟨au,0,none⟩) ((sb ((D.f 0).s)).length) av,.bool false,.slice none 0 0,.slice none 0 0,.int .i64 0,.slice none 0 0,.bool (((D.f 1).A).isNone),.slice A1_ k1_ c1_,.slice none 0 0],true⟩,⟨aA,0,[.int .i64 0,.slice none 0 0,.bool false,.slice (some ⟨aa,0,none⟩) 2 2,.slice none 0 0],true⟩] [⟨A1_,c1_,37,5,k1_,xs1_⟩] [(0,.p 0 0),(2,.p 1 0),(3,.p 3 0),(29,.v (.int .i64 (((D.f 1).l:Nat):Int))),(30,.v (.int .i64 ((k1_:Nat):Int)))] a_ w_) ((D.f 1).l) ⟨0,none,0,[],[],by omega,by omega,Trees.nil _ _,eh.pk,bP,Fr.refl _ _ _⟩ ?_
 rintro gm gn eP ⟨k1_,A1_,c1_,xs1_,css1_,eQ,eR,hT1_,ei,ah,aY⟩
 refine qap [(0,.p 0 0),(2,.p 1 0),(3,.p 3 0),(29,.v (.int .i64 (((D.f 1).l:Nat):Int))),(30,.v (.int .i64 ((k1_:Nat):Int))),(31,.v (.bool (decide (((k1_:Nat):Int) < (((D.f 1).l:Nat):Int)))))] ah ei fun gp bE=>?_
 refine wp_seq ?_
 refine qav bE (b:=decide (((k1_:Nat):Int) < (((D.f 1).l:Nat):Int))) kz (fun bF=>?_) (fun bF=>?_)
 ·
  have eS:=of_decide_eq_true bF
  refine wp_skip ?_
  refine qab ?_
  refine wp_seq ?_
  refine wp_block ?_
  refine qap [(0,.p 0 0),(2,.p 1 0),(3,.p 3 0),(4,.v (.int .i64 ((k1_:Nat):Int))),(29,.v (.int .i64 (((D.f 1).l:Nat):Int))),(30,.v (.int .i64 ((k1_:Nat):Int)))] ah bE fun gq ej=>?_
  refine qaI 4 kz ah fun gt aG ek eU=>?_
  refine qas (i:=0) kz (qaU ek ej (d:=33) (cs:=[.bool false]) kz fun gv eV eW ew ey ab aJ aZ=>?_)
  have bR:=TT.ofW ab aJ
  refine ⟨fun _=>bR,?_⟩
  refine qdM (i:=1) (j:=2) kz ?_ ?_
  ·
   refine (qau aJ aZ (oi:=4) (cs:=[.bool true]) kz fun eX ai ba bS=>?_)
   have bT:=TT.ofW (ab.trans ai) ba
   refine ⟨fun _=>bT,?_⟩
   refine qas (i:=2) kz (qau ba bS (oi:=4) (cs:=[.bool false]) kz fun eY aw aB bU=>?_)
   have bV:=TT.ofW ((ab.trans ai).trans aw) aB
   refine ⟨fun _=>bV,?_⟩
   refine qas (i:=3) kz (qbe [0,2,3,4,29,30,34] aB.cells bU (env':=[(0,.p 0 0),(2,.p 1 0),(3,.p 3 0),(4,.v (.int .i64 ((k1_:Nat):Int))),(29,.v (.int .i64 (((D.f 1).l:Nat):Int))),(30,.v (.int .i64 ((k1_:Nat):Int))),(34,.v (.bool false))]) kz fun eZ bd=>?_)
   have bW:=TT.ofW ((ab.trans ai).trans aw) aB
   refine ⟨fun _=>bW,?_⟩
   refine qaC kz ?_ _
   refine qab ?_
   refine qao bd (b:=false) kz rfl ?_
   refine qcG 20 kz aB fun e9 aK bf aj=>?_
   refine qaE [0,1,2,3,7,8,9,10,11] [(0,.p 0 0),(2,.p 1 0),(3,.p 3 0),(29,.v (.int .i64 (((D.f 1).l:Nat):Int))),(30,.v (.int .i64 ((k1_:Nat):Int))),(56,.v (.slice (some ⟨aa,0,none⟩) 2 2)),(58,.v (.slice (some ⟨aa,0,none⟩) 2 2)),(65,.v (.slice ((D.f 1).A) ((D.f 1).l) ((D.f 1).c))),(66,.v (.int .i64 ((k1_:Nat):Int)))] 12 (qac (qaa (qaa (qac (qaa qaf))))) (fun _ h=>h.cells) aj bd fun fa bX=>?_
   refine qaQ bX (i:=4) (t:=34) (A:=(some ⟨aa,0,none⟩)) (m:=2) (q:=1) (d:=59) kz (e:=37) (size:=5) (bytes:=88) (j:=1) kz (b:=aa) (o:=0) rfl rfl (by decide) kz kz (qac (qaa (qaa (qac (qaa qaf))))) aj fun fb bY=>?_
   have bZ:=bY.recast 59 (.v (.pointer (some ⟨aa,0 + 1 * 5,none⟩))) (.p 2 5) rfl rfl (Nat.le_of_ble_eq_true (n:=3) rfl)
   have b8:=bZ.pk (env':=[(0,.p 0 0),(2,.p 1 0),(3,.p 3 0),(29,.v (.int .i64 (((D.f 1).l:Nat):Int))),(30,.v (.int .i64 ((k1_:Nat):Int))),(56,.v (.slice (some ⟨aa,0,none⟩) 2 2)),(58,.v (.slice (some ⟨aa,0,none⟩) 2 2)),(65,.v (.slice ((D.f 1).A) ((D.f 1).l) ((D.f 1).c))),(66,.v (.int .i64 ((k1_:Nat):Int))),(59,.p 2 5)])
   refine qaE [5,6] [(0,.p 0 0),(2,.p 1 0),(3,.p 3 0),(29,.v (.int .i64 (((D.f 1).l:Nat):Int))),(30,.v (.int .i64 ((k1_:Nat):Int))),(56,.v (.slice (some ⟨aa,0,none⟩) 2 2)),(61,.v (.slice A1_ k1_ c1_)),(65,.v (.slice ((D.f 1).A) ((D.f 1).l) ((D.f 1).c))),(66,.v (.int .i64 ((k1_:Nat):Int)))] 9 (qac (qaa (qaa (qac (qaa qaf))))) (fun _ h=>h.cells) aj b8 fun fe cd=>?_
   obtain ⟨em,eo,ce,ez,bG⟩:=Slots.get g2 (i:=k1_) (by omega)
   refine qaQ cd (i:=12) (t:=158) (A:=(D.f 1).A) (m:=((D.f 1).l)) (q:=((k1_:Nat):Int)) (d:=67) kz (e:=21) (size:=1) (bytes:=4) kz ce rfl (by omega) kz kz (qac (qaa (qaa (qac (qaa qaf))))) aj fun ff cm=>?_
   refine qa8 cm (i:=13) (t:=21) (b:=em) (o:=eo + k1_ * 1) (d:=68) kz (cs:=[.int .i32 (((D.f 1).f k1_).n)]) (v:=.int .i32 (((D.f 1).f k1_).n)) kz (fun w' h'=>(AtF.move bG (TT.step0 bf h') nilM qbb).at_) kz kz (qac (qaa (qaa (qac (qaa qaf))))) aj fun fg cq=>?_
   refine qaE [14,15] [(0,.p 0 0),(2,.p 1 0),(3,.p 3 0),(29,.v (.int .i64 (((D.f 1).l:Nat):Int))),(30,.v (.int .i64 ((k1_:Nat):Int))),(56,.v (.slice (some ⟨aa,0,none⟩) 2 2)),(61,.v (.slice A1_ k1_ c1_)),(70,.v (.agg #[.int .i64 (IntKind.i64.wrap (((D.f 1).f k1_).n)),.slice none 0 0,.bool false,.slice none 0 0,.slice none 0 0]))] 5 (qac (qaa (qaa (qac (qaa qaf))))) (fun _ h=>h.cells) aj cq fun fh cr=>?_
   refine qas (i:=16) kz (qbs bf cr (e:=37) (size:=5) (len:=1) (cs:=[.int .i64 (IntKind.i64.wrap (((D.f 1).f k1_).n)),.slice none 0 0,.bool false,.slice none 0 0,.slice none 0 0]) (d:=71) kz kz fun cu fi fj eB eC ak aC cw=>?_)
   have cz:=TT.ofW ak aC
   refine ⟨fun _=>cz,?_⟩
   refine qas (i:=17) kz (qaV aC cw (k:=0) (d:=72) (t:=34) (e:=37) (size:=5) (bytes:=88) (A:=A1_) (As:=(some ⟨cu,0,none⟩)) (m0:=k1_) (c:=c1_) (m:=1) (cs:=1) (xs:=xs1_) (news:=[.int .i64 (IntKind.i64.wrap (((D.f 1).f k1_).n)),.slice none 0 0,.bool false,.slice none 0 0,.slice none 0 0]) kz kz rfl (qbz (aC.own 1 _ rfl) (qbu kz)) (qbE (aC.own 1 _ rfl)) (by omega) fun aH aI fk fm ax aL cA=>?_)
   have cB:=TT.ofW (ak.trans ax) aL
   refine ⟨fun _=>cB,?_⟩
   refine qas (i:=18) kz (qaA cA (t:=34) (A:=(some ⟨aa,0,none⟩)) (m:=2) (q:=1) (d:=73) kz (e:=37) (size:=5) (bytes:=88) (j:=1) kz (b:=aa) (o:=0) rfl rfl (by decide) fun fo cC=>?_)
   have cD:=cC.recast 73 (.v (.pointer (some ⟨aa,0 + 1 * 5,none⟩))) (.p 2 5) rfl rfl (Nat.le_of_ble_eq_true (n:=3) rfl)
   have cE:=cD.pk (env':=[(0,.p 0 0),(2,.p 1 0),(3,.p 3 0),(29,.v (.int .i64 (((D.f 1).l:Nat):Int))),(30,.v (.int .i64 ((k1_:Nat):Int))),(56,.v (.slice (some ⟨aa,0,none⟩) 2 2)),(61,.v (.slice A1_ k1_ c1_)),(70,.v (.agg #[.int .i64 (IntKind.i64.wrap (((D.f 1).f k1_).n)),.slice none 0 0,.bool false,.slice none 0 0,.slice none 0 0])),(71,.v (.slice (some ⟨cu,0,none⟩) 1 1)),(72,.v (.slice aH (k1_ + 1) aI)),(73,.p 2 5)])
   have bg:=TT.ofW (ak.trans ax) aL
   refine ⟨fun _=>bg,?_⟩
   refine qaE [19] [(0,.p 0 0),(2,.p 1 0),(3,.p 3 0),(29,.v (.int .i64 (((D.f 1).l:Nat):Int))),(30,.v (.int .i64 ((k1_:Nat):Int))),(72,.v (.slice aH (k1_ + 1) aI)),(74,.p 2 8)] 1 (qac (qaa (qaa (qac (qaa qaf))))) (fun _ h=>h.cells) bg cE fun fq cG=>?_
   refine qas (i:=20) kz (qau aL cG (oi:=2) (cs:=[.int .i64 0,.slice (some ⟨au,0,none⟩) ((sb ((D.f 0).s)).length) av,.bool false,.slice none 0 0,.slice none 0 0,.int .i64 0,.slice none 0 0,.bool (((D.f 1).A).isNone),.slice aH (k1_ + 1) aI,.slice none 0 0]) kz fun fr aM bh cH=>?_)
   refine ⟨fun h=>absurd rfl h,?_⟩
   refine qaC kz ?_ _
   refine qar ?_
   refine qab ?_
   refine qaq [0,1] kz ?_
   refine qaj [0,1] [] [(0,.p 0 0),(2,.p 1 0),(3,.p 3 0),(29,.v (.int .i64 (((D.f 1).l:Nat):Int))),(30,.v (.int .i64 (IntKind.i64.wrap (((k1_:Nat):Int) + 1))))] bh cH fun ft cI=>?_
   refine qae (qab ?_)
   obtain ⟨bi,cJ,aN⟩:=bh.cutB cI 4 [⟨b,o,[.string ((D.f 0).s),.slice ((D.f 1).A) ((D.f 1).l) ((D.f 1).c),.map D.m],false⟩,⟨b4,0,[.int .i64 0,.slice none 0 0,.bool false,.slice none 0 0,.slice none 0 0],true⟩,⟨aa,0,[.int .i64 0,.slice (some ⟨au,0,none⟩) ((sb ((D.f 0).s)).length) av,.bool false,.slice none 0 0,.slice none 0 0,.int .i64 0,.slice none 0 0,.bool (((D.f 1).A).isNone),.slice aH (k1_ + 1) aI,.slice none 0 0],true⟩,⟨aA,0,[.int .i64 0,.slice none 0 0,.bool false,.slice (some ⟨aa,0,none⟩) 2 2,.slice none 0 0],true⟩] [(0,.p 0 0),(2,.p 1 0),(3,.p 3 0),(29,.v (.int .i64 (((D.f 1).l:Nat):Int))),(30,.v (.int .i64 (IntKind.i64.wrap (((k1_:Nat):Int) + 1))))]
   obtain ⟨cK,aO⟩:=cJ.cutR 1 [⟨aH,aI,37,5,k1_ + 1,xs1_ ++ [.int .i64 (IntKind.i64.wrap (((D.f 1).f k1_).n)),.slice none 0 0,.bool false,.slice none 0 0,.slice none 0 0]⟩]
   have cL:IntKind.i64.wrap (((k1_:Nat):Int) + 1) = ((k1_ + 1:Nat):Int):=qaP (by omega)
   rw [cL] at bi
   exact ⟨(D.f 1).l - (k1_ + 1),by omega,k1_ + 1,aH,aI,xs1_ ++ [Value.int .i64 (IntKind.i64.wrap (((D.f 1).f k1_).n)),.slice none 0 0,.bool false,.slice none 0 0,.slice none 0 0],(css1_ ++ [[Value.int .i64 (IntKind.i64.wrap (((D.f 1).f k1_).n)),.slice none 0 0,.bool false,.slice none 0 0,.slice none 0 0]]),rfl,by omega,by rw [qcm (by omega)]; exact (hT1_.move (((((((((aG.trans ab).trans ai).trans aw).trans aK).trans ak).trans ax).trans aM).trans aN).trans aO).step immM (((((((((aG.trans ab).trans ai).trans aw).trans aK).trans ak).trans ax).trans aM).trans aN).trans aO).to').snoc (x:=(fun i=>Tree.mk (IntKind.i64.wrap ((D.f 1).f i).n) [] false [] []) k1_) (TreeR.mk (n:=IntKind.i64.wrap (((D.f 1).f k1_).n)) (b:=false) (s:=[]) (l:=[]) (u:=[]) (fun _=>[]) (Octs.nil _ _) (Slots.nil _ _ _ _) (fun i_ x_ h_=>by simp at h_) (TagsR.nil _ _)),bi.pk,cK,((((((((((aY.trans aG).trans ab).trans ai).trans aw).trans aK).trans ak).trans ax).trans aM).trans aN).trans aO)⟩
  refine (qau aJ aZ (oi:=4) (cs:=[.bool false]) kz fun fu al bj cM=>?_)
  have cN:=TT.ofW (ab.trans al) bj
  refine ⟨fun _=>cN,?_⟩
  refine qas (i:=1) kz (qau bj cM (oi:=4) (cs:=[.bool true]) kz fun fv ay aD cO=>?_)
  have cP:=TT.ofW ((ab.trans al).trans ay) aD
  refine ⟨fun _=>cP,?_⟩
  refine qas (i:=3) kz (qbe [0,2,3,4,29,30,34] aD.cells cO (env':=[(0,.p 0 0),(2,.p 1 0),(3,.p 3 0),(4,.v (.int .i64 ((k1_:Nat):Int))),(29,.v (.int .i64 (((D.f 1).l:Nat):Int))),(30,.v (.int .i64 ((k1_:Nat):Int))),(34,.v (.bool true))]) kz fun fw bk=>?_)
  have cQ:=TT.ofW ((ab.trans al).trans ay) aD
  refine ⟨fun _=>cQ,?_⟩
  refine qaC kz ?_ _
  refine qab ?_
  refine qa7 bk (b:=true) kz rfl ?_
  refine qaI 19 kz aD fun fx aP bn am=>?_
  refine qaE [0,1,5,6,7,8,9] [(0,.p 0 0),(2,.p 1 0),(3,.p 3 0),(29,.v (.int .i64 (((D.f 1).l:Nat):Int))),(30,.v (.int .i64 ((k1_:Nat):Int))),(36,.v (.slice (some ⟨aa,0,none⟩) 2 2)),(43,.v (.slice ((D.f 1).A) ((D.f 1).l) ((D.f 1).c))),(44,.v (.int .i64 ((k1_:Nat):Int)))] 13 (qaa (qac (qaa (qaa (qac (qaa qaf)))))) (fun _ h=>h.cells) am bk fun fy cR=>?_
  refine qaQ cR (i:=2) (t:=34) (A:=(some ⟨aa,0,none⟩)) (m:=2) (q:=1) (d:=37) kz (e:=37) (size:=5) (bytes:=88) (j:=1) kz (b:=aa) (o:=0) rfl rfl (by decide) kz kz (qaa (qac (qaa (qaa (qac (qaa qaf)))))) am fun fz cS=>?_
  have cT:=cS.recast 37 (.v (.pointer (some ⟨aa,0 + 1 * 5,none⟩))) (.p 2 5) rfl rfl (Nat.le_of_ble_eq_true (n:=3) rfl)
  have cU:=cT.pk (env':=[(0,.p 0 0),(2,.p 1 0),(3,.p 3 0),(29,.v (.int .i64 (((D.f 1).l:Nat):Int))),(30,.v (.int .i64 ((k1_:Nat):Int))),(36,.v (.slice (some ⟨aa,0,none⟩) 2 2)),(43,.v (.slice ((D.f 1).A) ((D.f 1).l) ((D.f 1).c))),(44,.v (.int .i64 ((k1_:Nat):Int))),(37,.p 2 5)])
  refine qaE [3,4,14] [(0,.p 0 0),(2,.p 1 0),(3,.p 3 0),(29,.v (.int .i64 (((D.f 1).l:Nat):Int))),(30,.v (.int .i64 ((k1_:Nat):Int))),(36,.v (.slice (some ⟨aa,0,none⟩) 2 2)),(39,.v (.slice A1_ k1_ c1_)),(43,.v (.slice ((D.f 1).A) ((D.f 1).l) ((D.f 1).c))),(44,.v (.int .i64 ((k1_:Nat):Int))),(49,.v (.int .i64 ((k1_:Nat):Int)))] 9 (qaa (qac (qaa (qaa (qac (qaa qaf)))))) (fun _ h=>h.cells) am cU fun fA cV=>?_
  obtain ⟨ep,eu,cW,eD,bH⟩:=Slots.get g2 (i:=k1_) (by omega)
  refine qaQ cV (i:=10) (t:=158) (A:=(D.f 1).A) (m:=((D.f 1).l)) (q:=((k1_:Nat):Int)) (d:=45) kz (e:=21) (size:=1) (bytes:=4) kz cW rfl (by omega) kz kz (qaa (qac (qaa (qaa (qac (qaa qaf)))))) am fun fB cX=>?_
  refine qa8 cX (i:=11) (t:=21) (b:=ep) (o:=eu + k1_ * 1) (d:=46) kz (cs:=[.int .i32 (((D.f 1).f k1_).n)]) (v:=.int .i32 (((D.f 1).f k1_).n)) kz (fun w' h'=>(AtF.move bH (TT.step0 bn h') nilM qbb).at_) kz kz (qaa (qac (qaa (qaa (qac (qaa qaf)))))) am fun fC cY=>?_
  refine qaE [12,13] [(0,.p 0 0),(2,.p 1 0),(3,.p 3 0),(29,.v (.int .i64 (((D.f 1).l:Nat):Int))),(30,.v (.int .i64 ((k1_:Nat):Int))),(36,.v (.slice (some ⟨aa,0,none⟩) 2 2)),(39,.v (.slice A1_ k1_ c1_)),(48,.v (.agg #[.int .i64 (IntKind.i64.wrap (((D.f 1).f k1_).n)),.slice none 0 0,.bool false,.slice none 0 0,.slice none 0 0])),(49,.v (.int .i64 ((k1_:Nat):Int)))] 5 (qaa (qac (qaa (qaa (qac (qaa qaf)))))) (fun _ h=>h.cells) am cY fun fD cZ=>?_
  refine qas (i:=15) kz (qbs bn cZ (e:=37) (size:=5) (len:=1) (cs:=[.int .i64 0,.slice none 0 0,.bool false,.slice none 0 0,.slice none 0 0]) (d:=50) kz kz fun bI fE fF eE eF ao aE c5=>?_)
  have c6:=TT.ofW ao aE
  refine ⟨fun _=>c6,?_⟩
  refine qas (i:=16) kz (qaV aE c5 (k:=0) (d:=51) (t:=34) (e:=37) (size:=5) (bytes:=88) (A:=A1_) (As:=(some ⟨bI,0,none⟩)) (m0:=k1_) (c:=c1_) (m:=1) (cs:=1) (xs:=xs1_) (news:=[.int .i64 0,.slice none 0 0,.bool false,.slice none 0 0,.slice none 0 0]) kz kz rfl (qbz (aE.own 1 _ rfl) (qbu kz)) (qbE (aE.own 1 _ rfl)) (by omega) fun ac ag fG fH az aQ da=>?_)
  have db:=TT.ofW (ao.trans az) aQ
  refine ⟨fun _=>db,?_⟩
  refine qas (i:=17) kz (qaA da (t:=34) (A:=(some ⟨aa,0,none⟩)) (m:=2) (q:=1) (d:=52) kz (e:=37) (size:=5) (bytes:=88) (j:=1) kz (b:=aa) (o:=0) rfl rfl (by decide) fun fI dc=>?_)
  have de:=dc.recast 52 (.v (.pointer (some ⟨aa,0 + 1 * 5,none⟩))) (.p 2 5) rfl rfl (Nat.le_of_ble_eq_true (n:=3) rfl)
  have df:=de.pk (env':=[(0,.p 0 0),(2,.p 1 0),(3,.p 3 0),(29,.v (.int .i64 (((D.f 1).l:Nat):Int))),(30,.v (.int .i64 ((k1_:Nat):Int))),(36,.v (.slice (some ⟨aa,0,none⟩) 2 2)),(39,.v (.slice A1_ k1_ c1_)),(48,.v (.agg #[.int .i64 (IntKind.i64.wrap (((D.f 1).f k1_).n)),.slice none 0 0,.bool false,.slice none 0 0,.slice none 0 0])),(49,.v (.int .i64 ((k1_:Nat):Int))),(50,.v (.slice (some ⟨bI,0,none⟩) 1 1)),(51,.v (.slice ac (k1_ + 1) ag)),(52,.p 2 5)])
  have bo:=TT.ofW (ao.trans az) aQ
  refine ⟨fun _=>bo,?_⟩
  refine qaE [18] [(0,.p 0 0),(2,.p 1 0),(3,.p 3 0),(29,.v (.int .i64 (((D.f 1).l:Nat):Int))),(30,.v (.int .i64 ((k1_:Nat):Int))),(48,.v (.agg #[.int .i64 (IntKind.i64.wrap (((D.f 1).f k1_).n)),.slice none 0 0,.bool false,.slice none 0 0,.slice none 0 0])),(49,.v (.int .i64 ((k1_:Nat):Int))),(51,.v (.slice ac (k1_ + 1) ag)),(53,.p 2 8)] 1 (qaa (qac (qaa (qaa (qac (qaa qaf)))))) (fun _ h=>h.cells) bo df fun fJ dg=>?_
  refine qas (i:=19) kz (qau aQ dg (oi:=2) (cs:=[.int .i64 0,.slice (some ⟨au,0,none⟩) ((sb ((D.f 0).s)).length) av,.bool false,.slice none 0 0,.slice none 0 0,.int .i64 0,.slice none 0 0,.bool (((D.f 1).A).isNone),.slice ac (k1_ + 1) ag,.slice none 0 0]) kz fun ev aR bp dh=>?_)
  refine ⟨fun h=>absurd rfl h,?_⟩
  refine qaC kz ?_ _
  refine qab ?_
  refine qaq [0,1] kz ?_
  have di:World.ownsRow ev 0 37 5 (.slice ac (k1_ + 1) ag) (k1_ + 1) (xs1_ ++ [.int .i64 0,.slice none 0 0,.bool false,.slice none 0 0,.slice none 0 0]):=bp.own 0 _ rfl
  obtain ⟨dj,bq⟩:=qb0 di (by omega)
  refine qal (qaA dh (t:=34) (A:=ac) (m:=(k1_ + 1)) (q:=((k1_:Nat):Int)) (d:=54) kz (e:=37) (size:=5) (bytes:=88) kz (b:=dj) (o:=0) (j:=k1_) bq (rfl) (by omega) fun fK dl=>?_)
  refine qal (qbW bp dl (k:=0) (g:=dj) (o:=k1_ * 5) (c:=ag) (m:=(k1_ + 1)) (size:=5) (e:=37) (A:=ac) (xs:=(xs1_ ++ [.int .i64 0,.slice none 0 0,.bool false,.slice none 0 0,.slice none 0 0])) (vs:=[.int .i64 (IntKind.i64.wrap (((D.f 1).f k1_).n)),.slice none 0 0,.bool false,.slice none 0 0,.slice none 0 0]) kz rfl bq (by simp only [List.length_cons,List.length_nil]; omega) fun fL aS dp dq=>?_)
  have dr:(⟨ac,ag,37,5,k1_ + 1,qbl (xs1_ ++ [.int .i64 0,.slice none 0 0,.bool false,.slice none 0 0,.slice none 0 0]) (k1_ * 5) [.int .i64 (IntKind.i64.wrap (((D.f 1).f k1_).n)),.slice none 0 0,.bool false,.slice none 0 0,.slice none 0 0]⟩:Rw) = ⟨ac,ag,37,5,k1_ + 1,xs1_ ++ [.int .i64 (IntKind.i64.wrap (((D.f 1).f k1_).n)),.slice none 0 0,.bool false,.slice none 0 0,.slice none 0 0]⟩:=by rw [qcX (by rw [hT1_.xslen,List.length_take,qb7]; omega)]
  obtain ⟨bt,aT⟩:=dp.rowEq 0 [⟨ac,ag,37,5,k1_ + 1,xs1_ ++ [.int .i64 (IntKind.i64.wrap (((D.f 1).f k1_).n)),.slice none 0 0,.bool false,.slice none 0 0,.slice none 0 0]⟩,⟨some ⟨bI,0,none⟩,1,37,5,1,[.int .i64 0,.slice none 0 0,.bool false,.slice none 0 0,.slice none 0 0]⟩] dr
  refine qae ?_
  refine qar ?_
  refine qab ?_
  refine qaq [0,1] kz ?_
  refine qaj [0,1] [] [(0,.p 0 0),(2,.p 1 0),(3,.p 3 0),(29,.v (.int .i64 (((D.f 1).l:Nat):Int))),(30,.v (.int .i64 (IntKind.i64.wrap (((k1_:Nat):Int) + 1))))] bt dq fun fM dt=>?_
  refine qae (qab ?_)
  obtain ⟨bu,du,aU⟩:=bt.cutB dt 4 [⟨b,o,[.string ((D.f 0).s),.slice ((D.f 1).A) ((D.f 1).l) ((D.f 1).c),.map D.m],false⟩,⟨b4,0,[.int .i64 0,.slice none 0 0,.bool false,.slice none 0 0,.slice none 0 0],true⟩,⟨aa,0,[.int .i64 0,.slice (some ⟨au,0,none⟩) ((sb ((D.f 0).s)).length) av,.bool false,.slice none 0 0,.slice none 0 0,.int .i64 0,.slice none 0 0,.bool (((D.f 1).A).isNone),.slice ac (k1_ + 1) ag,.slice none 0 0],true⟩,⟨aA,0,[.int .i64 0,.slice none 0 0,.bool false,.slice (some ⟨aa,0,none⟩) 2 2,.slice none 0 0],true⟩] [(0,.p 0 0),(2,.p 1 0),(3,.p 3 0),(29,.v (.int .i64 (((D.f 1).l:Nat):Int))),(30,.v (.int .i64 (IntKind.i64.wrap (((k1_:Nat):Int) + 1))))]
  obtain ⟨dv,aV⟩:=du.cutR 1 [⟨ac,ag,37,5,k1_ + 1,xs1_ ++ [.int .i64 (IntKind.i64.wrap (((D.f 1).f k1_).n)),.slice none 0 0,.bool false,.slice none 0 0,.slice none 0 0]⟩]
  have dw:IntKind.i64.wrap (((k1_:Nat):Int) + 1) = ((k1_ + 1:Nat):Int):=qaP (by omega)
  rw [dw] at bu
  exact ⟨(D.f 1).l - (k1_ + 1),by omega,k1_ + 1,ac,ag,xs1_ ++ [Value.int .i64 (IntKind.i64.wrap (((D.f 1).f k1_).n)),.slice none 0 0,.bool false,.slice none 0 0,.slice none 0 0],(css1_ ++ [[Value.int .i64 (IntKind.i64.wrap (((D.f 1).f k1_).n)),.slice none 0 0,.bool false,.slice none 0 0,.slice none 0 0]]),rfl,by omega,by rw [qcm (by omega)]; exact (hT1_.move (((((((((((aG.trans ab).trans al).trans ay).trans aP).trans ao).trans az).trans aR).trans aS).trans aT).trans aU).trans aV).step immM (((((((((((aG.trans ab).trans al).trans ay).trans aP).trans ao).trans az).trans aR).trans aS).trans aT).trans aU).trans aV).to').snoc (x:=(fun i=>Tree.mk (IntKind.i64.wrap ((D.f 1).f i).n) [] false [] []) k1_) (TreeR.mk (n:=IntKind.i64.wrap (((D.f 1).f k1_).n)) (b:=false) (s:=[]) (l:=[]) (u:=[]) (fun _=>[]) (Octs.nil _ _) (Slots.nil _ _ _ _) (fun i_ x_ h_=>by simp at h_) (TagsR.nil _ _)),bu.pk,dv,((((((((((((aY.trans aG).trans ab).trans al).trans ay).trans aP).trans ao).trans az).trans aR).trans aS).trans aT).trans aU).trans aV)⟩
 have eG:=of_decide_eq_false bF
 refine wp_exit ?_
 refine qaw ?_
 refine qaw ?_
 refine qaL ?_
 refine qab ?_
 refine qad [0,1,2,3,4] kz ?_
 refine qaj [0,1,2] [3,4] [(2,.p 1 0),(3,.p 3 0),(78,.p 0 2)] ah bE fun fN dx=>?_
 refine qal (qeM dx (v:=.func (.func 140) #[] #[.pointer (some ⟨aA,0,none⟩)]) (d:=79) kz fun fO dy=>?_)
 refine qal (qak dy (f:=64) (vs:=[.pointer (some ⟨b,o + 2,none⟩),.func (.func 140) #[] #[.pointer (some ⟨aA,0,none⟩)]]) (d:=80) kz Tryz.call64 (qfl (F:=(Imm F w eP [⟨b,o,[.string ((D.f 0).s),.slice ((D.f 1).A) ((D.f 1).l) ((D.f 1).c),.map D.m],false⟩,⟨b4,0,[.int .i64 0,.slice none 0 0,.bool false,.slice none 0 0,.slice none 0 0],true⟩,⟨aa,0,[.int .i64 0,.slice (some ⟨au,0,none⟩) ((sb ((D.f 0).s)).length) av,.bool false,.slice none 0 0,.slice none 0 0,.int .i64 0,.slice none 0 0,.bool (((D.f 1).A).isNone),.slice A1_ k1_ c1_,.slice none 0 0],true⟩,⟨aA,0,[.int .i64 0,.slice none 0 0,.bool false,.slice (some ⟨aa,0,none⟩) 2 2,.slice none 0 0],true⟩] [⟨A1_,c1_,37,5,k1_,xs1_⟩])) Tryz.call140 qbR ((hat.one 2 rfl).move ah.step nilM ah.imm) (g3.move ah.step nilM ah.imm) (Str.of ah 3 rfl) (qjZ 3 rfl) g3l) ?_)
 rintro e_ fP ⟨rfl,ae,af,bJ,dz,dA⟩
 obtain ⟨aW,aF,dB⟩:=ah.wrote 3 [⟨b,o,[.string ((D.f 0).s),.slice ((D.f 1).A) ((D.f 1).l) ((D.f 1).c),.map D.m],false⟩,⟨b4,0,[.int .i64 0,.slice none 0 0,.bool false,.slice none 0 0,.slice none 0 0],true⟩,⟨aa,0,[.int .i64 0,.slice (some ⟨au,0,none⟩) ((sb ((D.f 0).s)).length) av,.bool false,.slice none 0 0,.slice none 0 0,.int .i64 0,.slice none 0 0,.bool (((D.f 1).A).isNone),.slice A1_ k1_ c1_,.slice none 0 0],true⟩,⟨aA,0,[.int .i64 0,.slice none 0 0,.bool false,.slice (some ⟨aa,0,none⟩) 2 2,.slice ae D.u.length af],true⟩] rfl dA bJ
 have bw:=dz.move (Step.refl _ Nil) nilM (fun b_ o_ h_ hb_=>dB (G:=F) b_ o_ (.inr h_) hb_)
 refine ⟨_,rfl,fun fQ dC=>?_⟩
 have dD:=(EnvOk.places (tb':=[⟨b,o,[.string ((D.f 0).s),.slice ((D.f 1).A) ((D.f 1).l) ((D.f 1).c),.map D.m],false⟩,⟨b4,0,[.int .i64 0,.slice none 0 0,.bool false,.slice none 0 0,.slice none 0 0],true⟩,⟨aa,0,[.int .i64 0,.slice (some ⟨au,0,none⟩) ((sb ((D.f 0).s)).length) av,.bool false,.slice none 0 0,.slice none 0 0,.int .i64 0,.slice none 0 0,.bool (((D.f 1).A).isNone),.slice A1_ k1_ c1_,.slice none 0 0],true⟩,⟨aA,0,[.int .i64 0,.slice none 0 0,.bool false,.slice (some ⟨aa,0,none⟩) 2 2,.slice ae D.u.length af],true⟩]) dC (show Pl [⟨b,o,[.string ((D.f 0).s),.slice ((D.f 1).A) ((D.f 1).l) ((D.f 1).c),.map D.m],false⟩,⟨b4,0,[.int .i64 0,.slice none 0 0,.bool false,.slice none 0 0,.slice none 0 0],true⟩,⟨aa,0,[.int .i64 0,.slice (some ⟨au,0,none⟩) ((sb ((D.f 0).s)).length) av,.bool false,.slice none 0 0,.slice none 0 0,.int .i64 0,.slice none 0 0,.bool (((D.f 1).A).isNone),.slice A1_ k1_ c1_,.slice none 0 0],true⟩,⟨aA,0,[.int .i64 0,.slice none 0 0,.bool false,.slice (some ⟨aa,0,none⟩) 2 2,.slice none 0 0],true⟩] [⟨b,o,[.string ((D.f 0).s),.slice ((D.f 1).A) ((D.f 1).l) ((D.f 1).c),.map D.m],false⟩,⟨b4,0,[.int .i64 0,.slice none 0 0,.bool false,.slice none 0 0,.slice none 0 0],true⟩,⟨aa,0,[.int .i64 0,.slice (some ⟨au,0,none⟩) ((sb ((D.f 0).s)).length) av,.bool false,.slice none 0 0,.slice none 0 0,.int .i64 0,.slice none 0 0,.bool (((D.f 1).A).isNone),.slice A1_ k1_ c1_,.slice none 0 0],true⟩,⟨aA,0,[.int .i64 0,.slice none 0 0,.bool false,.slice (some ⟨aa,0,none⟩) 2 2,.slice ae D.u.length af],true⟩] from ⟨rfl,rfl,⟨rfl,rfl,⟨rfl,rfl,⟨rfl,rfl,trivial⟩⟩⟩⟩)).pk (env':=[(80,.v (.tuple #[])),(2,.p 1 0),(3,.p 3 0),(78,.p 0 2),(79,.v (.func (.func 140) #[] #[.pointer (some ⟨aA,0,none⟩)]))])
 refine qae (qab ?_)
 refine qad [0,1,2] kz ?_
 refine qaj [0,1] [2] [(2,.p 1 0),(3,.p 3 0),(82,.v (.slice ae D.u.length af))] aW dD fun fR dE=>?_
 refine qal (qak dE (f:=66) (vs:=[.slice ae D.u.length af]) (d:=83) kz Tryz.call66 (qhi bw g3.sorted) ?_)
 rintro e_ fS ⟨rfl,bx⟩
 refine ⟨_,rfl,fun fT dF=>?_⟩
 have bz:=aW.next_nil bx
 have ap:=aW.frN bx
 refine qae (qab ?_)
 refine qad [0,1] kz ?_
 refine qaj [0] [1] [(2,.p 1 0),(84,.v (.agg #[.int .i64 0,.slice none 0 0,.bool false,.slice (some ⟨aa,0,none⟩) 2 2,.slice ae D.u.length af]))] bz dF fun fU dG=>?_
 refine qal (qau bz dG (oi:=1) (cs:=[.int .i64 0,.slice none 0 0,.bool false,.slice (some ⟨aa,0,none⟩) 2 2,.slice ae D.u.length af]) kz fun dH ar aX dI=>?_)
 refine qae (qab ?_)
 refine wp_ret ?_
 refine qaK dI aX.cells (v:=.agg #[.int .i64 0,.slice none 0 0,.bool false,.slice (some ⟨aa,0,none⟩) 2 2,.slice ae D.u.length af]) kz ?_
 have bA:=(hT1_.move ((aF.trans ap).trans ar).step immM ((aF.trans ap).trans ar).to')
 rw [qf8 (by omega)] at bA
 exact qf9 (u:=D.u) (l:=[.mk 0 (sb (D.f 0).s) false [] [],.mk 0 [] (D.f 1).A.isNone ((List.range (D.f 1).l).map fun i=>.mk (IntKind.i64.wrap ((D.f 1).f i).n) [] false [] []) []]) (css:=[[.int .i64 0,.slice (some ⟨au,0,none⟩) ((sb ((D.f 0).s)).length) av,.bool false,.slice none 0 0,.slice none 0 0],[.int .i64 0,.slice none 0 0,.bool (((D.f 1).A).isNone),.slice A1_ k1_ c1_,.slice none 0 0]]) aX 2 rfl ⟨(show TreeR _ (Imm F w dH [⟨b,o,[.string ((D.f 0).s),.slice ((D.f 1).A) ((D.f 1).l) ((D.f 1).c),.map D.m],false⟩,⟨b4,0,[.int .i64 0,.slice none 0 0,.bool false,.slice (some ⟨aa,0,none⟩) 2 2,.slice ae D.u.length af],true⟩,⟨aa,0,[.int .i64 0,.slice (some ⟨au,0,none⟩) ((sb ((D.f 0).s)).length) av,.bool false,.slice none 0 0,.slice none 0 0,.int .i64 0,.slice none 0 0,.bool (((D.f 1).A).isNone),.slice A1_ k1_ c1_,.slice none 0 0],true⟩,⟨aA,0,[.int .i64 0,.slice none 0 0,.bool false,.slice (some ⟨aa,0,none⟩) 2 2,.slice ae D.u.length af],true⟩] [⟨A1_,c1_,37,5,k1_,xs1_⟩]) _ _ from (TreeR.mk (n:=0) (b:=false) (s:=(sb ((D.f 0).s))) (l:=[]) (u:=[]) (fun _=>[]) (dX.move (((((((bM.trans bN).trans bO).trans bQ).trans aY).trans aF).trans ap).trans ar).step immM (((((((bM.trans bN).trans bO).trans bQ).trans aY).trans aF).trans ap).trans ar).to') (Slots.nil _ _ _ _) (fun i_ x_ h_=>by simp at h_) (TagsR.nil _ _))).move (Step.refl _ Nil) nilM qcT,qfm aX (k:=0) rfl bA (by rw [qb7]; omega) (by rw [qb7]; omega),trivial⟩ ((show TagsR _ (Imm F w dH [⟨b,o,[.string ((D.f 0).s),.slice ((D.f 1).A) ((D.f 1).l) ((D.f 1).c),.map D.m],false⟩,⟨b4,0,[.int .i64 0,.slice none 0 0,.bool false,.slice (some ⟨aa,0,none⟩) 2 2,.slice ae D.u.length af],true⟩,⟨aa,0,[.int .i64 0,.slice (some ⟨au,0,none⟩) ((sb ((D.f 0).s)).length) av,.bool false,.slice none 0 0,.slice none 0 0,.int .i64 0,.slice none 0 0,.bool (((D.f 1).A).isNone),.slice A1_ k1_ c1_,.slice none 0 0],true⟩,⟨aA,0,[.int .i64 0,.slice none 0 0,.bool false,.slice (some ⟨aa,0,none⟩) 2 2,.slice ae D.u.length af],true⟩] [⟨A1_,c1_,37,5,k1_,xs1_⟩]) _ _ _ from (bw.move (ap.trans ar).step immM (ap.trans ar).to')).move (Step.refl _ Nil) nilM qcT)
set_option maxHeartbeats 4000000 in
theorem qbk (v:Int) (D:DV) (b o:Nat) (w:World) (F:Nat → Nat → Prop) (hat:AtF w F b o [.string ((D.f 0).s),.slice ((D.f 1).A) ((D.f 1).l) ((D.f 1).c),.map D.m]) (hok:qaN w F D):Calls Tryz.prog 84 #[.pointer (some ⟨b,o,none⟩)] w (qe4 w F (qaO D)):=by
 refine enter (n:=81) Tryz.func84 rfl Tryz.ntmps84 kz fun a hE=>?_
 have hW:WOk w Nil w [⟨b,o,[.string ((D.f 0).s),.slice ((D.f 1).A) ((D.f 1).l) ((D.f 1).c),.map D.m],false⟩] []:=(WOk.start w Nil).start1 hat rfl rfl
 unfold qaN at hok
 obtain ⟨g1,⟨g2,g2l,g2e⟩,g3,g3l,g3x,_⟩:=hok
 have hE0:=(EnvOk.ptr0 (cs:=[.string ((D.f 0).s),.slice ((D.f 1).A) ((D.f 1).l) ((D.f 1).c),.map D.m]) (r:=false) hE).pk (env':=[(0,.p 0 0)])
 refine qad [0] kz ?_
 refine qal (qaU hW hE0 (d:=2) (cs:=[.int .i64 0,.slice none 0 0,.bool false,.slice none 0 0,.slice none 0 0]) kz fun b4 a5 w6 hb7 hz8 hF9 fI fJ=>?_)
 refine qae (qab ?_)
 refine qad [0,1,2,3] kz ?_
 refine qal (qeC (t:=34) (e:=37) (size:=5) (bytes:=88) (d:=5) (j:=2) (.agg #[.int .i64 0,.slice none 0 0,.bool false,.slice none 0 0,.slice none 0 0]) [.int .i64 0,.slice none 0 0,.bool false,.slice none 0 0,.slice none 0 0,.int .i64 0,.slice none 0 0,.bool false,.slice none 0 0,.slice none 0 0] fI fJ fun aa ju jv gY gZ g6 dw fK=>?_)
 refine qaj [1] [2,3] [(0,.p 0 0),(2,.p 1 0),(6,.v (.agg #[.int .i64 0,.slice none 0 0,.bool false,.slice (some ⟨aa,0,none⟩) 2 2,.slice none 0 0]))] dw fK fun jw fL=>?_
 refine qal (qaU dw fL (d:=3) (cs:=[.int .i64 0,.slice none 0 0,.bool false,.slice none 0 0,.slice none 0 0]) kz fun bC jx jy g7 g8 g9 fM fN=>?_)
 refine qal (qau fM fN (oi:=3) (cs:=[.int .i64 0,.slice none 0 0,.bool false,.slice (some ⟨aa,0,none⟩) 2 2,.slice none 0 0]) kz fun jz hC fO fP=>?_)
 refine qae (qab ?_)
 refine qaI 9 kz fO fun jA hJ fQ fR=>?_
 refine qaE [0,1,2,3,4,5] [(0,.p 0 0),(2,.p 1 0),(3,.p 3 0),(8,.v (.slice (some ⟨aa,0,none⟩) 2 2)),(12,.v (.string ((D.f 0).s)))] 4 (qaa qaf) (fun _ h=>h.cells) fR fP fun jB fS=>?_
 refine qas (i:=6) kz (qfG (d:=13) (src:=9) (dst:=22) (e:=5) (s:=((D.f 0).s)) fQ fS (by omega) fun aB aC jC jD fT dx fU fV=>?_)
 have fW:=fU F
 have di:=TT.ofW fT dx
 refine ⟨fun _=>di,?_⟩
 refine qaE [7] [(0,.p 0 0),(2,.p 1 0),(3,.p 3 0),(8,.v (.slice (some ⟨aa,0,none⟩) 2 2)),(14,.v (.agg #[.int .i64 0,.slice (some ⟨aB,0,none⟩) ((sb ((D.f 0).s)).length) aC,.bool false,.slice none 0 0,.slice none 0 0]))] 2 (qaa qaf) (fun _ h=>h.cells) di fV fun jE fX=>?_
 refine qaQ fX (i:=8) (t:=34) (A:=(some ⟨aa,0,none⟩)) (m:=2) (q:=0) (d:=15) kz (e:=37) (size:=5) (bytes:=88) (j:=0) kz (b:=aa) (o:=0) rfl rfl (by decide) kz kz (qaa qaf) di fun jF fY=>?_
 have fZ:=fY.recast 15 (.v (.pointer (some ⟨aa,0 + 0 * 5,none⟩))) (.p 2 0) rfl rfl (Nat.le_of_ble_eq_true (n:=3) rfl)
 have f7:=fZ.pk (env':=[(0,.p 0 0),(2,.p 1 0),(3,.p 3 0),(8,.v (.slice (some ⟨aa,0,none⟩) 2 2)),(14,.v (.agg #[.int .i64 0,.slice (some ⟨aB,0,none⟩) ((sb ((D.f 0).s)).length) aC,.bool false,.slice none 0 0,.slice none 0 0])),(15,.p 2 0)])
 refine qas (i:=9) kz (qau dx f7 (oi:=2) (cs:=[.int .i64 0,.slice (some ⟨aB,0,none⟩) ((sb ((D.f 0).s)).length) aC,.bool false,.slice none 0 0,.slice none 0 0,.int .i64 0,.slice none 0 0,.bool false,.slice none 0 0,.slice none 0 0]) kz fun jG dy f8 f9=>?_)
 refine ⟨fun h=>absurd rfl h,?_⟩
 refine qaC kz ?_ _
 refine qab ?_
 refine qaI 9 kz f8 fun jH dz ga dj=>?_
 refine qaE [0,1,2,3,4,5,6] [(0,.p 0 0),(2,.p 1 0),(3,.p 3 0),(17,.v (.slice (some ⟨aa,0,none⟩) 2 2)),(22,.v (.bool (((D.f 1).A).isNone)))] 3 (qaa qaf) (fun _ h=>h.cells) dj f9 fun jI gb=>?_
 refine qas (i:=7) kz (qaA gb (t:=34) (A:=(some ⟨aa,0,none⟩)) (m:=2) (q:=1) (d:=23) kz (e:=37) (size:=5) (bytes:=88) (j:=1) kz (b:=aa) (o:=0) rfl rfl (by decide) fun jJ gc=>?_)
 have gd:=gc.recast 23 (.v (.pointer (some ⟨aa,0 + 1 * 5,none⟩))) (.p 2 5) rfl rfl (Nat.le_of_ble_eq_true (n:=3) rfl)
 have ge:=gd.pk (env':=[(0,.p 0 0),(2,.p 1 0),(3,.p 3 0),(17,.v (.slice (some ⟨aa,0,none⟩) 2 2)),(22,.v (.bool (((D.f 1).A).isNone))),(23,.p 2 5)])
 refine ⟨fun _=>dj,?_⟩
 refine qaE [8] [(0,.p 0 0),(2,.p 1 0),(3,.p 3 0),(22,.v (.bool (((D.f 1).A).isNone))),(24,.p 2 7)] 1 (qaa qaf) (fun _ h=>h.cells) dj ge fun jK gg=>?_
 refine qas (i:=9) kz (qau ga gg (oi:=2) (cs:=[.int .i64 0,.slice (some ⟨aB,0,none⟩) ((sb ((D.f 0).s)).length) aC,.bool false,.slice none 0 0,.slice none 0 0,.int .i64 0,.slice none 0 0,.bool (((D.f 1).A).isNone),.slice none 0 0,.slice none 0 0]) kz fun jL dA dl gh=>?_)
 refine ⟨fun h=>absurd rfl h,?_⟩
 refine qaC kz ?_ _
 refine qab ?_
 refine wp_seq ?_
 refine qap [(0,.p 0 0),(2,.p 1 0),(3,.p 3 0),(29,.v (.int .i64 (((D.f 1).l:Nat):Int))),(30,.v (.int .i64 0))] dl gh fun jM gi=>?_
 refine wp_block ?_
 have dB:=dl.addNil 37 5
 have dC:=dl.frNil 37 5
 refine wp_loop_ghost (fun n_ a_ w_=>∃ (k1_:Nat) (A1_:Option Addr) (c1_:Nat) (xs1_:List Value) (css1_:List (List Value)),n_ = (D.f 1).l - k1_ ∧ k1_ ≤ (D.f 1).l ∧ (Trees w_ (Imm F w w_ [⟨b,o,[.string ((D.f 0).s),.slice ((D.f 1).A) ((D.f 1).l) ((D.f 1).c),.map D.m],false⟩,⟨b4,0,[.int .i64 0,.slice none 0 0,.bool false,.slice none 0 0,.slice none 0 0],true⟩,⟨aa,0,[.int .i64 0,.slice (some ⟨aB,0,none⟩) ((sb ((D.f 0).s)).length) aC,.bool false,.slice none 0 0,.slice none 0 0,.int .i64 0,.slice none 0 0,.bool (((D.f 1).A).isNone),.slice A1_ k1_ c1_,.slice none 0 0],true⟩,⟨bC,0,[.int .i64 0,.slice none 0 0,.bool false,.slice (some ⟨aa,0,none⟩) 2 2,.slice none 0 0],true⟩] [⟨A1_,c1_,37,5,k1_,xs1_⟩]) xs1_ (((List.range (D.f 1).l).map (fun i=>qaH ((D.f 1).f i))).take k1_) css1_) ∧ LInv dB 81 [⟨b,o,[.string ((D.f 0).s),.slice ((D.f 1).A) ((D.f 1).l) ((D.f 1).c),.map D.m],false⟩,⟨b4,0,[.int .i64 0,.slice none 0 0,.bool false,.slice none 0 0,.slice none 0 0],true⟩,⟨aa,0,[.int .i64 0,.slice (some ⟨aB,0,none⟩) ((sb ((D.f 0).s)).length) aC,.bool false,.slice none 0 0,.slice none 0 0,.int .i64 0,.slice none 0 0,.bool (((D.f 1).A).isNone),.slice A1_ k1_ c1_,.slice none 0 0],true⟩,⟨bC,0,[.int .i64 0,.slice none 0 0,.bool false,.slice (some ⟨aa,0,none⟩) 2 2,.slice none 0 0],true⟩] [⟨A1_,c1_,37,5,k1_,xs1_⟩] [(0,.p 0 0),(2,.p 1 0),(3,.p 3 0),(29,.v (.int .i64 (((D.f 1).l:Nat):Int))),(30,.v (.int .i64 ((k1_:Nat):Int)))] a_ w_) ((D.f 1).l) ⟨0,none,0,[],[],by omega,by omega,Trees.nil _ _,gi.pk,dB,Fr.refl _ _ _⟩ ?_
 rintro jN jO hK ⟨k1_,A1_,c1_,xs1_,css1_,hZ,ia,hT1_,gj,aA,bY⟩
 refine qap [(0,.p 0 0),(2,.p 1 0),(3,.p 3 0),(29,.v (.int .i64 (((D.f 1).l:Nat):Int))),(30,.v (.int .i64 ((k1_:Nat):Int))),(31,.v (.bool (decide (((k1_:Nat):Int) < (((D.f 1).l:Nat):Int)))))] aA gj fun jP dp=>?_
 refine wp_seq ?_
 refine qav dp (b:=decide (((k1_:Nat):Int) < (((D.f 1).l:Nat):Int))) kz (fun dq=>?_) (fun dq=>?_)
 ·
  have ib:=of_decide_eq_true dq
  refine wp_skip ?_
  refine qab ?_
  refine wp_seq ?_
  refine wp_block ?_
  refine qap [(0,.p 0 0),(2,.p 1 0),(3,.p 3 0),(4,.v (.int .i64 ((k1_:Nat):Int))),(29,.v (.int .i64 (((D.f 1).l:Nat):Int))),(30,.v (.int .i64 ((k1_:Nat):Int)))] aA dp fun jQ gk=>?_
  refine qaI 4 kz aA fun jR aI gl ic=>?_
  refine qas (i:=0) kz (qaU gl gk (d:=33) (cs:=[.bool false]) kz fun jS ig ii gE gF ab bZ cK=>?_)
  have dD:=TT.ofW ab bZ
  refine ⟨fun _=>dD,?_⟩
  refine qdM (i:=1) (j:=2) kz ?_ ?_
  ·
   refine (qau bZ cK (oi:=4) (cs:=[.bool true]) kz fun ij aD cL dE=>?_)
   have dF:=TT.ofW (ab.trans aD) cL
   refine ⟨fun _=>dF,?_⟩
   refine qas (i:=2) kz (qau cL dE (oi:=4) (cs:=[.bool false]) kz fun ik bi bD dG=>?_)
   have dH:=TT.ofW ((ab.trans aD).trans bi) bD
   refine ⟨fun _=>dH,?_⟩
   refine qas (i:=3) kz (qbe [0,2,3,4,29,30,34] bD.cells dG (env':=[(0,.p 0 0),(2,.p 1 0),(3,.p 3 0),(4,.v (.int .i64 ((k1_:Nat):Int))),(29,.v (.int .i64 (((D.f 1).l:Nat):Int))),(30,.v (.int .i64 ((k1_:Nat):Int))),(34,.v (.bool false))]) kz fun il cM=>?_)
   have dI:=TT.ofW ((ab.trans aD).trans bi) bD
   refine ⟨fun _=>dI,?_⟩
   refine qaC kz ?_ _
   refine qab ?_
   refine qao cM (b:=false) kz rfl ?_
   refine qcG 18 kz bD fun im b8 ao bE=>?_
   refine qaE [0,1,2,3,7,8,9,10,11] [(0,.p 0 0),(2,.p 1 0),(3,.p 3 0),(29,.v (.int .i64 (((D.f 1).l:Nat):Int))),(30,.v (.int .i64 ((k1_:Nat):Int))),(54,.v (.slice (some ⟨aa,0,none⟩) 2 2)),(56,.v (.slice (some ⟨aa,0,none⟩) 2 2)),(63,.v (.slice ((D.f 1).A) ((D.f 1).l) ((D.f 1).c))),(64,.v (.int .i64 ((k1_:Nat):Int)))] 10 (qac (qaa (qaa (qac (qaa qaf))))) (fun _ h=>h.cells) bE cM fun io dJ=>?_
   refine qaQ dJ (i:=4) (t:=34) (A:=(some ⟨aa,0,none⟩)) (m:=2) (q:=1) (d:=57) kz (e:=37) (size:=5) (bytes:=88) (j:=1) kz (b:=aa) (o:=0) rfl rfl (by decide) kz kz (qac (qaa (qaa (qac (qaa qaf))))) bE fun ip dK=>?_
   have dL:=dK.recast 57 (.v (.pointer (some ⟨aa,0 + 1 * 5,none⟩))) (.p 2 5) rfl rfl (Nat.le_of_ble_eq_true (n:=3) rfl)
   have dM:=dL.pk (env':=[(0,.p 0 0),(2,.p 1 0),(3,.p 3 0),(29,.v (.int .i64 (((D.f 1).l:Nat):Int))),(30,.v (.int .i64 ((k1_:Nat):Int))),(54,.v (.slice (some ⟨aa,0,none⟩) 2 2)),(56,.v (.slice (some ⟨aa,0,none⟩) 2 2)),(63,.v (.slice ((D.f 1).A) ((D.f 1).l) ((D.f 1).c))),(64,.v (.int .i64 ((k1_:Nat):Int))),(57,.p 2 5)])
   refine qaE [5,6] [(0,.p 0 0),(2,.p 1 0),(3,.p 3 0),(29,.v (.int .i64 (((D.f 1).l:Nat):Int))),(30,.v (.int .i64 ((k1_:Nat):Int))),(54,.v (.slice (some ⟨aa,0,none⟩) 2 2)),(59,.v (.slice A1_ k1_ c1_)),(63,.v (.slice ((D.f 1).A) ((D.f 1).l) ((D.f 1).c))),(64,.v (.int .i64 ((k1_:Nat):Int)))] 7 (qac (qaa (qaa (qac (qaa qaf))))) (fun _ h=>h.cells) bE dM fun iq dN=>?_
   obtain ⟨dO,dP,dQ,gG,dr⟩:=Slots.get g2 (i:=k1_) (by omega)
   refine qaQ dN (i:=12) (t:=120) (A:=(D.f 1).A) (m:=((D.f 1).l)) (q:=((k1_:Nat):Int)) (d:=65) kz (e:=164) (size:=3) (bytes:=48) kz dQ rfl (by omega) kz kz (qac (qaa (qaa (qac (qaa qaf))))) bE fun ir dR=>?_
   refine qas (i:=13) kz (qak dR (f:=122) (vs:=[.pointer (some ⟨dO,dP + k1_ * 3,none⟩)]) (d:=66) kz Tryz.call122 (qbd 0 ((D.f 1).f k1_) _ _ _ _ (dr.move ao.step nilM ao.imm) (qaM _ ao.step nilM ao.imm (g2e k1_ (by omega)))) ?_)
   rintro e_ iu ⟨gH,rfl,dS,cd⟩
   have ce:=dS.move (Step.refl _ Nil) nilM (ao.laid (G:=F) cd)
   obtain ⟨bL,bM,bN,bO,bP,bQ,bR,bS,bT,bU,bV,gI,gJ,cm,gm,gn,iv,iw⟩:=ce.open_
   rw [cm] at ce
   have gp:=gm.small
   have gq:=gn.small
   rw [cm]
   refine ⟨_,rfl,fun ix dT=>?_⟩
   have cN:=ao.next_nil cd
   have ap:=ao.frN cd
   have dU:=TT.ofW ap cN
   refine ⟨fun _=>dU,?_⟩
   refine qas (i:=14) kz (qbs cN dT (e:=37) (size:=5) (len:=1) (cs:=[.int .i64 bL,.slice bQ bM.length bR,.bool bN,.slice bS bO.length bT,.slice bU bP.length bV]) (d:=67) kz kz fun dV iy iz gK gL ae bF dW=>?_)
   have dX:=TT.ofW (ap.trans ae) bF
   refine ⟨fun _=>dX,?_⟩
   refine qas (i:=15) kz (qaV bF dW (k:=0) (d:=68) (t:=34) (e:=37) (size:=5) (bytes:=88) (A:=A1_) (As:=(some ⟨dV,0,none⟩)) (m0:=k1_) (c:=c1_) (m:=1) (cs:=1) (xs:=xs1_) (news:=[.int .i64 bL,.slice bQ bM.length bR,.bool bN,.slice bS bO.length bT,.slice bU bP.length bV]) kz kz rfl (qbz (bF.own 1 _ rfl) (qbu kz)) (qbE (bF.own 1 _ rfl)) (by omega) fun bW bX iA iB ar cq dY=>?_)
   have dZ:=TT.ofW ((ap.trans ae).trans ar) cq
   refine ⟨fun _=>dZ,?_⟩
   refine qas (i:=16) kz (qaA dY (t:=34) (A:=(some ⟨aa,0,none⟩)) (m:=2) (q:=1) (d:=69) kz (e:=37) (size:=5) (bytes:=88) (j:=1) kz (b:=aa) (o:=0) rfl rfl (by decide) fun iC d5=>?_)
   have d6:=d5.recast 69 (.v (.pointer (some ⟨aa,0 + 1 * 5,none⟩))) (.p 2 5) rfl rfl (Nat.le_of_ble_eq_true (n:=3) rfl)
   have d7:=d6.pk (env':=[(0,.p 0 0),(2,.p 1 0),(3,.p 3 0),(29,.v (.int .i64 (((D.f 1).l:Nat):Int))),(30,.v (.int .i64 ((k1_:Nat):Int))),(54,.v (.slice (some ⟨aa,0,none⟩) 2 2)),(59,.v (.slice A1_ k1_ c1_)),(63,.v (.slice ((D.f 1).A) ((D.f 1).l) ((D.f 1).c))),(64,.v (.int .i64 ((k1_:Nat):Int))),(65,.v (.pointer (some ⟨dO,dP + k1_ * 3,none⟩))),(66,.v (.agg #[.int .i64 bL,.slice bQ bM.length bR,.bool bN,.slice bS bO.length bT,.slice bU bP.length bV])),(67,.v (.slice (some ⟨dV,0,none⟩) 1 1)),(68,.v (.slice bW (k1_ + 1) bX)),(69,.p 2 5)])
   have cO:=TT.ofW ((ap.trans ae).trans ar) cq
   refine ⟨fun _=>cO,?_⟩
   refine qaE [17] [(0,.p 0 0),(2,.p 1 0),(3,.p 3 0),(29,.v (.int .i64 (((D.f 1).l:Nat):Int))),(30,.v (.int .i64 ((k1_:Nat):Int))),(68,.v (.slice bW (k1_ + 1) bX)),(70,.p 2 8)] 1 (qac (qaa (qaa (qac (qaa qaf))))) (fun _ h=>h.cells) cO d7 fun iD d8=>?_
   refine qas (i:=18) kz (qau cq d8 (oi:=2) (cs:=[.int .i64 0,.slice (some ⟨aB,0,none⟩) ((sb ((D.f 0).s)).length) aC,.bool false,.slice none 0 0,.slice none 0 0,.int .i64 0,.slice none 0 0,.bool (((D.f 1).A).isNone),.slice bW (k1_ + 1) bX,.slice none 0 0]) kz fun iE bj cP d9=>?_)
   refine ⟨fun h=>absurd rfl h,?_⟩
   refine qaC kz ?_ _
   refine qar ?_
   refine qab ?_
   refine qaq [0,1] kz ?_
   refine qaj [0,1] [] [(0,.p 0 0),(2,.p 1 0),(3,.p 3 0),(29,.v (.int .i64 (((D.f 1).l:Nat):Int))),(30,.v (.int .i64 (IntKind.i64.wrap (((k1_:Nat):Int) + 1))))] cP d9 fun iF ea=>?_
   refine qae (qab ?_)
   obtain ⟨cQ,eb,bk⟩:=cP.cutB ea 4 [⟨b,o,[.string ((D.f 0).s),.slice ((D.f 1).A) ((D.f 1).l) ((D.f 1).c),.map D.m],false⟩,⟨b4,0,[.int .i64 0,.slice none 0 0,.bool false,.slice none 0 0,.slice none 0 0],true⟩,⟨aa,0,[.int .i64 0,.slice (some ⟨aB,0,none⟩) ((sb ((D.f 0).s)).length) aC,.bool false,.slice none 0 0,.slice none 0 0,.int .i64 0,.slice none 0 0,.bool (((D.f 1).A).isNone),.slice bW (k1_ + 1) bX,.slice none 0 0],true⟩,⟨bC,0,[.int .i64 0,.slice none 0 0,.bool false,.slice (some ⟨aa,0,none⟩) 2 2,.slice none 0 0],true⟩] [(0,.p 0 0),(2,.p 1 0),(3,.p 3 0),(29,.v (.int .i64 (((D.f 1).l:Nat):Int))),(30,.v (.int .i64 (IntKind.i64.wrap (((k1_:Nat):Int) + 1))))]
   obtain ⟨ec,bn⟩:=eb.cutR 1 [⟨bW,bX,37,5,k1_ + 1,xs1_ ++ [.int .i64 bL,.slice bQ bM.length bR,.bool bN,.slice bS bO.length bT,.slice bU bP.length bV]⟩]
   have ee:IntKind.i64.wrap (((k1_:Nat):Int) + 1) = ((k1_ + 1:Nat):Int):=qaP (by omega)
   rw [ee] at cQ
   exact ⟨(D.f 1).l - (k1_ + 1),by omega,k1_ + 1,bW,bX,xs1_ ++ [Value.int .i64 bL,.slice bQ bM.length bR,.bool bN,.slice bS bO.length bT,.slice bU bP.length bV],(css1_ ++ [[Value.int .i64 bL,.slice bQ bM.length bR,.bool bN,.slice bS bO.length bT,.slice bU bP.length bV]]),rfl,by omega,by rw [qcm (by omega)]; exact (hT1_.move ((((((((((aI.trans ab).trans aD).trans bi).trans b8).trans ap).trans ae).trans ar).trans bj).trans bk).trans bn).step immM ((((((((((aI.trans ab).trans aD).trans bi).trans b8).trans ap).trans ae).trans ar).trans bj).trans bk).trans bn).to').snoc (x:=(fun i=>qaH ((D.f 1).f i)) k1_) (ce.move ((((ae.trans ar).trans bj).trans bk).trans bn).step immM ((((ae.trans ar).trans bj).trans bk).trans bn).to'),cQ.pk,ec,(((((((((((bY.trans aI).trans ab).trans aD).trans bi).trans b8).trans ap).trans ae).trans ar).trans bj).trans bk).trans bn)⟩
  refine (qau bZ cK (oi:=4) (cs:=[.bool false]) kz fun iG ac cR ef=>?_)
  have eg:=TT.ofW (ab.trans ac) cR
  refine ⟨fun _=>eg,?_⟩
  refine qas (i:=1) kz (qau cR ef (oi:=4) (cs:=[.bool true]) kz fun iH af bG eh=>?_)
  have ei:=TT.ofW ((ab.trans ac).trans af) bG
  refine ⟨fun _=>ei,?_⟩
  refine qas (i:=3) kz (qbe [0,2,3,4,29,30,34] bG.cells eh (env':=[(0,.p 0 0),(2,.p 1 0),(3,.p 3 0),(4,.v (.int .i64 ((k1_:Nat):Int))),(29,.v (.int .i64 (((D.f 1).l:Nat):Int))),(30,.v (.int .i64 ((k1_:Nat):Int))),(34,.v (.bool true))]) kz fun iI cS=>?_)
  have ej:=TT.ofW ((ab.trans ac).trans af) bG
  refine ⟨fun _=>ej,?_⟩
  refine qaC kz ?_ _
  refine qab ?_
  refine qa7 cS (b:=true) kz rfl ?_
  refine qaI 17 kz bG fun iJ aE ag bH=>?_
  refine qaE [0,1,5,6,7,8,9] [(0,.p 0 0),(2,.p 1 0),(3,.p 3 0),(29,.v (.int .i64 (((D.f 1).l:Nat):Int))),(30,.v (.int .i64 ((k1_:Nat):Int))),(36,.v (.slice (some ⟨aa,0,none⟩) 2 2)),(43,.v (.slice ((D.f 1).A) ((D.f 1).l) ((D.f 1).c))),(44,.v (.int .i64 ((k1_:Nat):Int)))] 11 (qaa (qac (qaa (qaa (qac (qaa qaf)))))) (fun _ h=>h.cells) bH cS fun iK ek=>?_
  refine qaQ ek (i:=2) (t:=34) (A:=(some ⟨aa,0,none⟩)) (m:=2) (q:=1) (d:=37) kz (e:=37) (size:=5) (bytes:=88) (j:=1) kz (b:=aa) (o:=0) rfl rfl (by decide) kz kz (qaa (qac (qaa (qaa (qac (qaa qaf)))))) bH fun iL em=>?_
  have eo:=em.recast 37 (.v (.pointer (some ⟨aa,0 + 1 * 5,none⟩))) (.p 2 5) rfl rfl (Nat.le_of_ble_eq_true (n:=3) rfl)
  have ep:=eo.pk (env':=[(0,.p 0 0),(2,.p 1 0),(3,.p 3 0),(29,.v (.int .i64 (((D.f 1).l:Nat):Int))),(30,.v (.int .i64 ((k1_:Nat):Int))),(36,.v (.slice (some ⟨aa,0,none⟩) 2 2)),(43,.v (.slice ((D.f 1).A) ((D.f 1).l) ((D.f 1).c))),(44,.v (.int .i64 ((k1_:Nat):Int))),(37,.p 2 5)])
  refine qaE [3,4,12] [(0,.p 0 0),(2,.p 1 0),(3,.p 3 0),(29,.v (.int .i64 (((D.f 1).l:Nat):Int))),(30,.v (.int .i64 ((k1_:Nat):Int))),(36,.v (.slice (some ⟨aa,0,none⟩) 2 2)),(39,.v (.slice A1_ k1_ c1_)),(43,.v (.slice ((D.f 1).A) ((D.f 1).l) ((D.f 1).c))),(44,.v (.int .i64 ((k1_:Nat):Int))),(47,.v (.int .i64 ((k1_:Nat):Int)))] 7 (qaa (qac (qaa (qaa (qac (qaa qaf)))))) (fun _ h=>h.cells) bH ep fun iM eu=>?_
  obtain ⟨cI,cJ,ev,gM,cr⟩:=Slots.get g2 (i:=k1_) (by omega)
  refine qaQ eu (i:=10) (t:=120) (A:=(D.f 1).A) (m:=((D.f 1).l)) (q:=((k1_:Nat):Int)) (d:=45) kz (e:=164) (size:=3) (bytes:=48) kz ev rfl (by omega) kz kz (qaa (qac (qaa (qaa (qac (qaa qaf)))))) bH fun iN cT=>?_
  refine qdM (i:=11) (j:=13) kz ?_ ?_
  ·
   refine (qak cT (f:=122) (vs:=[.pointer (some ⟨cI,cJ + k1_ * 3,none⟩)]) (d:=46) kz Tryz.call122 (qbd 0 ((D.f 1).f k1_) _ _ _ _ (cr.move ag.step nilM ag.imm) (qaM _ ag.step nilM ag.imm (g2e k1_ (by omega)))) ?_)
   rintro e_ iO ⟨gN,rfl,ew,cu⟩
   have cw:=ew.move (Step.refl _ Nil) nilM (ag.laid (G:=F) cu)
   obtain ⟨aJ,aK,aL,aM,aN,aO,aP,aQ,aR,aS,aT,gO,gP,cz,gt,gv,iP,iQ⟩:=cw.open_
   rw [cz] at cw
   have gw:=gt.small
   have gx:=gv.small
   rw [cz]
   refine ⟨_,rfl,fun iR ey=>?_⟩
   have cU:=ag.next_nil cu
   have au:=ag.frN cu
   have ez:=TT.ofW au cU
   refine ⟨fun _=>ez,?_⟩
   refine qas (i:=13) kz (qbs cU ey (e:=37) (size:=5) (len:=1) (cs:=[.int .i64 0,.slice none 0 0,.bool false,.slice none 0 0,.slice none 0 0]) (d:=48) kz kz fun dt iS iT gQ gR ah bI eB=>?_)
   have eC:=TT.ofW (au.trans ah) bI
   refine ⟨fun _=>eC,?_⟩
   refine qas (i:=14) kz (qaV bI eB (k:=0) (d:=49) (t:=34) (e:=37) (size:=5) (bytes:=88) (A:=A1_) (As:=(some ⟨dt,0,none⟩)) (m0:=k1_) (c:=c1_) (m:=1) (cs:=1) (xs:=xs1_) (news:=[.int .i64 0,.slice none 0 0,.bool false,.slice none 0 0,.slice none 0 0]) kz kz rfl (qbz (bI.own 1 _ rfl) (qbu kz)) (qbE (bI.own 1 _ rfl)) (by omega) fun aj av iU iV aw cA eD=>?_)
   have eE:=TT.ofW ((au.trans ah).trans aw) cA
   refine ⟨fun _=>eE,?_⟩
   refine qas (i:=15) kz (qaA eD (t:=34) (A:=(some ⟨aa,0,none⟩)) (m:=2) (q:=1) (d:=50) kz (e:=37) (size:=5) (bytes:=88) (j:=1) kz (b:=aa) (o:=0) rfl rfl (by decide) fun iW eF=>?_)
   have eG:=eF.recast 50 (.v (.pointer (some ⟨aa,0 + 1 * 5,none⟩))) (.p 2 5) rfl rfl (Nat.le_of_ble_eq_true (n:=3) rfl)
   have eH:=eG.pk (env':=[(0,.p 0 0),(2,.p 1 0),(3,.p 3 0),(29,.v (.int .i64 (((D.f 1).l:Nat):Int))),(30,.v (.int .i64 ((k1_:Nat):Int))),(36,.v (.slice (some ⟨aa,0,none⟩) 2 2)),(39,.v (.slice A1_ k1_ c1_)),(43,.v (.slice ((D.f 1).A) ((D.f 1).l) ((D.f 1).c))),(44,.v (.int .i64 ((k1_:Nat):Int))),(47,.v (.int .i64 ((k1_:Nat):Int))),(45,.v (.pointer (some ⟨cI,cJ + k1_ * 3,none⟩))),(46,.v (.agg #[.int .i64 aJ,.slice aO aK.length aP,.bool aL,.slice aQ aM.length aR,.slice aS aN.length aT])),(48,.v (.slice (some ⟨dt,0,none⟩) 1 1)),(49,.v (.slice aj (k1_ + 1) av)),(50,.p 2 5)])
   have cV:=TT.ofW ((au.trans ah).trans aw) cA
   refine ⟨fun _=>cV,?_⟩
   refine qaE [16] [(0,.p 0 0),(2,.p 1 0),(3,.p 3 0),(29,.v (.int .i64 (((D.f 1).l:Nat):Int))),(30,.v (.int .i64 ((k1_:Nat):Int))),(46,.v (.agg #[.int .i64 aJ,.slice aO aK.length aP,.bool aL,.slice aQ aM.length aR,.slice aS aN.length aT])),(47,.v (.int .i64 ((k1_:Nat):Int))),(49,.v (.slice aj (k1_ + 1) av)),(51,.p 2 8)] 1 (qaa (qac (qaa (qaa (qac (qaa qaf)))))) (fun _ h=>h.cells) cV eH fun iX eI=>?_
   refine qas (i:=17) kz (qau cA eI (oi:=2) (cs:=[.int .i64 0,.slice (some ⟨aB,0,none⟩) ((sb ((D.f 0).s)).length) aC,.bool false,.slice none 0 0,.slice none 0 0,.int .i64 0,.slice none 0 0,.bool (((D.f 1).A).isNone),.slice aj (k1_ + 1) av,.slice none 0 0]) kz fun gy bo cW eJ=>?_)
   refine ⟨fun h=>absurd rfl h,?_⟩
   refine qaC kz ?_ _
   refine qab ?_
   refine qaq [0,1] kz ?_
   have eK:World.ownsRow gy 0 37 5 (.slice aj (k1_ + 1) av) (k1_ + 1) (xs1_ ++ [.int .i64 0,.slice none 0 0,.bool false,.slice none 0 0,.slice none 0 0]):=cW.own 0 _ rfl
   obtain ⟨eL,cX⟩:=qb0 eK (by omega)
   refine qal (qaA eJ (t:=34) (A:=aj) (m:=(k1_ + 1)) (q:=((k1_:Nat):Int)) (d:=52) kz (e:=37) (size:=5) (bytes:=88) kz (b:=eL) (o:=0) (j:=k1_) cX (rfl) (by omega) fun iY eM=>?_)
   refine qal (qbW cW eM (k:=0) (g:=eL) (o:=k1_ * 5) (c:=av) (m:=(k1_ + 1)) (size:=5) (e:=37) (A:=aj) (xs:=(xs1_ ++ [.int .i64 0,.slice none 0 0,.bool false,.slice none 0 0,.slice none 0 0])) (vs:=[.int .i64 aJ,.slice aO aK.length aP,.bool aL,.slice aQ aM.length aR,.slice aS aN.length aT]) kz rfl cX (by simp only [List.length_cons,List.length_nil]; omega) fun iZ bp eN eO=>?_)
   have eP:(⟨aj,av,37,5,k1_ + 1,qbl (xs1_ ++ [.int .i64 0,.slice none 0 0,.bool false,.slice none 0 0,.slice none 0 0]) (k1_ * 5) [.int .i64 aJ,.slice aO aK.length aP,.bool aL,.slice aQ aM.length aR,.slice aS aN.length aT]⟩:Rw) = ⟨aj,av,37,5,k1_ + 1,xs1_ ++ [.int .i64 aJ,.slice aO aK.length aP,.bool aL,.slice aQ aM.length aR,.slice aS aN.length aT]⟩:=by rw [qcX (by rw [hT1_.xslen,List.length_take,qb7]; omega)]
   obtain ⟨cY,bq⟩:=eN.rowEq 0 [⟨aj,av,37,5,k1_ + 1,xs1_ ++ [.int .i64 aJ,.slice aO aK.length aP,.bool aL,.slice aQ aM.length aR,.slice aS aN.length aT]⟩,⟨some ⟨dt,0,none⟩,1,37,5,1,[.int .i64 0,.slice none 0 0,.bool false,.slice none 0 0,.slice none 0 0]⟩] eP
   refine qae ?_
   refine qar ?_
   refine qab ?_
   refine qaq [0,1] kz ?_
   refine qaj [0,1] [] [(0,.p 0 0),(2,.p 1 0),(3,.p 3 0),(29,.v (.int .i64 (((D.f 1).l:Nat):Int))),(30,.v (.int .i64 (IntKind.i64.wrap (((k1_:Nat):Int) + 1))))] cY eO fun i6 eQ=>?_
   refine qae (qab ?_)
   obtain ⟨cZ,eR,bt⟩:=cY.cutB eQ 4 [⟨b,o,[.string ((D.f 0).s),.slice ((D.f 1).A) ((D.f 1).l) ((D.f 1).c),.map D.m],false⟩,⟨b4,0,[.int .i64 0,.slice none 0 0,.bool false,.slice none 0 0,.slice none 0 0],true⟩,⟨aa,0,[.int .i64 0,.slice (some ⟨aB,0,none⟩) ((sb ((D.f 0).s)).length) aC,.bool false,.slice none 0 0,.slice none 0 0,.int .i64 0,.slice none 0 0,.bool (((D.f 1).A).isNone),.slice aj (k1_ + 1) av,.slice none 0 0],true⟩,⟨bC,0,[.int .i64 0,.slice none 0 0,.bool false,.slice (some ⟨aa,0,none⟩) 2 2,.slice none 0 0],true⟩] [(0,.p 0 0),(2,.p 1 0),(3,.p 3 0),(29,.v (.int .i64 (((D.f 1).l:Nat):Int))),(30,.v (.int .i64 (IntKind.i64.wrap (((k1_:Nat):Int) + 1))))]
   obtain ⟨eS,bu⟩:=eR.cutR 1 [⟨aj,av,37,5,k1_ + 1,xs1_ ++ [.int .i64 aJ,.slice aO aK.length aP,.bool aL,.slice aQ aM.length aR,.slice aS aN.length aT]⟩]
   have eU:IntKind.i64.wrap (((k1_:Nat):Int) + 1) = ((k1_ + 1:Nat):Int):=qaP (by omega)
   rw [eU] at cZ
   exact ⟨(D.f 1).l - (k1_ + 1),by omega,k1_ + 1,aj,av,xs1_ ++ [Value.int .i64 aJ,.slice aO aK.length aP,.bool aL,.slice aQ aM.length aR,.slice aS aN.length aT],(css1_ ++ [[Value.int .i64 aJ,.slice aO aK.length aP,.bool aL,.slice aQ aM.length aR,.slice aS aN.length aT]]),rfl,by omega,by rw [qcm (by omega)]; exact (hT1_.move ((((((((((((aI.trans ab).trans ac).trans af).trans aE).trans au).trans ah).trans aw).trans bo).trans bp).trans bq).trans bt).trans bu).step immM ((((((((((((aI.trans ab).trans ac).trans af).trans aE).trans au).trans ah).trans aw).trans bo).trans bp).trans bq).trans bt).trans bu).to').snoc (x:=(fun i=>qaH ((D.f 1).f i)) k1_) (cw.move ((((((ah.trans aw).trans bo).trans bp).trans bq).trans bt).trans bu).step immM ((((((ah.trans aw).trans bo).trans bp).trans bq).trans bt).trans bu).to'),cZ.pk,eS,(((((((((((((bY.trans aI).trans ab).trans ac).trans af).trans aE).trans au).trans ah).trans aw).trans bo).trans bp).trans bq).trans bt).trans bu)⟩
  refine (qbs ag cT (e:=37) (size:=5) (len:=1) (cs:=[.int .i64 0,.slice none 0 0,.bool false,.slice none 0 0,.slice none 0 0]) (d:=48) kz kz fun du i7 ja gS gT ax ai eV=>?_)
  have eW:=TT.ofW ax ai
  refine ⟨fun _=>eW,?_⟩
  refine qas (i:=11) kz (qak eV (f:=122) (vs:=[.pointer (some ⟨cI,cJ + k1_ * 3,none⟩)]) (d:=46) kz Tryz.call122 (qbd 0 ((D.f 1).f k1_) _ _ _ _ (cr.move ai.step nilM ai.imm) (qaM _ ai.step nilM ai.imm (g2e k1_ (by omega)))) ?_)
  rintro e_ jb ⟨gU,rfl,eX,cB⟩
  have cC:=eX.move (Step.refl _ Nil) nilM (ai.laid (G:=F) cB)
  obtain ⟨aU,aV,aW,aX,aY,aZ,ba,bd,bf,bg,bh,gV,gW,cD,gz,gA,jc,jd⟩:=cC.open_
  rw [cD] at cC
  have gB:=gz.small
  have gC:=gA.small
  rw [cD]
  refine ⟨_,rfl,fun je eY=>?_⟩
  have bJ:=ai.next_nil cB
  have aF:=ai.frN cB
  have eZ:=TT.ofW (ax.trans aF) bJ
  refine ⟨fun _=>eZ,?_⟩
  refine qas (i:=14) kz (qaV bJ eY (k:=0) (d:=49) (t:=34) (e:=37) (size:=5) (bytes:=88) (A:=A1_) (As:=(some ⟨du,0,none⟩)) (m0:=k1_) (c:=c1_) (m:=1) (cs:=1) (xs:=xs1_) (news:=[.int .i64 0,.slice none 0 0,.bool false,.slice none 0 0,.slice none 0 0]) kz kz rfl (qbz (bJ.own 1 _ rfl) (qbu kz)) (qbE (bJ.own 1 _ rfl)) (by omega) fun ak ay jf jg az cE e9=>?_)
  have fa:=TT.ofW ((ax.trans aF).trans az) cE
  refine ⟨fun _=>fa,?_⟩
  refine qas (i:=15) kz (qaA e9 (t:=34) (A:=(some ⟨aa,0,none⟩)) (m:=2) (q:=1) (d:=50) kz (e:=37) (size:=5) (bytes:=88) (j:=1) kz (b:=aa) (o:=0) rfl rfl (by decide) fun jh fb=>?_)
  have fe:=fb.recast 50 (.v (.pointer (some ⟨aa,0 + 1 * 5,none⟩))) (.p 2 5) rfl rfl (Nat.le_of_ble_eq_true (n:=3) rfl)
  have ff:=fe.pk (env':=[(0,.p 0 0),(2,.p 1 0),(3,.p 3 0),(29,.v (.int .i64 (((D.f 1).l:Nat):Int))),(30,.v (.int .i64 ((k1_:Nat):Int))),(36,.v (.slice (some ⟨aa,0,none⟩) 2 2)),(39,.v (.slice A1_ k1_ c1_)),(43,.v (.slice ((D.f 1).A) ((D.f 1).l) ((D.f 1).c))),(44,.v (.int .i64 ((k1_:Nat):Int))),(47,.v (.int .i64 ((k1_:Nat):Int))),(45,.v (.pointer (some ⟨cI,cJ + k1_ * 3,none⟩))),(48,.v (.slice (some ⟨du,0,none⟩) 1 1)),(46,.v (.agg #[.int .i64 aU,.slice aZ aV.length ba,.bool aW,.slice bd aX.length bf,.slice bg aY.length bh])),(49,.v (.slice ak (k1_ + 1) ay)),(50,.p 2 5)])
  have c5:=TT.ofW ((ax.trans aF).trans az) cE
  refine ⟨fun _=>c5,?_⟩
  refine qaE [16] [(0,.p 0 0),(2,.p 1 0),(3,.p 3 0),(29,.v (.int .i64 (((D.f 1).l:Nat):Int))),(30,.v (.int .i64 ((k1_:Nat):Int))),(46,.v (.agg #[.int .i64 aU,.slice aZ aV.length ba,.bool aW,.slice bd aX.length bf,.slice bg aY.length bh])),(47,.v (.int .i64 ((k1_:Nat):Int))),(49,.v (.slice ak (k1_ + 1) ay)),(51,.p 2 8)] 1 (qaa (qac (qaa (qaa (qac (qaa qaf)))))) (fun _ h=>h.cells) c5 ff fun ji fg=>?_
  refine qas (i:=17) kz (qau cE fg (oi:=2) (cs:=[.int .i64 0,.slice (some ⟨aB,0,none⟩) ((sb ((D.f 0).s)).length) aC,.bool false,.slice none 0 0,.slice none 0 0,.int .i64 0,.slice none 0 0,.bool (((D.f 1).A).isNone),.slice ak (k1_ + 1) ay,.slice none 0 0]) kz fun gD bw c6 fh=>?_)
  refine ⟨fun h=>absurd rfl h,?_⟩
  refine qaC kz ?_ _
  refine qab ?_
  refine qaq [0,1] kz ?_
  have fi:World.ownsRow gD 0 37 5 (.slice ak (k1_ + 1) ay) (k1_ + 1) (xs1_ ++ [.int .i64 0,.slice none 0 0,.bool false,.slice none 0 0,.slice none 0 0]):=c6.own 0 _ rfl
  obtain ⟨fj,da⟩:=qb0 fi (by omega)
  refine qal (qaA fh (t:=34) (A:=ak) (m:=(k1_ + 1)) (q:=((k1_:Nat):Int)) (d:=52) kz (e:=37) (size:=5) (bytes:=88) kz (b:=fj) (o:=0) (j:=k1_) da (rfl) (by omega) fun jj fk=>?_)
  refine qal (qbW c6 fk (k:=0) (g:=fj) (o:=k1_ * 5) (c:=ay) (m:=(k1_ + 1)) (size:=5) (e:=37) (A:=ak) (xs:=(xs1_ ++ [.int .i64 0,.slice none 0 0,.bool false,.slice none 0 0,.slice none 0 0])) (vs:=[.int .i64 aU,.slice aZ aV.length ba,.bool aW,.slice bd aX.length bf,.slice bg aY.length bh]) kz rfl da (by simp only [List.length_cons,List.length_nil]; omega) fun jk bx fm fo=>?_)
  have fq:(⟨ak,ay,37,5,k1_ + 1,qbl (xs1_ ++ [.int .i64 0,.slice none 0 0,.bool false,.slice none 0 0,.slice none 0 0]) (k1_ * 5) [.int .i64 aU,.slice aZ aV.length ba,.bool aW,.slice bd aX.length bf,.slice bg aY.length bh]⟩:Rw) = ⟨ak,ay,37,5,k1_ + 1,xs1_ ++ [.int .i64 aU,.slice aZ aV.length ba,.bool aW,.slice bd aX.length bf,.slice bg aY.length bh]⟩:=by rw [qcX (by rw [hT1_.xslen,List.length_take,qb7]; omega)]
  obtain ⟨db,bz⟩:=fm.rowEq 0 [⟨ak,ay,37,5,k1_ + 1,xs1_ ++ [.int .i64 aU,.slice aZ aV.length ba,.bool aW,.slice bd aX.length bf,.slice bg aY.length bh]⟩,⟨some ⟨du,0,none⟩,1,37,5,1,[.int .i64 0,.slice none 0 0,.bool false,.slice none 0 0,.slice none 0 0]⟩] fq
  refine qae ?_
  refine qar ?_
  refine qab ?_
  refine qaq [0,1] kz ?_
  refine qaj [0,1] [] [(0,.p 0 0),(2,.p 1 0),(3,.p 3 0),(29,.v (.int .i64 (((D.f 1).l:Nat):Int))),(30,.v (.int .i64 (IntKind.i64.wrap (((k1_:Nat):Int) + 1))))] db fo fun jl fr=>?_
  refine qae (qab ?_)
  obtain ⟨dc,ft,bA⟩:=db.cutB fr 4 [⟨b,o,[.string ((D.f 0).s),.slice ((D.f 1).A) ((D.f 1).l) ((D.f 1).c),.map D.m],false⟩,⟨b4,0,[.int .i64 0,.slice none 0 0,.bool false,.slice none 0 0,.slice none 0 0],true⟩,⟨aa,0,[.int .i64 0,.slice (some ⟨aB,0,none⟩) ((sb ((D.f 0).s)).length) aC,.bool false,.slice none 0 0,.slice none 0 0,.int .i64 0,.slice none 0 0,.bool (((D.f 1).A).isNone),.slice ak (k1_ + 1) ay,.slice none 0 0],true⟩,⟨bC,0,[.int .i64 0,.slice none 0 0,.bool false,.slice (some ⟨aa,0,none⟩) 2 2,.slice none 0 0],true⟩] [(0,.p 0 0),(2,.p 1 0),(3,.p 3 0),(29,.v (.int .i64 (((D.f 1).l:Nat):Int))),(30,.v (.int .i64 (IntKind.i64.wrap (((k1_:Nat):Int) + 1))))]
  obtain ⟨fu,bB⟩:=ft.cutR 1 [⟨ak,ay,37,5,k1_ + 1,xs1_ ++ [.int .i64 aU,.slice aZ aV.length ba,.bool aW,.slice bd aX.length bf,.slice bg aY.length bh]⟩]
  have fv:IntKind.i64.wrap (((k1_:Nat):Int) + 1) = ((k1_ + 1:Nat):Int):=qaP (by omega)
  rw [fv] at dc
  exact ⟨(D.f 1).l - (k1_ + 1),by omega,k1_ + 1,ak,ay,xs1_ ++ [Value.int .i64 aU,.slice aZ aV.length ba,.bool aW,.slice bd aX.length bf,.slice bg aY.length bh],(css1_ ++ [[Value.int .i64 aU,.slice aZ aV.length ba,.bool aW,.slice bd aX.length bf,.slice bg aY.length bh]]),rfl,by omega,by rw [qcm (by omega)]; exact (hT1_.move ((((((((((((aI.trans ab).trans ac).trans af).trans aE).trans ax).trans aF).trans az).trans bw).trans bx).trans bz).trans bA).trans bB).step immM ((((((((((((aI.trans ab).trans ac).trans af).trans aE).trans ax).trans aF).trans az).trans bw).trans bx).trans bz).trans bA).trans bB).to').snoc (x:=(fun i=>qaH ((D.f 1).f i)) k1_) (cC.move (((((az.trans bw).trans bx).trans bz).trans bA).trans bB).step immM (((((az.trans bw).trans bx).trans bz).trans bA).trans bB).to'),dc.pk,fu,(((((((((((((bY.trans aI).trans ab).trans ac).trans af).trans aE).trans ax).trans aF).trans az).trans bw).trans bx).trans bz).trans bA).trans bB)⟩
 have gX:=of_decide_eq_false dq
 refine wp_exit ?_
 refine qaw ?_
 refine qaw ?_
 refine qaL ?_
 refine qab ?_
 refine qad [0,1,2,3,4] kz ?_
 refine qaj [0,1,2] [3,4] [(2,.p 1 0),(3,.p 3 0),(74,.p 0 2)] aA dp fun jm fw=>?_
 refine qal (qeM fw (v:=.func (.func 123) #[] #[.pointer (some ⟨bC,0,none⟩)]) (d:=75) kz fun jn fx=>?_)
 refine qal (qak fx (f:=64) (vs:=[.pointer (some ⟨b,o + 2,none⟩),.func (.func 123) #[] #[.pointer (some ⟨bC,0,none⟩)]]) (d:=76) kz Tryz.call64 (qfl (F:=(Imm F w hK [⟨b,o,[.string ((D.f 0).s),.slice ((D.f 1).A) ((D.f 1).l) ((D.f 1).c),.map D.m],false⟩,⟨b4,0,[.int .i64 0,.slice none 0 0,.bool false,.slice none 0 0,.slice none 0 0],true⟩,⟨aa,0,[.int .i64 0,.slice (some ⟨aB,0,none⟩) ((sb ((D.f 0).s)).length) aC,.bool false,.slice none 0 0,.slice none 0 0,.int .i64 0,.slice none 0 0,.bool (((D.f 1).A).isNone),.slice A1_ k1_ c1_,.slice none 0 0],true⟩,⟨bC,0,[.int .i64 0,.slice none 0 0,.bool false,.slice (some ⟨aa,0,none⟩) 2 2,.slice none 0 0],true⟩] [⟨A1_,c1_,37,5,k1_,xs1_⟩])) Tryz.call123 qb1 ((hat.one 2 rfl).move aA.step nilM aA.imm) (g3.move aA.step nilM aA.imm) (Str.of aA 3 rfl) (qjZ 3 rfl) g3l) ?_)
 rintro e_ jo ⟨rfl,al,am,dv,fy,fz⟩
 obtain ⟨cG,bK,fA⟩:=aA.wrote 3 [⟨b,o,[.string ((D.f 0).s),.slice ((D.f 1).A) ((D.f 1).l) ((D.f 1).c),.map D.m],false⟩,⟨b4,0,[.int .i64 0,.slice none 0 0,.bool false,.slice none 0 0,.slice none 0 0],true⟩,⟨aa,0,[.int .i64 0,.slice (some ⟨aB,0,none⟩) ((sb ((D.f 0).s)).length) aC,.bool false,.slice none 0 0,.slice none 0 0,.int .i64 0,.slice none 0 0,.bool (((D.f 1).A).isNone),.slice A1_ k1_ c1_,.slice none 0 0],true⟩,⟨bC,0,[.int .i64 0,.slice none 0 0,.bool false,.slice (some ⟨aa,0,none⟩) 2 2,.slice al D.u.length am],true⟩] rfl fz dv
 have de:=fy.move (Step.refl _ Nil) nilM (fun b_ o_ h_ hb_=>fA (G:=F) b_ o_ (.inr h_) hb_)
 refine ⟨_,rfl,fun jp fB=>?_⟩
 have fC:=(EnvOk.places (tb':=[⟨b,o,[.string ((D.f 0).s),.slice ((D.f 1).A) ((D.f 1).l) ((D.f 1).c),.map D.m],false⟩,⟨b4,0,[.int .i64 0,.slice none 0 0,.bool false,.slice none 0 0,.slice none 0 0],true⟩,⟨aa,0,[.int .i64 0,.slice (some ⟨aB,0,none⟩) ((sb ((D.f 0).s)).length) aC,.bool false,.slice none 0 0,.slice none 0 0,.int .i64 0,.slice none 0 0,.bool (((D.f 1).A).isNone),.slice A1_ k1_ c1_,.slice none 0 0],true⟩,⟨bC,0,[.int .i64 0,.slice none 0 0,.bool false,.slice (some ⟨aa,0,none⟩) 2 2,.slice al D.u.length am],true⟩]) fB (show Pl [⟨b,o,[.string ((D.f 0).s),.slice ((D.f 1).A) ((D.f 1).l) ((D.f 1).c),.map D.m],false⟩,⟨b4,0,[.int .i64 0,.slice none 0 0,.bool false,.slice none 0 0,.slice none 0 0],true⟩,⟨aa,0,[.int .i64 0,.slice (some ⟨aB,0,none⟩) ((sb ((D.f 0).s)).length) aC,.bool false,.slice none 0 0,.slice none 0 0,.int .i64 0,.slice none 0 0,.bool (((D.f 1).A).isNone),.slice A1_ k1_ c1_,.slice none 0 0],true⟩,⟨bC,0,[.int .i64 0,.slice none 0 0,.bool false,.slice (some ⟨aa,0,none⟩) 2 2,.slice none 0 0],true⟩] [⟨b,o,[.string ((D.f 0).s),.slice ((D.f 1).A) ((D.f 1).l) ((D.f 1).c),.map D.m],false⟩,⟨b4,0,[.int .i64 0,.slice none 0 0,.bool false,.slice none 0 0,.slice none 0 0],true⟩,⟨aa,0,[.int .i64 0,.slice (some ⟨aB,0,none⟩) ((sb ((D.f 0).s)).length) aC,.bool false,.slice none 0 0,.slice none 0 0,.int .i64 0,.slice none 0 0,.bool (((D.f 1).A).isNone),.slice A1_ k1_ c1_,.slice none 0 0],true⟩,⟨bC,0,[.int .i64 0,.slice none 0 0,.bool false,.slice (some ⟨aa,0,none⟩) 2 2,.slice al D.u.length am],true⟩] from ⟨rfl,rfl,⟨rfl,rfl,⟨rfl,rfl,⟨rfl,rfl,trivial⟩⟩⟩⟩)).pk (env':=[(76,.v (.tuple #[])),(2,.p 1 0),(3,.p 3 0),(74,.p 0 2),(75,.v (.func (.func 123) #[] #[.pointer (some ⟨bC,0,none⟩)]))])
 refine qae (qab ?_)
 refine qad [0,1,2] kz ?_
 refine qaj [0,1] [2] [(2,.p 1 0),(3,.p 3 0),(78,.v (.slice al D.u.length am))] cG fC fun jq fD=>?_
 refine qal (qak fD (f:=66) (vs:=[.slice al D.u.length am]) (d:=79) kz Tryz.call66 (qhi de g3.sorted) ?_)
 rintro e_ jr ⟨rfl,df⟩
 refine ⟨_,rfl,fun js fE=>?_⟩
 have dg:=cG.next_nil df
 have aG:=cG.frN df
 refine qae (qab ?_)
 refine qad [0,1] kz ?_
 refine qaj [0] [1] [(2,.p 1 0),(80,.v (.agg #[.int .i64 0,.slice none 0 0,.bool false,.slice (some ⟨aa,0,none⟩) 2 2,.slice al D.u.length am]))] dg fE fun jt fF=>?_
 refine qal (qau dg fF (oi:=1) (cs:=[.int .i64 0,.slice none 0 0,.bool false,.slice (some ⟨aa,0,none⟩) 2 2,.slice al D.u.length am]) kz fun fG aH cH fH=>?_)
 refine qae (qab ?_)
 refine wp_ret ?_
 refine qaK fH cH.cells (v:=.agg #[.int .i64 0,.slice none 0 0,.bool false,.slice (some ⟨aa,0,none⟩) 2 2,.slice al D.u.length am]) kz ?_
 have dh:=(hT1_.move ((bK.trans aG).trans aH).step immM ((bK.trans aG).trans aH).to')
 rw [qf8 (by omega)] at dh
 exact qf9 (u:=D.u) (l:=[.mk 0 (sb (D.f 0).s) false [] [],.mk 0 [] (D.f 1).A.isNone ((List.range (D.f 1).l).map fun i=>qaH ((D.f 1).f i)) []]) (css:=[[.int .i64 0,.slice (some ⟨aB,0,none⟩) ((sb ((D.f 0).s)).length) aC,.bool false,.slice none 0 0,.slice none 0 0],[.int .i64 0,.slice none 0 0,.bool (((D.f 1).A).isNone),.slice A1_ k1_ c1_,.slice none 0 0]]) cH 2 rfl ⟨(show TreeR _ (Imm F w fG [⟨b,o,[.string ((D.f 0).s),.slice ((D.f 1).A) ((D.f 1).l) ((D.f 1).c),.map D.m],false⟩,⟨b4,0,[.int .i64 0,.slice none 0 0,.bool false,.slice (some ⟨aa,0,none⟩) 2 2,.slice al D.u.length am],true⟩,⟨aa,0,[.int .i64 0,.slice (some ⟨aB,0,none⟩) ((sb ((D.f 0).s)).length) aC,.bool false,.slice none 0 0,.slice none 0 0,.int .i64 0,.slice none 0 0,.bool (((D.f 1).A).isNone),.slice A1_ k1_ c1_,.slice none 0 0],true⟩,⟨bC,0,[.int .i64 0,.slice none 0 0,.bool false,.slice (some ⟨aa,0,none⟩) 2 2,.slice al D.u.length am],true⟩] [⟨A1_,c1_,37,5,k1_,xs1_⟩]) _ _ from (TreeR.mk (n:=0) (b:=false) (s:=(sb ((D.f 0).s))) (l:=[]) (u:=[]) (fun _=>[]) (fW.move (((((((dy.trans dz).trans dA).trans dC).trans bY).trans bK).trans aG).trans aH).step immM (((((((dy.trans dz).trans dA).trans dC).trans bY).trans bK).trans aG).trans aH).to') (Slots.nil _ _ _ _) (fun i_ x_ h_=>by simp at h_) (TagsR.nil _ _))).move (Step.refl _ Nil) nilM qcT,qfm cH (k:=0) rfl dh (by rw [qb7]; omega) (by rw [qb7]; omega),trivial⟩ ((show TagsR _ (Imm F w fG [⟨b,o,[.string ((D.f 0).s),.slice ((D.f 1).A) ((D.f 1).l) ((D.f 1).c),.map D.m],false⟩,⟨b4,0,[.int .i64 0,.slice none 0 0,.bool false,.slice (some ⟨aa,0,none⟩) 2 2,.slice al D.u.length am],true⟩,⟨aa,0,[.int .i64 0,.slice (some ⟨aB,0,none⟩) ((sb ((D.f 0).s)).length) aC,.bool false,.slice none 0 0,.slice none 0 0,.int .i64 0,.slice none 0 0,.bool (((D.f 1).A).isNone),.slice A1_ k1_ c1_,.slice none 0 0],true⟩,⟨bC,0,[.int .i64 0,.slice none 0 0,.bool false,.slice (some ⟨aa,0,none⟩) 2 2,.slice al D.u.length am],true⟩] [⟨A1_,c1_,37,5,k1_,xs1_⟩]) _ _ _ from (de.move (aG.trans aH).step immM (aG.trans aH).to')).move (Step.refl _ Nil) nilM qcT)
set_option maxHeartbeats 4000000 in
theorem qcp (v:Int) (D:DV) (b o:Nat) (w:World) (F:Nat → Nat → Prop) (hat:AtF w F b o [.int .i16 v,.slice ((D.f 0).A) ((D.f 0).l) ((D.f 0).c),.map D.m]) (hok:qa3 w F D):Calls Tryz.prog 52 #[.pointer (some ⟨b,o,none⟩)] w (qe4 w F (qa1 D)):=by
 refine enter (n:=72) Tryz.func52 rfl Tryz.ntmps52 kz fun a hE=>?_
 have hW:WOk w Nil w [⟨b,o,[.int .i16 v,.slice ((D.f 0).A) ((D.f 0).l) ((D.f 0).c),.map D.m],false⟩] []:=(WOk.start w Nil).start1 hat rfl rfl
 unfold qa3 at hok
 obtain ⟨⟨g1,g1l,g1e⟩,g2,g2l,g2x,_⟩:=hok
 have hE0:=(EnvOk.ptr0 (cs:=[.int .i16 v,.slice ((D.f 0).A) ((D.f 0).l) ((D.f 0).c),.map D.m]) (r:=false) hE).pk (env':=[(0,.p 0 0)])
 refine qad [0] kz ?_
 refine qal (qaU hW hE0 (d:=2) (cs:=[.int .i64 0,.slice none 0 0,.bool false,.slice none 0 0,.slice none 0 0]) kz fun b3 a4 w5 hb6 hz7 hF8 hW9 fr=>?_)
 refine qae (qab ?_)
 refine qad [0,1,2,3] kz ?_
 refine qal (qeC (t:=34) (e:=37) (size:=5) (bytes:=88) (d:=5) (j:=1) (.agg #[.int .i64 0,.slice none 0 0,.bool false,.slice none 0 0,.slice none 0 0]) [.int .i64 0,.slice none 0 0,.bool false,.slice none 0 0,.slice none 0 0] hW9 fr fun aa iV iW gA gB gC dp ft=>?_)
 refine qaj [1] [2,3] [(0,.p 0 0),(2,.p 1 0),(6,.v (.agg #[.int .i64 0,.slice none 0 0,.bool false,.slice (some ⟨aa,0,none⟩) 1 1,.slice none 0 0]))] dp ft fun iX fu=>?_
 refine qal (qaU dp fu (d:=3) (cs:=[.int .i64 0,.slice none 0 0,.bool false,.slice none 0 0,.slice none 0 0]) kz fun bu iY iZ gD gE gF fv fw=>?_)
 refine qal (qau fv fw (oi:=3) (cs:=[.int .i64 0,.slice none 0 0,.bool false,.slice (some ⟨aa,0,none⟩) 1 1,.slice none 0 0]) kz fun i6 gG fx fy=>?_)
 refine qae (qab ?_)
 refine qaI 9 kz fx fun i7 gH fz c6=>?_
 refine qaE [0,1,2,3,4,5,6] [(0,.p 0 0),(2,.p 1 0),(3,.p 3 0),(8,.v (.slice (some ⟨aa,0,none⟩) 1 1)),(13,.v (.bool (((D.f 0).A).isNone)))] 3 (qaa qaf) (fun _ h=>h.cells) c6 fy fun ja fA=>?_
 refine qas (i:=7) kz (qaA fA (t:=34) (A:=(some ⟨aa,0,none⟩)) (m:=1) (q:=0) (d:=14) kz (e:=37) (size:=5) (bytes:=88) (j:=0) kz (b:=aa) (o:=0) rfl rfl (by decide) fun jb fB=>?_)
 have fC:=fB.recast 14 (.v (.pointer (some ⟨aa,0 + 0 * 5,none⟩))) (.p 2 0) rfl rfl (Nat.le_of_ble_eq_true (n:=3) rfl)
 have fD:=fC.pk (env':=[(0,.p 0 0),(2,.p 1 0),(3,.p 3 0),(8,.v (.slice (some ⟨aa,0,none⟩) 1 1)),(13,.v (.bool (((D.f 0).A).isNone))),(14,.p 2 0)])
 refine ⟨fun _=>c6,?_⟩
 refine qaE [8] [(0,.p 0 0),(2,.p 1 0),(3,.p 3 0),(13,.v (.bool (((D.f 0).A).isNone))),(15,.p 2 2)] 1 (qaa qaf) (fun _ h=>h.cells) c6 fD fun jc fE=>?_
 refine qas (i:=9) kz (qau fz fE (oi:=2) (cs:=[.int .i64 0,.slice none 0 0,.bool (((D.f 0).A).isNone),.slice none 0 0,.slice none 0 0]) kz fun jd gI da fF=>?_)
 refine ⟨fun h=>absurd rfl h,?_⟩
 refine qaC kz ?_ _
 refine qab ?_
 refine wp_seq ?_
 refine qap [(0,.p 0 0),(2,.p 1 0),(3,.p 3 0),(20,.v (.int .i64 (((D.f 0).l:Nat):Int))),(21,.v (.int .i64 0))] da fF fun je fG=>?_
 refine wp_block ?_
 have dq:=da.addNil 37 5
 have gJ:=da.frNil 37 5
 refine wp_loop_ghost (fun n_ a_ w_=>∃ (k0_:Nat) (A0_:Option Addr) (c0_:Nat) (xs0_:List Value) (css0_:List (List Value)),n_ = (D.f 0).l - k0_ ∧ k0_ ≤ (D.f 0).l ∧ (Trees w_ (Imm F w w_ [⟨b,o,[.int .i16 v,.slice ((D.f 0).A) ((D.f 0).l) ((D.f 0).c),.map D.m],false⟩,⟨b3,0,[.int .i64 0,.slice none 0 0,.bool false,.slice none 0 0,.slice none 0 0],true⟩,⟨aa,0,[.int .i64 0,.slice none 0 0,.bool (((D.f 0).A).isNone),.slice A0_ k0_ c0_,.slice none 0 0],true⟩,⟨bu,0,[.int .i64 0,.slice none 0 0,.bool false,.slice (some ⟨aa,0,none⟩) 1 1,.slice none 0 0],true⟩] [⟨A0_,c0_,37,5,k0_,xs0_⟩]) xs0_ (((List.range (D.f 0).l).map (fun i=>qaO ((D.f 0).f i))).take k0_) css0_) ∧ LInv dq 72 [⟨b,o,[.int .i16 v,.slice ((D.f 0).A) ((D.f 0).l) ((D.f 0).c),.map D.m],false⟩,⟨b3,0,[.int .i64 0,.slice none 0 0,.bool false,.slice none 0 0,.slice none 0 0],true⟩,⟨aa,0,[.int .i64 0,.slice none 0 0,.bool (((D.f 0).A).isNone),.slice A0_ k0_ c0_,.slice none 0 0],true⟩,⟨bu,0,[.int .i64 0,.slice none 0 0,.bool false,.slice (some ⟨aa,0,none⟩) 1 1,.slice none 0 0],true⟩] [⟨A0_,c0_,37,5,k0_,xs0_⟩] [(0,.p 0 0),(2,.p 1 0),(3,.p 3 0),(20,.v (.int .i64 (((D.f 0).l:Nat):Int))),(21,.v (.int .i64 ((k0_:Nat):Int)))] a_ w_) ((D.f 0).l) ⟨0,none,0,[],[],by omega,by omega,Trees.nil _ _,fG.pk,dq,Fr.refl _ _ _⟩ ?_
 rintro jf jg gK ⟨k0_,A0_,c0_,xs0_,css0_,gL,gM,hT0_,fH,ax,db⟩
 refine qap [(0,.p 0 0),(2,.p 1 0),(3,.p 3 0),(20,.v (.int .i64 (((D.f 0).l:Nat):Int))),(21,.v (.int .i64 ((k0_:Nat):Int))),(22,.v (.bool (decide (((k0_:Nat):Int) < (((D.f 0).l:Nat):Int)))))] ax fH fun jh dc=>?_
 refine wp_seq ?_
 refine qav dc (b:=decide (((k0_:Nat):Int) < (((D.f 0).l:Nat):Int))) kz (fun de=>?_) (fun de=>?_)
 ·
  have gN:=of_decide_eq_true de
  refine wp_skip ?_
  refine qab ?_
  refine wp_seq ?_
  refine wp_block ?_
  refine qap [(0,.p 0 0),(2,.p 1 0),(3,.p 3 0),(4,.v (.int .i64 ((k0_:Nat):Int))),(20,.v (.int .i64 (((D.f 0).l:Nat):Int))),(21,.v (.int .i64 ((k0_:Nat):Int)))] ax dc fun ji fI=>?_
  refine qaI 4 kz ax fun jj aC fJ gO=>?_
  refine qas (i:=0) kz (qaU fJ fI (d:=24) (cs:=[.bool false]) kz fun jk jl jm gP gQ ab df dr=>?_)
  have fK:=TT.ofW ab df
  refine ⟨fun _=>fK,?_⟩
  refine qdM (i:=1) (j:=2) kz ?_ ?_
  ·
   refine (qau df dr (oi:=4) (cs:=[.bool true]) kz fun jn bE dt fL=>?_)
   have fM:=TT.ofW (ab.trans bE) dt
   refine ⟨fun _=>fM,?_⟩
   refine qas (i:=2) kz (qau dt fL (oi:=4) (cs:=[.bool false]) kz fun jo bS cz fN=>?_)
   have fO:=TT.ofW ((ab.trans bE).trans bS) cz
   refine ⟨fun _=>fO,?_⟩
   refine qas (i:=3) kz (qbe [0,2,3,4,20,21,25] cz.cells fN (env':=[(0,.p 0 0),(2,.p 1 0),(3,.p 3 0),(4,.v (.int .i64 ((k0_:Nat):Int))),(20,.v (.int .i64 (((D.f 0).l:Nat):Int))),(21,.v (.int .i64 ((k0_:Nat):Int))),(25,.v (.bool false))]) kz fun jp du=>?_)
   have fP:=TT.ofW ((ab.trans bE).trans bS) cz
   refine ⟨fun _=>fP,?_⟩
   refine qaC kz ?_ _
   refine qab ?_
   refine qao du (b:=false) kz rfl ?_
   refine qcG 18 kz cz fun jq dg bt cA=>?_
   refine qaE [0,1,2,3,7,8,9,10,11] [(0,.p 0 0),(2,.p 1 0),(3,.p 3 0),(20,.v (.int .i64 (((D.f 0).l:Nat):Int))),(21,.v (.int .i64 ((k0_:Nat):Int))),(45,.v (.slice (some ⟨aa,0,none⟩) 1 1)),(47,.v (.slice (some ⟨aa,0,none⟩) 1 1)),(54,.v (.slice ((D.f 0).A) ((D.f 0).l) ((D.f 0).c))),(55,.v (.int .i64 ((k0_:Nat):Int)))] 10 (qac (qaa (qaa (qac (qaa qaf))))) (fun _ h=>h.cells) cA du fun jr fQ=>?_
   refine qaQ fQ (i:=4) (t:=34) (A:=(some ⟨aa,0,none⟩)) (m:=1) (q:=0) (d:=48) kz (e:=37) (size:=5) (bytes:=88) (j:=0) kz (b:=aa) (o:=0) rfl rfl (by decide) kz kz (qac (qaa (qaa (qac (qaa qaf))))) cA fun gR dv=>?_
   have dw:=dv.recast 48 (.v (.pointer (some ⟨aa,0 + 0 * 5,none⟩))) (.p 2 0) rfl rfl (Nat.le_of_ble_eq_true (n:=3) rfl)
   have dx:=dw.pk (env':=[(0,.p 0 0),(2,.p 1 0),(3,.p 3 0),(20,.v (.int .i64 (((D.f 0).l:Nat):Int))),(21,.v (.int .i64 ((k0_:Nat):Int))),(45,.v (.slice (some ⟨aa,0,none⟩) 1 1)),(47,.v (.slice (some ⟨aa,0,none⟩) 1 1)),(54,.v (.slice ((D.f 0).A) ((D.f 0).l) ((D.f 0).c))),(55,.v (.int .i64 ((k0_:Nat):Int))),(48,.p 2 0)])
   refine qaE [5,6] [(0,.p 0 0),(2,.p 1 0),(3,.p 3 0),(20,.v (.int .i64 (((D.f 0).l:Nat):Int))),(21,.v (.int .i64 ((k0_:Nat):Int))),(45,.v (.slice (some ⟨aa,0,none⟩) 1 1)),(50,.v (.slice A0_ k0_ c0_)),(54,.v (.slice ((D.f 0).A) ((D.f 0).l) ((D.f 0).c))),(55,.v (.int .i64 ((k0_:Nat):Int)))] 7 (qac (qaa (qaa (qac (qaa qaf))))) (fun _ h=>h.cells) cA dx fun gS dy=>?_
   obtain ⟨dz,dA,dB,gd,dh⟩:=Slots.get g1 (i:=k0_) (by omega)
   refine qaQ dy (i:=12) (t:=115) (A:=(D.f 0).A) (m:=((D.f 0).l)) (q:=((k0_:Nat):Int)) (d:=56) kz (e:=122) (size:=3) (bytes:=48) kz dB rfl (by omega) kz kz (qac (qaa (qaa (qac (qaa qaf))))) cA fun gT dC=>?_
   refine qas (i:=13) kz (qak dC (f:=84) (vs:=[.pointer (some ⟨dz,dA + k0_ * 3,none⟩)]) (d:=57) kz Tryz.call84 (qbk 0 ((D.f 0).f k0_) _ _ _ _ (dh.move bt.step nilM bt.imm) (qaS _ bt.step nilM bt.imm (g1e k0_ (by omega)))) ?_)
   rintro e_ gU ⟨ge,rfl,dD,bT⟩
   have bU:=dD.move (Step.refl _ Nil) nilM (bt.laid (G:=F) bT)
   obtain ⟨bF,bG,bH,bI,bJ,bK,bL,bM,bN,bO,bP,gg,gh,bV,fR,fS,gV,gW⟩:=bU.open_
   rw [bV] at bU
   have fT:=fR.small
   have fU:=fS.small
   rw [bV]
   refine ⟨_,rfl,fun gX dE=>?_⟩
   have cD:=bt.next_nil bT
   have al:=bt.frN bT
   have dF:=TT.ofW al cD
   refine ⟨fun _=>dF,?_⟩
   refine qas (i:=14) kz (qbs cD dE (e:=37) (size:=5) (len:=1) (cs:=[.int .i64 bF,.slice bK bG.length bL,.bool bH,.slice bM bI.length bN,.slice bO bJ.length bP]) (d:=58) kz kz fun dG gY gZ gi gj ae bw dH=>?_)
   have dI:=TT.ofW (al.trans ae) bw
   refine ⟨fun _=>dI,?_⟩
   refine qas (i:=15) kz (qaV bw dH (k:=0) (d:=59) (t:=34) (e:=37) (size:=5) (bytes:=88) (A:=A0_) (As:=(some ⟨dG,0,none⟩)) (m0:=k0_) (c:=c0_) (m:=1) (cs:=1) (xs:=xs0_) (news:=[.int .i64 bF,.slice bK bG.length bL,.bool bH,.slice bM bI.length bN,.slice bO bJ.length bP]) kz kz rfl (qbz (bw.own 1 _ rfl) (qbu kz)) (qbE (bw.own 1 _ rfl)) (by omega) fun bQ bR g6 g7 am bW dJ=>?_)
   have dK:=TT.ofW ((al.trans ae).trans am) bW
   refine ⟨fun _=>dK,?_⟩
   refine qas (i:=16) kz (qaA dJ (t:=34) (A:=(some ⟨aa,0,none⟩)) (m:=1) (q:=0) (d:=60) kz (e:=37) (size:=5) (bytes:=88) (j:=0) kz (b:=aa) (o:=0) rfl rfl (by decide) fun g8 dL=>?_)
   have dM:=dL.recast 60 (.v (.pointer (some ⟨aa,0 + 0 * 5,none⟩))) (.p 2 0) rfl rfl (Nat.le_of_ble_eq_true (n:=3) rfl)
   have dN:=dM.pk (env':=[(0,.p 0 0),(2,.p 1 0),(3,.p 3 0),(20,.v (.int .i64 (((D.f 0).l:Nat):Int))),(21,.v (.int .i64 ((k0_:Nat):Int))),(45,.v (.slice (some ⟨aa,0,none⟩) 1 1)),(50,.v (.slice A0_ k0_ c0_)),(54,.v (.slice ((D.f 0).A) ((D.f 0).l) ((D.f 0).c))),(55,.v (.int .i64 ((k0_:Nat):Int))),(56,.v (.pointer (some ⟨dz,dA + k0_ * 3,none⟩))),(57,.v (.agg #[.int .i64 bF,.slice bK bG.length bL,.bool bH,.slice bM bI.length bN,.slice bO bJ.length bP])),(58,.v (.slice (some ⟨dG,0,none⟩) 1 1)),(59,.v (.slice bQ (k0_ + 1) bR)),(60,.p 2 0)])
   have cE:=TT.ofW ((al.trans ae).trans am) bW
   refine ⟨fun _=>cE,?_⟩
   refine qaE [17] [(0,.p 0 0),(2,.p 1 0),(3,.p 3 0),(20,.v (.int .i64 (((D.f 0).l:Nat):Int))),(21,.v (.int .i64 ((k0_:Nat):Int))),(59,.v (.slice bQ (k0_ + 1) bR)),(61,.p 2 3)] 1 (qac (qaa (qaa (qac (qaa qaf))))) (fun _ h=>h.cells) cE dN fun g9 dO=>?_
   refine qas (i:=18) kz (qau bW dO (oi:=2) (cs:=[.int .i64 0,.slice none 0 0,.bool (((D.f 0).A).isNone),.slice bQ (k0_ + 1) bR,.slice none 0 0]) kz fun hC aZ cG dP=>?_)
   refine ⟨fun h=>absurd rfl h,?_⟩
   refine qaC kz ?_ _
   refine qar ?_
   refine qab ?_
   refine qaq [0,1] kz ?_
   refine qaj [0,1] [] [(0,.p 0 0),(2,.p 1 0),(3,.p 3 0),(20,.v (.int .i64 (((D.f 0).l:Nat):Int))),(21,.v (.int .i64 (IntKind.i64.wrap (((k0_:Nat):Int) + 1))))] cG dP fun hJ dQ=>?_
   refine qae (qab ?_)
   obtain ⟨cH,dR,ba⟩:=cG.cutB dQ 4 [⟨b,o,[.int .i16 v,.slice ((D.f 0).A) ((D.f 0).l) ((D.f 0).c),.map D.m],false⟩,⟨b3,0,[.int .i64 0,.slice none 0 0,.bool false,.slice none 0 0,.slice none 0 0],true⟩,⟨aa,0,[.int .i64 0,.slice none 0 0,.bool (((D.f 0).A).isNone),.slice bQ (k0_ + 1) bR,.slice none 0 0],true⟩,⟨bu,0,[.int .i64 0,.slice none 0 0,.bool false,.slice (some ⟨aa,0,none⟩) 1 1,.slice none 0 0],true⟩] [(0,.p 0 0),(2,.p 1 0),(3,.p 3 0),(20,.v (.int .i64 (((D.f 0).l:Nat):Int))),(21,.v (.int .i64 (IntKind.i64.wrap (((k0_:Nat):Int) + 1))))]
   obtain ⟨dS,bd⟩:=dR.cutR 1 [⟨bQ,bR,37,5,k0_ + 1,xs0_ ++ [.int .i64 bF,.slice bK bG.length bL,.bool bH,.slice bM bI.length bN,.slice bO bJ.length bP]⟩]
   have dT:IntKind.i64.wrap (((k0_:Nat):Int) + 1) = ((k0_ + 1:Nat):Int):=qaP (by omega)
   rw [dT] at cH
   exact ⟨(D.f 0).l - (k0_ + 1),by omega,k0_ + 1,bQ,bR,xs0_ ++ [Value.int .i64 bF,.slice bK bG.length bL,.bool bH,.slice bM bI.length bN,.slice bO bJ.length bP],(css0_ ++ [[Value.int .i64 bF,.slice bK bG.length bL,.bool bH,.slice bM bI.length bN,.slice bO bJ.length bP]]),rfl,by omega,by rw [qcm (by omega)]; exact (hT0_.move ((((((((((aC.trans ab).trans bE).trans bS).trans dg).trans al).trans ae).trans am).trans aZ).trans ba).trans bd).step immM ((((((((((aC.trans ab).trans bE).trans bS).trans dg).trans al).trans ae).trans am).trans aZ).trans ba).trans bd).to').snoc (x:=(fun i=>qaO ((D.f 0).f i)) k0_) (bU.move ((((ae.trans am).trans aZ).trans ba).trans bd).step immM ((((ae.trans am).trans aZ).trans ba).trans bd).to'),cH.pk,dS,(((((((((((db.trans aC).trans ab).trans bE).trans bS).trans dg).trans al).trans ae).trans am).trans aZ).trans ba).trans bd)⟩
  refine (qau df dr (oi:=4) (cs:=[.bool false]) kz fun hK ac cI dU=>?_)
  have dV:=TT.ofW (ab.trans ac) cI
  refine ⟨fun _=>dV,?_⟩
  refine qas (i:=1) kz (qau cI dU (oi:=4) (cs:=[.bool true]) kz fun hZ af bx dW=>?_)
  have dX:=TT.ofW ((ab.trans ac).trans af) bx
  refine ⟨fun _=>dX,?_⟩
  refine qas (i:=3) kz (qbe [0,2,3,4,20,21,25] bx.cells dW (env':=[(0,.p 0 0),(2,.p 1 0),(3,.p 3 0),(4,.v (.int .i64 ((k0_:Nat):Int))),(20,.v (.int .i64 (((D.f 0).l:Nat):Int))),(21,.v (.int .i64 ((k0_:Nat):Int))),(25,.v (.bool true))]) kz fun ia cJ=>?_)
  have dY:=TT.ofW ((ab.trans ac).trans af) bx
  refine ⟨fun _=>dY,?_⟩
  refine qaC kz ?_ _
  refine qab ?_
  refine qa7 cJ (b:=true) kz rfl ?_
  refine qaI 17 kz bx fun ib aA ag bz=>?_
  refine qaE [0,1,5,6,7,8,9] [(0,.p 0 0),(2,.p 1 0),(3,.p 3 0),(20,.v (.int .i64 (((D.f 0).l:Nat):Int))),(21,.v (.int .i64 ((k0_:Nat):Int))),(27,.v (.slice (some ⟨aa,0,none⟩) 1 1)),(34,.v (.slice ((D.f 0).A) ((D.f 0).l) ((D.f 0).c))),(35,.v (.int .i64 ((k0_:Nat):Int)))] 11 (qaa (qac (qaa (qaa (qac (qaa qaf)))))) (fun _ h=>h.cells) bz cJ fun ic dZ=>?_
  refine qaQ dZ (i:=2) (t:=34) (A:=(some ⟨aa,0,none⟩)) (m:=1) (q:=0) (d:=28) kz (e:=37) (size:=5) (bytes:=88) (j:=0) kz (b:=aa) (o:=0) rfl rfl (by decide) kz kz (qaa (qac (qaa (qaa (qac (qaa qaf)))))) bz fun ig d5=>?_
  have d6:=d5.recast 28 (.v (.pointer (some ⟨aa,0 + 0 * 5,none⟩))) (.p 2 0) rfl rfl (Nat.le_of_ble_eq_true (n:=3) rfl)
  have d7:=d6.pk (env':=[(0,.p 0 0),(2,.p 1 0),(3,.p 3 0),(20,.v (.int .i64 (((D.f 0).l:Nat):Int))),(21,.v (.int .i64 ((k0_:Nat):Int))),(27,.v (.slice (some ⟨aa,0,none⟩) 1 1)),(34,.v (.slice ((D.f 0).A) ((D.f 0).l) ((D.f 0).c))),(35,.v (.int .i64 ((k0_:Nat):Int))),(28,.p 2 0)])
  refine qaE [3,4,12] [(0,.p 0 0),(2,.p 1 0),(3,.p 3 0),(20,.v (.int .i64 (((D.f 0).l:Nat):Int))),(21,.v (.int .i64 ((k0_:Nat):Int))),(27,.v (.slice (some ⟨aa,0,none⟩) 1 1)),(30,.v (.slice A0_ k0_ c0_)),(34,.v (.slice ((D.f 0).A) ((D.f 0).l) ((D.f 0).c))),(35,.v (.int .i64 ((k0_:Nat):Int))),(38,.v (.int .i64 ((k0_:Nat):Int)))] 7 (qaa (qac (qaa (qaa (qac (qaa qaf)))))) (fun _ h=>h.cells) bz d7 fun ii d8=>?_
  obtain ⟨cB,cC,d9,gk,bX⟩:=Slots.get g1 (i:=k0_) (by omega)
  refine qaQ d8 (i:=10) (t:=115) (A:=(D.f 0).A) (m:=((D.f 0).l)) (q:=((k0_:Nat):Int)) (d:=36) kz (e:=122) (size:=3) (bytes:=48) kz d9 rfl (by omega) kz kz (qaa (qac (qaa (qaa (qac (qaa qaf)))))) bz fun ij cK=>?_
  refine qdM (i:=11) (j:=13) kz ?_ ?_
  ·
   refine (qak cK (f:=84) (vs:=[.pointer (some ⟨cB,cC + k0_ * 3,none⟩)]) (d:=37) kz Tryz.call84 (qbk 0 ((D.f 0).f k0_) _ _ _ _ (bX.move ag.step nilM ag.imm) (qaS _ ag.step nilM ag.imm (g1e k0_ (by omega)))) ?_)
   rintro e_ ik ⟨gl,rfl,ea,bY⟩
   have bZ:=ea.move (Step.refl _ Nil) nilM (ag.laid (G:=F) bY)
   obtain ⟨aD,aE,aF,aG,aH,aI,aJ,aK,aL,aM,aN,gm,gn,b8,fV,fW,il,im⟩:=bZ.open_
   rw [b8] at bZ
   have fX:=fV.small
   have fY:=fW.small
   rw [b8]
   refine ⟨_,rfl,fun io eb=>?_⟩
   have cL:=ag.next_nil bY
   have ao:=ag.frN bY
   have ec:=TT.ofW ao cL
   refine ⟨fun _=>ec,?_⟩
   refine qas (i:=13) kz (qbs cL eb (e:=37) (size:=5) (len:=1) (cs:=[.int .i64 0,.slice none 0 0,.bool false,.slice none 0 0,.slice none 0 0]) (d:=39) kz kz fun di ip iq gp gq ah bA ee=>?_)
   have ef:=TT.ofW (ao.trans ah) bA
   refine ⟨fun _=>ef,?_⟩
   refine qas (i:=14) kz (qaV bA ee (k:=0) (d:=40) (t:=34) (e:=37) (size:=5) (bytes:=88) (A:=A0_) (As:=(some ⟨di,0,none⟩)) (m0:=k0_) (c:=c0_) (m:=1) (cs:=1) (xs:=xs0_) (news:=[.int .i64 0,.slice none 0 0,.bool false,.slice none 0 0,.slice none 0 0]) kz kz rfl (qbz (bA.own 1 _ rfl) (qbu kz)) (qbE (bA.own 1 _ rfl)) (by omega) fun aj ap ir iu ar cd eg=>?_)
   have eh:=TT.ofW ((ao.trans ah).trans ar) cd
   refine ⟨fun _=>eh,?_⟩
   refine qas (i:=15) kz (qaA eg (t:=34) (A:=(some ⟨aa,0,none⟩)) (m:=1) (q:=0) (d:=41) kz (e:=37) (size:=5) (bytes:=88) (j:=0) kz (b:=aa) (o:=0) rfl rfl (by decide) fun iv ei=>?_)
   have ej:=ei.recast 41 (.v (.pointer (some ⟨aa,0 + 0 * 5,none⟩))) (.p 2 0) rfl rfl (Nat.le_of_ble_eq_true (n:=3) rfl)
   have ek:=ej.pk (env':=[(0,.p 0 0),(2,.p 1 0),(3,.p 3 0),(20,.v (.int .i64 (((D.f 0).l:Nat):Int))),(21,.v (.int .i64 ((k0_:Nat):Int))),(27,.v (.slice (some ⟨aa,0,none⟩) 1 1)),(30,.v (.slice A0_ k0_ c0_)),(34,.v (.slice ((D.f 0).A) ((D.f 0).l) ((D.f 0).c))),(35,.v (.int .i64 ((k0_:Nat):Int))),(38,.v (.int .i64 ((k0_:Nat):Int))),(36,.v (.pointer (some ⟨cB,cC + k0_ * 3,none⟩))),(37,.v (.agg #[.int .i64 aD,.slice aI aE.length aJ,.bool aF,.slice aK aG.length aL,.slice aM aH.length aN])),(39,.v (.slice (some ⟨di,0,none⟩) 1 1)),(40,.v (.slice aj (k0_ + 1) ap)),(41,.p 2 0)])
   have cM:=TT.ofW ((ao.trans ah).trans ar) cd
   refine ⟨fun _=>cM,?_⟩
   refine qaE [16] [(0,.p 0 0),(2,.p 1 0),(3,.p 3 0),(20,.v (.int .i64 (((D.f 0).l:Nat):Int))),(21,.v (.int .i64 ((k0_:Nat):Int))),(37,.v (.agg #[.int .i64 aD,.slice aI aE.length aJ,.bool aF,.slice aK aG.length aL,.slice aM aH.length aN])),(38,.v (.int .i64 ((k0_:Nat):Int))),(40,.v (.slice aj (k0_ + 1) ap)),(42,.p 2 3)] 1 (qaa (qac (qaa (qaa (qac (qaa qaf)))))) (fun _ h=>h.cells) cM ek fun iw em=>?_
   refine qas (i:=17) kz (qau cd em (oi:=2) (cs:=[.int .i64 0,.slice none 0 0,.bool (((D.f 0).A).isNone),.slice aj (k0_ + 1) ap,.slice none 0 0]) kz fun fZ bf cN eo=>?_)
   refine ⟨fun h=>absurd rfl h,?_⟩
   refine qaC kz ?_ _
   refine qab ?_
   refine qaq [0,1] kz ?_
   have ep:World.ownsRow fZ 0 37 5 (.slice aj (k0_ + 1) ap) (k0_ + 1) (xs0_ ++ [.int .i64 0,.slice none 0 0,.bool false,.slice none 0 0,.slice none 0 0]):=cN.own 0 _ rfl
   obtain ⟨eu,cO⟩:=qb0 ep (by omega)
   refine qal (qaA eo (t:=34) (A:=aj) (m:=(k0_ + 1)) (q:=((k0_:Nat):Int)) (d:=43) kz (e:=37) (size:=5) (bytes:=88) kz (b:=eu) (o:=0) (j:=k0_) cO (rfl) (by omega) fun ix ev=>?_)
   refine qal (qbW cN ev (k:=0) (g:=eu) (o:=k0_ * 5) (c:=ap) (m:=(k0_ + 1)) (size:=5) (e:=37) (A:=aj) (xs:=(xs0_ ++ [.int .i64 0,.slice none 0 0,.bool false,.slice none 0 0,.slice none 0 0])) (vs:=[.int .i64 aD,.slice aI aE.length aJ,.bool aF,.slice aK aG.length aL,.slice aM aH.length aN]) kz rfl cO (by simp only [List.length_cons,List.length_nil]; omega) fun iy bg ew ey=>?_)
   have ez:(⟨aj,ap,37,5,k0_ + 1,qbl (xs0_ ++ [.int .i64 0,.slice none 0 0,.bool false,.slice none 0 0,.slice none 0 0]) (k0_ * 5) [.int .i64 aD,.slice aI aE.length aJ,.bool aF,.slice aK aG.length aL,.slice aM aH.length aN]⟩:Rw) = ⟨aj,ap,37,5,k0_ + 1,xs0_ ++ [.int .i64 aD,.slice aI aE.length aJ,.bool aF,.slice aK aG.length aL,.slice aM aH.length aN]⟩:=by rw [qcX (by rw [hT0_.xslen,List.length_take,qb7]; omega)]
   obtain ⟨cP,bh⟩:=ew.rowEq 0 [⟨aj,ap,37,5,k0_ + 1,xs0_ ++ [.int .i64 aD,.slice aI aE.length aJ,.bool aF,.slice aK aG.length aL,.slice aM aH.length aN]⟩,⟨some ⟨di,0,none⟩,1,37,5,1,[.int .i64 0,.slice none 0 0,.bool false,.slice none 0 0,.slice none 0 0]⟩] ez
   refine qae ?_
   refine qar ?_
   refine qab ?_
   refine qaq [0,1] kz ?_
   refine qaj [0,1] [] [(0,.p 0 0),(2,.p 1 0),(3,.p 3 0),(20,.v (.int .i64 (((D.f 0).l:Nat):Int))),(21,.v (.int .i64 (IntKind.i64.wrap (((k0_:Nat):Int) + 1))))] cP ey fun iz eB=>?_
   refine qae (qab ?_)
   obtain ⟨cQ,eC,bi⟩:=cP.cutB eB 4 [⟨b,o,[.int .i16 v,.slice ((D.f 0).A) ((D.f 0).l) ((D.f 0).c),.map D.m],false⟩,⟨b3,0,[.int .i64 0,.slice none 0 0,.bool false,.slice none 0 0,.slice none 0 0],true⟩,⟨aa,0,[.int .i64 0,.slice none 0 0,.bool (((D.f 0).A).isNone),.slice aj (k0_ + 1) ap,.slice none 0 0],true⟩,⟨bu,0,[.int .i64 0,.slice none 0 0,.bool false,.slice (some ⟨aa,0,none⟩) 1 1,.slice none 0 0],true⟩] [(0,.p 0 0),(2,.p 1 0),(3,.p 3 0),(20,.v (.int .i64 (((D.f 0).l:Nat):Int))),(21,.v (.int .i64 (IntKind.i64.wrap (((k0_:Nat):Int) + 1))))]
   obtain ⟨eD,bj⟩:=eC.cutR 1 [⟨aj,ap,37,5,k0_ + 1,xs0_ ++ [.int .i64 aD,.slice aI aE.length aJ,.bool aF,.slice aK aG.length aL,.slice aM aH.length aN]⟩]
   have eE:IntKind.i64.wrap (((k0_:Nat):Int) + 1) = ((k0_ + 1:Nat):Int):=qaP (by omega)
   rw [eE] at cQ
   exact ⟨(D.f 0).l - (k0_ + 1),by omega,k0_ + 1,aj,ap,xs0_ ++ [Value.int .i64 aD,.slice aI aE.length aJ,.bool aF,.slice aK aG.length aL,.slice aM aH.length aN],(css0_ ++ [[Value.int .i64 aD,.slice aI aE.length aJ,.bool aF,.slice aK aG.length aL,.slice aM aH.length aN]]),rfl,by omega,by rw [qcm (by omega)]; exact (hT0_.move ((((((((((((aC.trans ab).trans ac).trans af).trans aA).trans ao).trans ah).trans ar).trans bf).trans bg).trans bh).trans bi).trans bj).step immM ((((((((((((aC.trans ab).trans ac).trans af).trans aA).trans ao).trans ah).trans ar).trans bf).trans bg).trans bh).trans bi).trans bj).to').snoc (x:=(fun i=>qaO ((D.f 0).f i)) k0_) (bZ.move ((((((ah.trans ar).trans bf).trans bg).trans bh).trans bi).trans bj).step immM ((((((ah.trans ar).trans bf).trans bg).trans bh).trans bi).trans bj).to'),cQ.pk,eD,(((((((((((((db.trans aC).trans ab).trans ac).trans af).trans aA).trans ao).trans ah).trans ar).trans bf).trans bg).trans bh).trans bi).trans bj)⟩
  refine (qbs ag cK (e:=37) (size:=5) (len:=1) (cs:=[.int .i64 0,.slice none 0 0,.bool false,.slice none 0 0,.slice none 0 0]) (d:=39) kz kz fun dj iA iB gt gv au ai eF=>?_)
  have eG:=TT.ofW au ai
  refine ⟨fun _=>eG,?_⟩
  refine qas (i:=11) kz (qak eF (f:=84) (vs:=[.pointer (some ⟨cB,cC + k0_ * 3,none⟩)]) (d:=37) kz Tryz.call84 (qbk 0 ((D.f 0).f k0_) _ _ _ _ (bX.move ai.step nilM ai.imm) (qaS _ ai.step nilM ai.imm (g1e k0_ (by omega)))) ?_)
  rintro e_ iC ⟨gw,rfl,eH,ce⟩
  have cm:=eH.move (Step.refl _ Nil) nilM (ai.laid (G:=F) ce)
  obtain ⟨aO,aP,aQ,aR,aS,aT,aU,aV,aW,aX,aY,gx,gy,cq,f7,f8,iD,iE⟩:=cm.open_
  rw [cq] at cm
  have f9:=f7.small
  have ga:=f8.small
  rw [cq]
  refine ⟨_,rfl,fun iF eI=>?_⟩
  have bB:=ai.next_nil ce
  have aB:=ai.frN ce
  have eJ:=TT.ofW (au.trans aB) bB
  refine ⟨fun _=>eJ,?_⟩
  refine qas (i:=14) kz (qaV bB eI (k:=0) (d:=40) (t:=34) (e:=37) (size:=5) (bytes:=88) (A:=A0_) (As:=(some ⟨dj,0,none⟩)) (m0:=k0_) (c:=c0_) (m:=1) (cs:=1) (xs:=xs0_) (news:=[.int .i64 0,.slice none 0 0,.bool false,.slice none 0 0,.slice none 0 0]) kz kz rfl (qbz (bB.own 1 _ rfl) (qbu kz)) (qbE (bB.own 1 _ rfl)) (by omega) fun ak av iG iH aw cr eK=>?_)
  have eL:=TT.ofW ((au.trans aB).trans aw) cr
  refine ⟨fun _=>eL,?_⟩
  refine qas (i:=15) kz (qaA eK (t:=34) (A:=(some ⟨aa,0,none⟩)) (m:=1) (q:=0) (d:=41) kz (e:=37) (size:=5) (bytes:=88) (j:=0) kz (b:=aa) (o:=0) rfl rfl (by decide) fun iI eM=>?_)
  have eN:=eM.recast 41 (.v (.pointer (some ⟨aa,0 + 0 * 5,none⟩))) (.p 2 0) rfl rfl (Nat.le_of_ble_eq_true (n:=3) rfl)
  have eO:=eN.pk (env':=[(0,.p 0 0),(2,.p 1 0),(3,.p 3 0),(20,.v (.int .i64 (((D.f 0).l:Nat):Int))),(21,.v (.int .i64 ((k0_:Nat):Int))),(27,.v (.slice (some ⟨aa,0,none⟩) 1 1)),(30,.v (.slice A0_ k0_ c0_)),(34,.v (.slice ((D.f 0).A) ((D.f 0).l) ((D.f 0).c))),(35,.v (.int .i64 ((k0_:Nat):Int))),(38,.v (.int .i64 ((k0_:Nat):Int))),(36,.v (.pointer (some ⟨cB,cC + k0_ * 3,none⟩))),(39,.v (.slice (some ⟨dj,0,none⟩) 1 1)),(37,.v (.agg #[.int .i64 aO,.slice aT aP.length aU,.bool aQ,.slice aV aR.length aW,.slice aX aS.length aY])),(40,.v (.slice ak (k0_ + 1) av)),(41,.p 2 0)])
  have cR:=TT.ofW ((au.trans aB).trans aw) cr
  refine ⟨fun _=>cR,?_⟩
  refine qaE [16] [(0,.p 0 0),(2,.p 1 0),(3,.p 3 0),(20,.v (.int .i64 (((D.f 0).l:Nat):Int))),(21,.v (.int .i64 ((k0_:Nat):Int))),(37,.v (.agg #[.int .i64 aO,.slice aT aP.length aU,.bool aQ,.slice aV aR.length aW,.slice aX aS.length aY])),(38,.v (.int .i64 ((k0_:Nat):Int))),(40,.v (.slice ak (k0_ + 1) av)),(42,.p 2 3)] 1 (qaa (qac (qaa (qaa (qac (qaa qaf)))))) (fun _ h=>h.cells) cR eO fun iJ eP=>?_
  refine qas (i:=17) kz (qau cr eP (oi:=2) (cs:=[.int .i64 0,.slice none 0 0,.bool (((D.f 0).A).isNone),.slice ak (k0_ + 1) av,.slice none 0 0]) kz fun gb bk cS eQ=>?_)
  refine ⟨fun h=>absurd rfl h,?_⟩
  refine qaC kz ?_ _
  refine qab ?_
  refine qaq [0,1] kz ?_
  have eR:World.ownsRow gb 0 37 5 (.slice ak (k0_ + 1) av) (k0_ + 1) (xs0_ ++ [.int .i64 0,.slice none 0 0,.bool false,.slice none 0 0,.slice none 0 0]):=cS.own 0 _ rfl
  obtain ⟨eS,cT⟩:=qb0 eR (by omega)
  refine qal (qaA eQ (t:=34) (A:=ak) (m:=(k0_ + 1)) (q:=((k0_:Nat):Int)) (d:=43) kz (e:=37) (size:=5) (bytes:=88) kz (b:=eS) (o:=0) (j:=k0_) cT (rfl) (by omega) fun iK eU=>?_)
  refine qal (qbW cS eU (k:=0) (g:=eS) (o:=k0_ * 5) (c:=av) (m:=(k0_ + 1)) (size:=5) (e:=37) (A:=ak) (xs:=(xs0_ ++ [.int .i64 0,.slice none 0 0,.bool false,.slice none 0 0,.slice none 0 0])) (vs:=[.int .i64 aO,.slice aT aP.length aU,.bool aQ,.slice aV aR.length aW,.slice aX aS.length aY]) kz rfl cT (by simp only [List.length_cons,List.length_nil]; omega) fun iL bn eV eW=>?_)
  have eX:(⟨ak,av,37,5,k0_ + 1,qbl (xs0_ ++ [.int .i64 0,.slice none 0 0,.bool false,.slice none 0 0,.slice none 0 0]) (k0_ * 5) [.int .i64 aO,.slice aT aP.length aU,.bool aQ,.slice aV aR.length aW,.slice aX aS.length aY]⟩:Rw) = ⟨ak,av,37,5,k0_ + 1,xs0_ ++ [.int .i64 aO,.slice aT aP.length aU,.bool aQ,.slice aV aR.length aW,.slice aX aS.length aY]⟩:=by rw [qcX (by rw [hT0_.xslen,List.length_take,qb7]; omega)]
  obtain ⟨cU,bo⟩:=eV.rowEq 0 [⟨ak,av,37,5,k0_ + 1,xs0_ ++ [.int .i64 aO,.slice aT aP.length aU,.bool aQ,.slice aV aR.length aW,.slice aX aS.length aY]⟩,⟨some ⟨dj,0,none⟩,1,37,5,1,[.int .i64 0,.slice none 0 0,.bool false,.slice none 0 0,.slice none 0 0]⟩] eX
  refine qae ?_
  refine qar ?_
  refine qab ?_
  refine qaq [0,1] kz ?_
  refine qaj [0,1] [] [(0,.p 0 0),(2,.p 1 0),(3,.p 3 0),(20,.v (.int .i64 (((D.f 0).l:Nat):Int))),(21,.v (.int .i64 (IntKind.i64.wrap (((k0_:Nat):Int) + 1))))] cU eW fun iM eY=>?_
  refine qae (qab ?_)
  obtain ⟨cV,eZ,bp⟩:=cU.cutB eY 4 [⟨b,o,[.int .i16 v,.slice ((D.f 0).A) ((D.f 0).l) ((D.f 0).c),.map D.m],false⟩,⟨b3,0,[.int .i64 0,.slice none 0 0,.bool false,.slice none 0 0,.slice none 0 0],true⟩,⟨aa,0,[.int .i64 0,.slice none 0 0,.bool (((D.f 0).A).isNone),.slice ak (k0_ + 1) av,.slice none 0 0],true⟩,⟨bu,0,[.int .i64 0,.slice none 0 0,.bool false,.slice (some ⟨aa,0,none⟩) 1 1,.slice none 0 0],true⟩] [(0,.p 0 0),(2,.p 1 0),(3,.p 3 0),(20,.v (.int .i64 (((D.f 0).l:Nat):Int))),(21,.v (.int .i64 (IntKind.i64.wrap (((k0_:Nat):Int) + 1))))]
  obtain ⟨e9,bq⟩:=eZ.cutR 1 [⟨ak,av,37,5,k0_ + 1,xs0_ ++ [.int .i64 aO,.slice aT aP.length aU,.bool aQ,.slice aV aR.length aW,.slice aX aS.length aY]⟩]
  have fa:IntKind.i64.wrap (((k0_:Nat):Int) + 1) = ((k0_ + 1:Nat):Int):=qaP (by omega)
  rw [fa] at cV
  exact ⟨(D.f 0).l - (k0_ + 1),by omega,k0_ + 1,ak,av,xs0_ ++ [Value.int .i64 aO,.slice aT aP.length aU,.bool aQ,.slice aV aR.length aW,.slice aX aS.length aY],(css0_ ++ [[Value.int .i64 aO,.slice aT aP.length aU,.bool aQ,.slice aV aR.length aW,.slice aX aS.length aY]]),rfl,by omega,by rw [qcm (by omega)]; exact (hT0_.move ((((((((((((aC.trans ab).trans ac).trans af).trans aA).trans au).trans aB).trans aw).trans bk).trans bn).trans bo).trans bp).trans bq).step immM ((((((((((((aC.trans ab).trans ac).trans af).trans aA).trans au).trans aB).trans aw).trans bk).trans bn).trans bo).trans bp).trans bq).to').snoc (x:=(fun i=>qaO ((D.f 0).f i)) k0_) (cm.move (((((aw.trans bk).trans bn).trans bo).trans bp).trans bq).step immM (((((aw.trans bk).trans bn).trans bo).trans bp).trans bq).to'),cV.pk,e9,(((((((((((((db.trans aC).trans ab).trans ac).trans af).trans aA).trans au).trans aB).trans aw).trans bk).trans bn).trans bo).trans bp).trans bq)⟩
 have gz:=of_decide_eq_false de
 refine wp_exit ?_
 refine qaw ?_
 refine qaw ?_
 refine qaL ?_
 refine qab ?_
 refine qad [0,1,2,3,4] kz ?_
 refine qaj [0,1,2] [3,4] [(2,.p 1 0),(3,.p 3 0),(65,.p 0 2)] ax dc fun iN fb=>?_
 refine qal (qeM fb (v:=.func (.func 85) #[] #[.pointer (some ⟨bu,0,none⟩)]) (d:=66) kz fun iO fe=>?_)
 refine qal (qak fe (f:=64) (vs:=[.pointer (some ⟨b,o + 2,none⟩),.func (.func 85) #[] #[.pointer (some ⟨bu,0,none⟩)]]) (d:=67) kz Tryz.call64 (qfl (F:=(Imm F w gK [⟨b,o,[.int .i16 v,.slice ((D.f 0).A) ((D.f 0).l) ((D.f 0).c),.map D.m],false⟩,⟨b3,0,[.int .i64 0,.slice none 0 0,.bool false,.slice none 0 0,.slice none 0 0],true⟩,⟨aa,0,[.int .i64 0,.slice none 0 0,.bool (((D.f 0).A).isNone),.slice A0_ k0_ c0_,.slice none 0 0],true⟩,⟨bu,0,[.int .i64 0,.slice none 0 0,.bool false,.slice (some ⟨aa,0,none⟩) 1 1,.slice none 0 0],true⟩] [⟨A0_,c0_,37,5,k0_,xs0_⟩])) Tryz.call85 qcj ((hat.one 2 rfl).move ax.step nilM ax.imm) (g2.move ax.step nilM ax.imm) (Str.of ax 3 rfl) (qjZ 3 rfl) g2l) ?_)
 rintro e_ iP ⟨rfl,ay,az,dl,ff,fg⟩
 obtain ⟨cu,cW,fh⟩:=ax.wrote 3 [⟨b,o,[.int .i16 v,.slice ((D.f 0).A) ((D.f 0).l) ((D.f 0).c),.map D.m],false⟩,⟨b3,0,[.int .i64 0,.slice none 0 0,.bool false,.slice none 0 0,.slice none 0 0],true⟩,⟨aa,0,[.int .i64 0,.slice none 0 0,.bool (((D.f 0).A).isNone),.slice A0_ k0_ c0_,.slice none 0 0],true⟩,⟨bu,0,[.int .i64 0,.slice none 0 0,.bool false,.slice (some ⟨aa,0,none⟩) 1 1,.slice ay D.u.length az],true⟩] rfl fg dl
 have cX:=ff.move (Step.refl _ Nil) nilM (fun b_ o_ h_ hb_=>fh (G:=F) b_ o_ (.inr h_) hb_)
 refine ⟨_,rfl,fun iQ fi=>?_⟩
 have fj:=(EnvOk.places (tb':=[⟨b,o,[.int .i16 v,.slice ((D.f 0).A) ((D.f 0).l) ((D.f 0).c),.map D.m],false⟩,⟨b3,0,[.int .i64 0,.slice none 0 0,.bool false,.slice none 0 0,.slice none 0 0],true⟩,⟨aa,0,[.int .i64 0,.slice none 0 0,.bool (((D.f 0).A).isNone),.slice A0_ k0_ c0_,.slice none 0 0],true⟩,⟨bu,0,[.int .i64 0,.slice none 0 0,.bool false,.slice (some ⟨aa,0,none⟩) 1 1,.slice ay D.u.length az],true⟩]) fi (show Pl [⟨b,o,[.int .i16 v,.slice ((D.f 0).A) ((D.f 0).l) ((D.f 0).c),.map D.m],false⟩,⟨b3,0,[.int .i64 0,.slice none 0 0,.bool false,.slice none 0 0,.slice none 0 0],true⟩,⟨aa,0,[.int .i64 0,.slice none 0 0,.bool (((D.f 0).A).isNone),.slice A0_ k0_ c0_,.slice none 0 0],true⟩,⟨bu,0,[.int .i64 0,.slice none 0 0,.bool false,.slice (some ⟨aa,0,none⟩) 1 1,.slice none 0 0],true⟩] [⟨b,o,[.int .i16 v,.slice ((D.f 0).A) ((D.f 0).l) ((D.f 0).c),.map D.m],false⟩,⟨b3,0,[.int .i64 0,.slice none 0 0,.bool false,.slice none 0 0,.slice none 0 0],true⟩,⟨aa,0,[.int .i64 0,.slice none 0 0,.bool (((D.f 0).A).isNone),.slice A0_ k0_ c0_,.slice none 0 0],true⟩,⟨bu,0,[.int .i64 0,.slice none 0 0,.bool false,.slice (some ⟨aa,0,none⟩) 1 1,.slice ay D.u.length az],true⟩] from ⟨rfl,rfl,⟨rfl,rfl,⟨rfl,rfl,⟨rfl,rfl,trivial⟩⟩⟩⟩)).pk (env':=[(67,.v (.tuple #[])),(2,.p 1 0),(3,.p 3 0),(65,.p 0 2),(66,.v (.func (.func 85) #[] #[.pointer (some ⟨bu,0,none⟩)]))])
 refine qae (qab ?_)
 refine qad [0,1,2] kz ?_
 refine qaj [0,1] [2] [(2,.p 1 0),(3,.p 3 0),(69,.v (.slice ay D.u.length az))] cu fj fun iR fk=>?_
 refine qal (qak fk (f:=66) (vs:=[.slice ay D.u.length az]) (d:=70) kz Tryz.call66 (qhi cX g2.sorted) ?_)
 rintro e_ iS ⟨rfl,cY⟩
 refine ⟨_,rfl,fun iT fm=>?_⟩
 have cZ:=cu.next_nil cY
 have bC:=cu.frN cY
 refine qae (qab ?_)
 refine qad [0,1] kz ?_
 refine qaj [0] [1] [(2,.p 1 0),(71,.v (.agg #[.int .i64 0,.slice none 0 0,.bool false,.slice (some ⟨aa,0,none⟩) 1 1,.slice ay D.u.length az]))] cZ fm fun iU fo=>?_
 refine qal (qau cZ fo (oi:=1) (cs:=[.int .i64 0,.slice none 0 0,.bool false,.slice (some ⟨aa,0,none⟩) 1 1,.slice ay D.u.length az]) kz fun gc bD cw fq=>?_)
 refine qae (qab ?_)
 refine wp_ret ?_
 refine qaK fq cw.cells (v:=.agg #[.int .i64 0,.slice none 0 0,.bool false,.slice (some ⟨aa,0,none⟩) 1 1,.slice ay D.u.length az]) kz ?_
 have c5:=(hT0_.move ((cW.trans bC).trans bD).step immM ((cW.trans bC).trans bD).to')
 rw [qf8 (by omega)] at c5
 exact qf9 (u:=D.u) (l:=[.mk 0 [] (D.f 0).A.isNone ((List.range (D.f 0).l).map fun i=>qaO ((D.f 0).f i)) []]) (css:=[[.int .i64 0,.slice none 0 0,.bool (((D.f 0).A).isNone),.slice A0_ k0_ c0_,.slice none 0 0]]) cw 2 rfl ⟨qfm cw (k:=0) rfl c5 (by rw [qb7]; omega) (by rw [qb7]; omega),trivial⟩ ((show TagsR _ (Imm F w gc [⟨b,o,[.int .i16 v,.slice ((D.f 0).A) ((D.f 0).l) ((D.f 0).c),.map D.m],false⟩,⟨b3,0,[.int .i64 0,.slice none 0 0,.bool false,.slice (some ⟨aa,0,none⟩) 1 1,.slice ay D.u.length az],true⟩,⟨aa,0,[.int .i64 0,.slice none 0 0,.bool (((D.f 0).A).isNone),.slice A0_ k0_ c0_,.slice none 0 0],true⟩,⟨bu,0,[.int .i64 0,.slice none 0 0,.bool false,.slice (some ⟨aa,0,none⟩) 1 1,.slice ay D.u.length az],true⟩] [⟨A0_,c0_,37,5,k0_,xs0_⟩]) _ _ _ from (cX.move (bC.trans bD).step immM (bC.trans bD).to')).move (Step.refl _ Nil) nilM qcT)
theorem qkw {t:Tree} (h:t.i64s) (i:Nat):(t.at_ i).i64s:=by
 cases t with
 | mk n s b l u =>
  have h1:∀ x ∈ l,x.i64s:=qfa h.2
  show (l.getD i .zero).i64s
  rw [List.getD_eq_getElem?_getD]
  cases hx:l[i]? with
  | none=>exact ⟨by decide,trivial⟩
  | some x=>exact h1 x (List.mem_of_getElem? hx)
theorem qgQ {t x:Tree} (h:t.i64s) {i:Nat} (hx:(qam t.L)[i]? = some x):x.i64s:=by
 cases t with
 | mk n s b l u =>
  have h1:∀ x ∈ l,x.i64s:=qfa h.2
  exact h1 x (List.mem_of_mem_take (List.mem_of_getElem? hx))
theorem qep {k x1 x2 x3 x5 x6 v:Int} {s:List Fld} {flex:Bool} {x:Tree}:Fld.pres (.mk k x1 x2 x3 (-1) x5 x6 s) v flex x = (decide (x1 ≤ v) && (decide (x2 < 0) || decide (v ≤ x2))):=by simp [Fld.pres,Fld.tag,Fld.has]
section
variable {T:List Fld → Tree → Tree → Prop} {U:List Fld → Tree → Prop} {v k x1 x2 x3 x4 x5 x6 n:Int} {sub:List Fld} {x T':Tree} {A:Option Addr} {s:ByteArray} {o:Bs} {b:Bool}
theorem qk3 (hn:n = qby k x.N) (hk:k < 7:=by decide):ToF0 T v (.mk k x1 x2 (-1) x4 x5 x6 sub) x (.mk n [] false [] []):=by
 cases x
 exact ⟨fun h=>by omega,fun _ h=>by omega,fun _ h=>by omega,fun _ h=>by omega,fun _ _ _ _ _ _=>hn⟩
theorem qj5 (hs:o = qaD x.S):ToF0 T v (.mk 8 x1 x2 (-1) x4 x5 x6 sub) x (.mk 0 o false [] []):=by
 cases x with
 | mk a1 a2 a3 a4 a5 =>
  exact ⟨fun _=>nul_no.symm,fun _ _=>hs,fun _ h=>by omega,fun _ h=>by omega,fun _ _ h=>absurd rfl h⟩
theorem qjA (h:s = bs T'.S) (h1:T'.S = qaD x.S):ToF T v (.mk 8 x1 x2 (-1) x4 x5 x6 sub) x (.mk 0 (sb s) false [] []) :=
 ⟨qj5 (by rw [h,qlI,h1]),fun h=>absurd (show (8:Int) = 11 from h) (by decide)⟩
theorem qhN {g:Tree} (hg:g.null = false) (h:T sub x g):ToF0 T v (.mk 10 x1 x2 (-1) x4 x5 x6 sub) x g:=by
 cases x with
 | mk a1 a2 a3 a4 a5 =>
  cases g with
  | mk g1 g2 g3 g4 g5 =>
   exact ⟨fun _=>by rw [nul_no]; exact hg,fun _ h=>by omega,fun _ h=>by omega,fun _ _=>h,fun _ _ _ _ h=>absurd rfl h⟩
theorem qhj {l:Nat} {g:Nat → Tree} {W:Tree → Tree} (hb:x3 ≥ 0 ∧ v ≥ x3 → b = Fld.nul (.mk 11 x1 x2 x3 x4 x5 x6 sub) v x) (hl:l = (lst T').length) (hlst:lst T' = (if Fld.nul (.mk 11 x1 x2 x3 (-1) x5 x6 sub) v x = true then [] else qam x.L).map W)
  (he:∀ i y,i < l → (lst T').getD i .zero = W y → (qam x.L)[i]? = some y → ToF0 T v (.mk x6 x1 x2 (-1) (-1) x5 x6 sub) y (g i)):ToF T v (.mk 11 x1 x2 x3 x4 x5 x6 sub) x (.mk 0 [] b ((List.range l).map g) []):=by
 have hn:Fld.nul (.mk 11 x1 x2 x3 (-1) x5 x6 sub) v x = Fld.nul (.mk 11 x1 x2 x3 x4 x5 x6 sub) v x:=by cases x; rfl
 refine ⟨?_,fun _ hnn=>?_⟩
 ·cases x with
  | mk a1 a2 a3 a4 a5 =>
   refine ⟨fun h=>hb ?_,fun _ h=>by omega,fun _ h=>by omega,fun _ h=>by omega,fun _ _ _ _ _ h=>absurd rfl h⟩
   rcases h with h | h | h
   ·omega
   ·omega
   exact h
 rw [hn,hnn,if_neg (by decide)] at hlst
 have hll:l = (qam x.L).length:=by rw [hl,hlst,List.length_map]
 refine ⟨by show ((List.range l).map g).length = _; rw [List.length_map,List.length_range,hll],fun i y z hy hz=>?_⟩
 have hi:i < l:=by rw [hll]; exact (List.getElem?_eq_some_iff.1 hy).1
 have hz':((List.range l).map g)[i]? = some z:=hz
 rw [List.getElem?_map,List.getElem?_range hi] at hz'
 obtain rfl:=Option.some.inj hz'
 refine he i y hi ?_ hy
 rw [hlst,List.getD_eq_getElem?_getD,List.getElem?_map,hy]
 rfl
end
theorem qbL (v:Int) (h0:0 ≤ v) (t Y:Tree) (hY:∀ i,Y.at_ i = (fitT v 6 [(Fld.mk 8 0 (-1) (-1) (-1) 0 0 []),(Fld.mk 11 0 (-1) (-1) (-1) 0 3 [])] t).at_ i) (hU:Y.U = (fitT v 6 [(Fld.mk 8 0 (-1) (-1) (-1) 0 0 []),(Fld.mk 11 0 (-1) (-1) (-1) 0 3 [])] t).U) (hi:t.i64s) (D:DV) (h:qaT v D Y):qin v (decide (v ≥ qah)) 6 [(Fld.mk 8 0 (-1) (-1) (-1) 0 0 []),(Fld.mk 11 0 (-1) (-1) (-1) 0 3 [])] t (qaH D):=by
 unfold qaT at h
 obtain ⟨r0,r1,rU,_⟩:=h
 refine ⟨rfl,fun i f y hf hy=>?_,?_⟩
 ·match i,hf,hy with
  | 0,hf,hy =>
   obtain rfl:=Option.some.inj hf
   obtain rfl:=Option.some.inj hy
   have e:=hY 0
   refine ⟨fun hp=>?_,fun hp=>?_⟩
   ·have hc:True:=trivial
    have r:=r0
    rw [e] at r
    exact qjA r (qib (v:=v) (d:=5) (t:=t) (show [(Fld.mk 8 0 (-1) (-1) (-1) 0 0 []),(Fld.mk 11 0 (-1) (-1) (-1) 0 3 [])][0]? = _ from rfl) (by decide))
   rw [qep] at hp; simp at hp; omega
  | 1,hf,hy =>
   obtain rfl:=Option.some.inj hf
   obtain rfl:=Option.some.inj hy
   have e:=hY 1
   refine ⟨fun hp=>?_,fun hp=>?_⟩
   ·have hc:True:=trivial
    have r:=r1
    rw [e] at r
    obtain ⟨fn_,fl⟩:=qeH (v:=v) (d:=5) (t:=t) (show [(Fld.mk 8 0 (-1) (-1) (-1) 0 0 []),(Fld.mk 11 0 (-1) (-1) (-1) 0 3 [])][1]? = _ from rfl)
    refine qhj (fun h_=>absurd h_.1 (by decide)) r.1 fl fun i_ y_ hi_ hg_ hy_=>?_
    have q:=r.2 i_ hi_
    rw [hg_] at q
    exact qk3 (by rw [q,qfn]; cases y_; simp [qb3,Fld.kind,Tree.N,qby])
   rw [qep] at hp; simp at hp; omega
  | n_ + 2,hf,hy=>exact absurd (List.getElem?_eq_some_iff.1 hf).1 (by show ¬ n_ + 2 < 2; omega)
 show D.u = if (decide (v ≥ qah)) = true then qcw (qai [(Fld.mk 8 0 (-1) (-1) (-1) 0 0 []),(Fld.mk 11 0 (-1) (-1) (-1) 0 3 [])] t.U) else []
 by_cases hc:(decide (v ≥ 0)) = true
 ·rw [if_pos (show (decide (v ≥ qah)) = true from hc),rU.1 hc,hU,qg4]
 rw [if_neg (show ¬ (decide (v ≥ qah)) = true from hc),rU.2 (by simpa using hc)]
theorem qbZ (v:Int) (h0:0 ≤ v) (t Y:Tree) (hY:∀ i,Y.at_ i = (fitT v 7 [(Fld.mk 8 0 (-1) (-1) (-1) 0 0 []),(Fld.mk 11 0 (-1) 0 (-1) 0 10 [(Fld.mk 8 0 (-1) (-1) (-1) 0 0 []),(Fld.mk 11 0 (-1) (-1) (-1) 0 3 [])])] t).at_ i) (hU:Y.U = (fitT v 7 [(Fld.mk 8 0 (-1) (-1) (-1) 0 0 []),(Fld.mk 11 0 (-1) 0 (-1) 0 10 [(Fld.mk 8 0 (-1) (-1) (-1) 0 0 []),(Fld.mk 11 0 (-1) (-1) (-1) 0 3 [])])] t).U) (hi:t.i64s) (D:DV) (h:qaZ v D Y):qin v (decide (v ≥ qah)) 7 [(Fld.mk 8 0 (-1) (-1) (-1) 0 0 []),(Fld.mk 11 0 (-1) 0 (-1) 0 10 [(Fld.mk 8 0 (-1) (-1) (-1) 0 0 []),(Fld.mk 11 0 (-1) (-1) (-1) 0 3 [])])] t (qaO D):=by
 unfold qaZ at h
 obtain ⟨r0,r1,rU,_⟩:=h
 refine ⟨rfl,fun i f y hf hy=>?_,?_⟩
 ·match i,hf,hy with
  | 0,hf,hy =>
   obtain rfl:=Option.some.inj hf
   obtain rfl:=Option.some.inj hy
   have e:=hY 0
   refine ⟨fun hp=>?_,fun hp=>?_⟩
   ·have hc:True:=trivial
    have r:=r0
    rw [e] at r
    exact qjA r (qib (v:=v) (d:=6) (t:=t) (show [(Fld.mk 8 0 (-1) (-1) (-1) 0 0 []),(Fld.mk 11 0 (-1) 0 (-1) 0 10 [(Fld.mk 8 0 (-1) (-1) (-1) 0 0 []),(Fld.mk 11 0 (-1) (-1) (-1) 0 3 [])])][0]? = _ from rfl) (by decide))
   rw [qep] at hp; simp at hp; omega
  | 1,hf,hy =>
   obtain rfl:=Option.some.inj hf
   obtain rfl:=Option.some.inj hy
   have e:=hY 1
   refine ⟨fun hp=>?_,fun hp=>?_⟩
   ·have hc:True:=trivial
    have r:=r1
    rw [e] at r
    obtain ⟨fn_,fl⟩:=qeH (v:=v) (d:=6) (t:=t) (show [(Fld.mk 8 0 (-1) (-1) (-1) 0 0 []),(Fld.mk 11 0 (-1) 0 (-1) 0 10 [(Fld.mk 8 0 (-1) (-1) (-1) 0 0 []),(Fld.mk 11 0 (-1) (-1) (-1) 0 3 [])])][1]? = _ from rfl)
    refine qhj (fun h_=>(r.1 (decide_eq_true h_.2)).trans fn_) r.2.1 fl fun i_ y_ hi_ hg_ hy_=>?_
    have q:=r.2.2 i_ hi_
    rw [hg_] at q
    exact qhN rfl (qbL v h0 y_ _ (fun i=>fit_10.1 i) fit_10.2 (qgQ (qkw hi 1) hy_) _ q)
   rw [qep] at hp; simp at hp; omega
  | n_ + 2,hf,hy=>exact absurd (List.getElem?_eq_some_iff.1 hf).1 (by show ¬ n_ + 2 < 2; omega)
 show D.u = if (decide (v ≥ qah)) = true then qcw (qai [(Fld.mk 8 0 (-1) (-1) (-1) 0 0 []),(Fld.mk 11 0 (-1) 0 (-1) 0 10 [(Fld.mk 8 0 (-1) (-1) (-1) 0 0 []),(Fld.mk 11 0 (-1) (-1) (-1) 0 3 [])])] t.U) else []
 by_cases hc:(decide (v ≥ 0)) = true
 ·rw [if_pos (show (decide (v ≥ qah)) = true from hc),rU.1 hc,hU,qg4]
 rw [if_neg (show ¬ (decide (v ≥ qah)) = true from hc),rU.2 (by simpa using hc)]
theorem qcf (v:Int) (h0:0 ≤ v) (t Y:Tree) (hY:∀ i,Y.at_ i = (fitT v 8 sDescribeShareGroupOffsetsRequestF t).at_ i) (hU:Y.U = (fitT v 8 sDescribeShareGroupOffsetsRequestF t).U) (hi:t.i64s) (D:DV) (h:qa0 v D Y):qin v (decide (v ≥ qah)) 8 sDescribeShareGroupOffsetsRequestF t (qa1 D):=by
 unfold qa0 at h
 obtain ⟨r0,rU,_⟩:=h
 refine ⟨rfl,fun i f y hf hy=>?_,?_⟩
 ·match i,hf,hy with
  | 0,hf,hy =>
   obtain rfl:=Option.some.inj hf
   obtain rfl:=Option.some.inj hy
   have e:=hY 0
   refine ⟨fun hp=>?_,fun hp=>?_⟩
   ·have hc:True:=trivial
    have r:=r0
    rw [e] at r
    obtain ⟨fn_,fl⟩:=qeH (v:=v) (d:=7) (t:=t) (show sDescribeShareGroupOffsetsRequestF[0]? = _ from rfl)
    refine qhj (fun h_=>absurd h_.1 (by decide)) r.1 fl fun i_ y_ hi_ hg_ hy_=>?_
    have q:=r.2 i_ hi_
    rw [hg_] at q
    exact qhN rfl (qbZ v h0 y_ _ (fun i=>fit_10.1 i) fit_10.2 (qgQ (qkw hi 0) hy_) _ q)
   rw [qep] at hp; simp at hp; omega
  | n_ + 1,hf,hy=>exact absurd (List.getElem?_eq_some_iff.1 hf).1 (by show ¬ n_ + 1 < 1; omega)
 show D.u = if (decide (v ≥ qah)) = true then qcw (qai sDescribeShareGroupOffsetsRequestF t.U) else []
 by_cases hc:(decide (v ≥ 0)) = true
 ·rw [if_pos (show (decide (v ≥ qah)) = true from hc),rU.1 hc,hU,qg4]
 rw [if_neg (show ¬ (decide (v ≥ qah)) = true from hc),rU.2 (by simpa using hc)]
set_option maxHeartbeats 4000000 in
theorem qcq (v:Int) (T:Tree) {A2:Option Addr} {c2:Nat} {w:World} {F:Nat → Nat → Prop} (hs_:Octs w F A2 c2 (qag (IntKind.i16.wrap v) T)) (hc:qaY T) (hkey:T.ranged) (hroom:(qag (IntKind.i16.wrap v) T).length + 16 ≤ 1099511627776) :
  Calls Tryz.prog 21 #[.int .i64 v,.slice A2 (qag (IntKind.i16.wrap v) T).length c2] w (fun e w'=>∃ D cs,e = .returned (.tuple #[.agg cs.toArray,.bool true]) ∧ TreeR w' (Fp NoF w) cs (qa1 D) ∧ qa0 (IntKind.i16.wrap v) D T ∧ Step w w' Nil):=by
 refine enter (n:=20) Tryz.func21 rfl Tryz.ntmps21 kz fun a hE=>?_
 have hW:=WOk.start w Nil
 have hsm2:=Slots.small hs_
 refine qad [0,1] kz ?_
 refine qal (qaU hW hE (d:=4) (cs:=[.int .i64 0,.slice none 0 0,.bool false,.slice none 0 0,.slice none 0 0]) kz fun b1 a2 w3 hb4 hz5 hF6 hW7 hE8=>?_)
 refine qaj [1] [] [(0,.v (.int .i64 v)),(1,.v (.slice A2 ((qag (IntKind.i16.wrap v) T).length) c2)),(4,.p 0 0)] hW7 hE8 fun a9 aT=>?_
 refine qae (qab ?_)
 refine qad [0,1] kz ?_
 refine qal (qbK aT (f:=47) (vs:=[]) (d:=7) (n':=3) kz Tryz.call47 Tryz.func47 rfl Tryz.ntmps47 kz fun cI aU=>?_)
 refine qap [] hW7 aU fun cJ aV=>?_
 refine qad [0] kz ?_
 refine qal (qaU hW7 aV (d:=1) (cs:=[.int .i16 0,.slice none 0 0,.map none]) kz fun aa cK cL ce cm cq ac aW=>?_)
 refine qae (qab ?_)
 refine qad [0] kz ?_
 refine qal (qbK aW (f:=81) (vs:=[.pointer (some ⟨aa,0,none⟩)]) (d:=2) (n':=2) kz Tryz.call81 Tryz.func81 rfl Tryz.ntmps81 kz fun cM aX=>?_)
 have aY:=aX.recast 0 (.v (.pointer (some ⟨aa,0,none⟩))) (.p 1 0) rfl rfl (Nat.le_of_ble_eq_true (n:=2) rfl)
 refine wp_skip ?_
 refine qbN aY ac.cells (v:=.tuple #[]) kz ?_
 refine ⟨_,rfl,fun cN aZ=>?_⟩
 have ba:EnvOk 3 [⟨b1,0,[.int .i64 0,.slice none 0 0,.bool false,.slice none 0 0,.slice none 0 0],true⟩,⟨aa,0,[.int .i16 0,.slice none 0 0,.map none],true⟩] [(2,.v (.tuple #[])),(1,.p 1 0)] _:=aZ.places (⟨rfl,rfl,⟨rfl,rfl,trivial⟩⟩)
 refine qae (qab ?_)
 refine qap [(0,.p 1 0)] ac ba fun cO bd=>?_
 refine wp_ret ?_
 refine qaK bd ac.cells (v:=.pointer (some ⟨aa,0,none⟩)) kz ?_
 refine ⟨_,rfl,fun cP bf=>?_⟩
 have bg:EnvOk 20 [⟨b1,0,[.int .i64 0,.slice none 0 0,.bool false,.slice none 0 0,.slice none 0 0],true⟩,⟨aa,0,[.int .i16 0,.slice none 0 0,.map none],true⟩] [(7,.v (.pointer (some ⟨aa,0,none⟩))),(0,.v (.int .i64 v)),(1,.v (.slice A2 ((qag (IntKind.i16.wrap v) T).length) c2)),(4,.p 0 0)] _:=bf.places (⟨rfl,rfl,trivial⟩)
 have bh:=bg.recast 7 (.v (.pointer (some ⟨aa,0,none⟩))) (.p 1 0) rfl rfl (Nat.le_of_ble_eq_true (n:=2) rfl)
 have bi:=bh.pick (ks:=[0,1,4,7]) (env':=[(0,.v (.int .i64 v)),(1,.v (.slice A2 ((qag (IntKind.i16.wrap v) T).length) c2)),(4,.p 0 0),(7,.p 1 0)]) kz
 refine qaj [1] [] [(0,.v (.int .i64 v)),(1,.v (.slice A2 ((qag (IntKind.i16.wrap v) T).length) c2)),(4,.p 0 0),(6,.p 1 0)] ac bi fun cQ bj=>?_
 refine qae (qab ?_)
 refine qad [0,1,2,3] kz ?_
 refine qaj [0,1,2] [3] [(1,.v (.slice A2 ((qag (IntKind.i16.wrap v) T).length) c2)),(4,.p 0 0),(6,.p 1 0),(8,.p 1 0),(10,.v (.int .i16 (IntKind.i16.wrap v)))] ac bj fun cR bk=>?_
 refine qal (qbK bk (f:=50) (vs:=[.pointer (some ⟨aa,0,none⟩),.int .i16 (IntKind.i16.wrap v)]) (d:=11) (n':=8) kz Tryz.call50 Tryz.func50 rfl Tryz.ntmps50 kz fun cS bn=>?_)
 have bo:=bn.recast 0 (.v (.pointer (some ⟨aa,0,none⟩))) (.p 1 0) rfl rfl (Nat.le_of_ble_eq_true (n:=2) rfl)
 refine qaq [0,1,2,3,4] kz ?_
 refine qaj [0,1,2,3] [4] [(5,.v (.int .i16 (IntKind.i16.wrap v))),(7,.p 1 0)] ac bo fun cT bp=>?_
 refine qal (qau ac bp (oi:=1) (cs:=[.int .i16 (IntKind.i16.wrap v),.slice none 0 0,.map none]) kz fun cU cr ao bq=>?_)
 refine qae ?_
 refine qbN bq ao.cells (v:=.tuple #[]) kz ?_
 refine ⟨_,rfl,fun cV bt=>?_⟩
 have bu:EnvOk 20 [⟨b1,0,[.int .i64 0,.slice none 0 0,.bool false,.slice none 0 0,.slice none 0 0],true⟩,⟨aa,0,[.int .i16 (IntKind.i16.wrap v),.slice none 0 0,.map none],true⟩] [(11,.v (.tuple #[])),(1,.v (.slice A2 ((qag (IntKind.i16.wrap v) T).length) c2)),(4,.p 0 0),(6,.p 1 0),(8,.p 1 0),(10,.v (.int .i16 (IntKind.i16.wrap v)))] _:=bt.places (⟨rfl,rfl,⟨rfl,rfl,trivial⟩⟩)
 refine qae (qab ?_)
 refine wp_seq ?_
 refine qad [0,1,2,3,4] kz ?_
 refine qaj [0,1] [2,3,4] [(4,.p 0 0),(6,.p 1 0),(12,.p 1 0),(13,.v (.slice A2 ((qag (IntKind.i16.wrap v) T).length) c2))] ao bu fun cW bw=>?_
 have ah:=ao.addNil 5 1
 have cu:=ao.frNil 5 1
 refine qal (qaV ah bw (k:=0) (d:=14) (t:=22) (e:=5) (size:=1) (bytes:=1) (A:=none) (As:=A2) (m0:=0) (c:=0) (m:=((qag (IntKind.i16.wrap v) T).length)) (cs:=c2) (xs:=[]) (news:=bc (qag (IntKind.i16.wrap v) T)) kz kz rfl (hs_.move ah.step nilM ah.imm).src (hs_.move ah.step nilM ah.imm).cap (by first | omega | (simp only [List.length_nil]; omega) | (simp; omega)) fun af ag cX cY cw bx bz=>?_)
 have bA:(⟨af,ag,5,1,0 + (qag (IntKind.i16.wrap v) T).length,[] ++ bc (qag (IntKind.i16.wrap v) T)⟩:Rw) = brow af ag 5 (qag (IntKind.i16.wrap v) T):=by rw [List.nil_append,Nat.zero_add]
 obtain ⟨ap,cz⟩:=bx.rowEq 0 [brow af ag 5 (qag (IntKind.i16.wrap v) T)] bA
 have bB:=EnvOk.pick bz (ks:=[4,6,12,13,14]) (env':=[(4,.p 0 0),(6,.p 1 0),(12,.p 1 0),(13,.v (.slice A2 ((qag (IntKind.i16.wrap v) T).length) c2)),(14,.v (.slice af (0 + (qag (IntKind.i16.wrap v) T).length) ag))]) kz
 have bC:=bB.cast (env':=[(4,.p 0 0),(6,.p 1 0),(12,.p 1 0),(13,.v (.slice A2 ((qag (IntKind.i16.wrap v) T).length) c2)),(14,.v (.slice af ((qag (IntKind.i16.wrap v) T).length) ag))]) (by simp only [List.length_append,List.length_cons,List.length_nil,Nat.zero_add])
 refine qal (qbK bC (f:=51) (vs:=[.pointer (some ⟨aa,0,none⟩),.slice af ((qag (IntKind.i16.wrap v) T).length) ag]) (d:=15) (n':=8) kz Tryz.call51 Tryz.func51 rfl Tryz.ntmps51 kz fun cZ bD=>?_)
 have bE:=bD.recast 0 (.v (.pointer (some ⟨aa,0,none⟩))) (.p 1 0) rfl rfl (Nat.le_of_ble_eq_true (n:=2) rfl)
 refine qap [(0,.p 1 0),(1,.v (.slice af ((qag (IntKind.i16.wrap v) T).length) ag))] ap bE fun c5 bF=>?_
 refine qad [0,1,2,3] kz ?_
 refine qaj [0,1] [2,3] [(5,.p 1 0),(6,.v (.slice af ((qag (IntKind.i16.wrap v) T).length) ag))] ap bF fun c6 bG=>?_
 have bH:=ap.giveUp (G:=NoF) 0 [] (show _ = some (brow af ag 5 (qag (IntKind.i16.wrap v) T)) from rfl) (by omega)
 obtain ⟨aH,cA⟩:=ap.cutR 0 []
 refine qal (qak bG (f:=83) (vs:=[.pointer (some ⟨aa,0,none⟩),.slice af ((qag (IntKind.i16.wrap v) T).length) ag,.bool false]) (d:=7) kz Tryz.call83 (qco (IntKind.i16.wrap v) T (Str.of aH 1 rfl) bH (qjZ 1 rfl) hc hkey) ?_)
 rintro e_ da ⟨ab,rfl,bI,bJ,bK,aI⟩
 obtain ⟨ae,cB,bL⟩:=aH.wrote 1 [⟨b1,0,[.int .i64 0,.slice none 0 0,.bool false,.slice none 0 0,.slice none 0 0],true⟩,⟨aa,0,[.int .i16 (IntKind.i16.wrap v),.slice ((ab.f 0).A) ((ab.f 0).l) ((ab.f 0).c),.map ab.m],true⟩] rfl aI bI
 have bM:=qbH _ (Step.refl _ Nil) nilM bL bJ
 refine ⟨_,rfl,fun db bN=>?_⟩
 have bO:=(EnvOk.places (tb':=[⟨b1,0,[.int .i64 0,.slice none 0 0,.bool false,.slice none 0 0,.slice none 0 0],true⟩,⟨aa,0,[.int .i16 (IntKind.i16.wrap v),.slice ((ab.f 0).A) ((ab.f 0).l) ((ab.f 0).c),.map ab.m],true⟩]) bN (show Pl [⟨b1,0,[.int .i64 0,.slice none 0 0,.bool false,.slice none 0 0,.slice none 0 0],true⟩,⟨aa,0,[.int .i16 (IntKind.i16.wrap v),.slice none 0 0,.map none],true⟩] [⟨b1,0,[.int .i64 0,.slice none 0 0,.bool false,.slice none 0 0,.slice none 0 0],true⟩,⟨aa,0,[.int .i16 (IntKind.i16.wrap v),.slice ((ab.f 0).A) ((ab.f 0).l) ((ab.f 0).c),.map ab.m],true⟩] from ⟨rfl,rfl,⟨rfl,rfl,trivial⟩⟩)).pk (env':=[(7,.v (.nilIface)),(5,.p 1 0),(6,.v (.slice af ((qag (IntKind.i16.wrap v) T).length) ag))])
 refine qaj [3] [] [(4,.v (.nilIface))] ae bO fun dc bP=>?_
 refine qae (qab ?_)
 refine wp_ret ?_
 refine qaK bP ae.cells (v:=.nilIface) kz ?_
 refine ⟨_,rfl,fun de bQ=>?_⟩
 have bR:EnvOk 20 [⟨b1,0,[.int .i64 0,.slice none 0 0,.bool false,.slice none 0 0,.slice none 0 0],true⟩,⟨aa,0,[.int .i16 (IntKind.i16.wrap v),.slice ((ab.f 0).A) ((ab.f 0).l) ((ab.f 0).c),.map ab.m],true⟩] [(15,.v (.nilIface)),(4,.p 0 0),(6,.p 1 0),(12,.p 1 0),(13,.v (.slice A2 ((qag (IntKind.i16.wrap v) T).length) c2)),(14,.v (.slice af ((qag (IntKind.i16.wrap v) T).length) ag))] _:=bQ.places (⟨rfl,rfl,⟨rfl,rfl,trivial⟩⟩)
 refine qaj [4] [] [(4,.p 0 0),(6,.p 1 0),(16,.v (.bool false))] ae bR fun df aJ=>?_
 refine qae (qab ?_)
 refine qao aJ (b:=false) kz rfl ?_
 refine wp_skip ?_
 refine qab ?_
 refine qad [0,1,2,3] kz ?_
 refine qaj [0] [1,2,3] [(4,.p 0 0),(18,.p 1 0)] ae aJ fun dg bS=>?_
 have aK:=bS.recast 18 (.p 1 0) (.v (.pointer (some ⟨aa,0,none⟩))) rfl rfl trivial
 have aL:=aK.pk (env':=[(4,.p 0 0),(18,.v (.pointer (some ⟨aa,0,none⟩)))])
 have av:=WOk.strOut (G:=NoF) [⟨b1,0,[.int .i64 0,.slice none 0 0,.bool false,.slice none 0 0,.slice none 0 0],true⟩] ae
 obtain ⟨aM,ai,ar⟩:=ae.cutB aL 1 [⟨b1,0,[.int .i64 0,.slice none 0 0,.bool false,.slice none 0 0,.slice none 0 0],true⟩] [(4,.p 0 0),(18,.v (.pointer (some ⟨aa,0,none⟩)))]
 have aN:=qbH _ ar.step immM ar.to' bM
 refine qal (qak aM (f:=52) (vs:=[.pointer (some ⟨aa,0,none⟩)]) (d:=19) kz Tryz.call52 (qcp (IntKind.i16.wrap v) ab aa 0 _ _ av aN) ?_)
 rintro e_ cC ⟨bY,rfl,aO,aj⟩
 have ak:=aO.move (Step.refl _ Nil) nilM (ai.laid (G:=NoF) aj)
 obtain ⟨aw,ax,ay,az,aA,aB,aC,aD,aE,aF,aG,bZ,b8,al,bT,bU,cD,cE⟩:=ak.open_
 rw [al] at ak
 have bV:=bT.small
 have bW:=bU.small
 rw [al]
 refine ⟨_,rfl,fun cG aP=>?_⟩
 have aQ:=ai.next_nil aj
 have cd:=ai.frN aj
 refine qal (qau aQ aP (oi:=0) (cs:=[.int .i64 aw,.slice aB ax.length aC,.bool ay,.slice aD az.length aE,.slice aF aA.length aG]) kz fun bX au am aR=>?_)
 refine qaj [3] [] [(4,.p 0 0),(5,.v (.bool true))] am aR fun cH aS=>?_
 refine qae (qab ?_)
 refine wp_ret ?_
 refine qaK aS am.cells (v:=.tuple #[.agg #[.int .i64 aw,.slice aB ax.length aC,.bool ay,.slice aD az.length aE,.slice aF aA.length aG],.bool true]) kz ?_
 exact ⟨ab,_,rfl,(show TreeR _ (Imm NoF w bX [⟨b1,0,[.int .i64 aw,.slice aB ax.length aC,.bool ay,.slice aD az.length aE,.slice aF aA.length aG],true⟩] []) _ (qa1 ab) from (ak.move au.step immM au.to')).move (Step.refl _ Nil) nilM qcT,bK,am.step⟩
theorem qck (v:Int) (T:Tree) (B:Bs) {A2:Option Addr} {c2:Nat} {w:World} {F:Nat → Nat → Prop} (hB:qag (IntKind.i16.wrap v) T = B) (hs_:Octs w F A2 c2 B) (hc:qaY T) (hkey:T.ranged) (hroom:B.length + 16 ≤ 1099511627776) :
  Calls Tryz.prog 21 #[.int .i64 v,.slice A2 B.length c2] w (fun e w'=>∃ D cs,e = .returned (.tuple #[.agg cs.toArray,.bool true]) ∧ TreeR w' (Fp NoF w) cs (qa1 D) ∧ qa0 (IntKind.i16.wrap v) D T ∧ Step w w' Nil):=by
 subst hB
 exact qcq v T hs_ hc hkey hroom
end Go.Proofs.YtfljkhecngpcmaaGreatDoor.ME