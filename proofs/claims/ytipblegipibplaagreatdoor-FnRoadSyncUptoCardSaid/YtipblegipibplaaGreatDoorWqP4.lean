/- Packed. Own work. -/
import Derived.Test.YtipblegipibplaaGreatDoorWqP3
namespace Go.Proofs.YtipblegipibplaaGreatDoor.ME
open Go
open Go.RowKit
set_option linter.unusedVariables false
set_option linter.unusedSimpArgs false
theorem Cp {v:Int} {d:Nat} {l:List Fld} {t:Tree} {i:Nat} {x1 x2 x5 x6:Int} {s:List Fld} (h:l[i]? = some (.mk 11 x1 x2 (-1) (-1) x5 x6 s)) (hL:(t.at_ i).L.length ≤ 32767) :
  lst ((C2 v (d + 1) l t).at_ i) = (t.at_ i).L.map fun x=>M1 (C2 v d) (.mk x6 x1 x2 (-1) (-1) x5 x6 s) (Fld.nul (.mk x6 x1 x2 (-1) (-1) x5 x6 s) v x) x:=by
 rw [(FQ h).2,IR,if_neg (by decide)]
 unfold E3
 rw [List.take_of_length_le hL]
theorem GK {v:Int} {d:Nat} {l:List Fld} {t:Tree} {i:Nat} {k x1 x2 x3 x4 x5 x6:Int} {s:List Fld} (h:l[i]? = some (.mk k x1 x2 x3 x4 x5 x6 s)) (hk:k = 8 ∨ k = 9) (hS:(t.at_ i).S.length ≤ 32767):((C2 v (d + 1) l t).at_ i).S = (t.at_ i).S:=by
 rw [CQ h hk]
 exact List.take_of_length_le hS
theorem Dk {v:Int} {d:Nat} {l:List Fld} {t:Tree} {i:Nat} {k x1 x2 x4 x5 x6:Int} {s:List Fld} (h:l[i]? = some (.mk k x1 x2 (-1) x4 x5 x6 s)) (hk:k = 8 ∨ k = 9) (hS:(t.at_ i).S.length ≤ 32767):B9 ((C2 v (d + 1) l t).at_ i) = (t.at_ i).S ∧ ((C2 v (d + 1) l t).at_ i).null = false:=by
 have h1:=IQ (v:=v) (d:=d) (t:=t) h hk
 rw [IR] at h1
 rw [if_neg (by decide)] at h1
 exact ⟨h1.1.trans (List.take_of_length_le hS),h1.2⟩
theorem GL {f:Nat → Tree} {n i:Nat} (hi:i < n):((List.range n).map f).getD i .zero = f i:=by
 rw [List.getD_eq_getElem?_getD,List.getElem?_map,List.getElem?_range hi]; rfl
def AsgOK (D:DV) (X:Tree):Prop:=(X.at_ 0).L.length = (D.f 3).l ∧ (X.at_ 1).S = (D.f 4).o ∧ ∀ i,i < (D.f 3).l → ∃ y,(X.at_ 0).L[i]? = some y ∧ (y.at_ 0).S = sb (((D.f 3).f i).f 0).s ∧ (y.at_ 1).L.length = (((D.f 3).f i).f 1).l ∧ ∀ j,j < (((D.f 3).f i).f 1).l → ∃ z,(y.at_ 1).L[j]? = some z ∧ z.N = IntKind.i64.wrap ((((D.f 3).f i).f 1).f j).n
def Cq (D:DV):Prop:=∀ i,i < (D.f 3).l → ∀ j,j < (((D.f 3).f i).f 1).l → IntKind.i32.wrap ((((D.f 3).f i).f 1).f j).n = ((((D.f 3).f i).f 1).f j).n
theorem GM {x:Int} (h:IntKind.i32.wrap x = x):IntKind.i32.wrap (IntKind.i64.wrap x) = x:=by
 rw [G5] at h
 rw [wrap_i64 (by omega) (by omega),G5]; omega
theorem GN {f:Nat → Tree} {n i:Nat} (hi:i < n):((List.range n).map f)[i]? = some (f i):=by
 rw [List.getElem?_map,List.getElem?_range hi]; rfl
theorem Nw {k:Int} {D E:DV} (hs:V5 D) (hr:Cq D) (h:Cn k E (C2 k 8 sConsumerMemberAssignmentF (L2 D))):AsgOK D (BB E):=by
 obtain ⟨hg,ht,hn,hb⟩:=hs
 unfold Cn at h
 obtain ⟨⟨h1,h2⟩,h3,_⟩:=h
 have hL:((L2 D).at_ 0).L.length ≤ 32767:=by show ((List.range (D.f 3).l).map _).length ≤ _; rw [J4]; omega
 have e1:=Cp (v:=k) (d:=7) (t:=L2 D) (i:=0) (show sConsumerMemberAssignmentF[0]? = _ from rfl) hL
 have e2:=Dk (v:=k) (d:=7) (t:=L2 D) (i:=1) (show sConsumerMemberAssignmentF[1]? = _ from rfl) (.inr rfl) (by show (D.f 4).o.length ≤ _; omega)
 have e3:((L2 D).at_ 0).L = (List.range (D.f 3).l).map fun i=>G6 ((D.f 3).f i):=rfl
 rw [e1,e3,List.length_map,J4] at h1
 refine ⟨?_,?_,fun i hi=>?_⟩
 ·show ((List.range (E.f 0).l).map _).length = _
  rw [J4,h1]
 ·show (E.f 1).o = _
  rw [h3,e2.1]; rfl
 have hiE:i < (E.f 0).l:=by omega
 refine ⟨_,GN hiE,?_⟩
 have hv:=h2 i hiE
 rw [e1,e3,List.map_map,GL hi] at hv
 dsimp only [Function.comp] at hv
 obtain ⟨g1,g2⟩:=fit_10 (v:=k) (d:=7) (x1:=0) (x2:=-1) (x5:=0) (x6:=10) (s:=[(Fld.mk 8 0 (-1) (-1) (-1) 0 0 []),(Fld.mk 11 0 (-1) (-1) (-1) 0 3 [])]) (b:=Fld.nul z7 k (G6 ((D.f 3).f i))) (x:=G6 ((D.f 3).f i))
 unfold Di at hv
 obtain ⟨v1,⟨v2,v3⟩,_⟩:=hv
 obtain ⟨t1,t2⟩:=ht i hi
 rw [g1] at v1 v2
 have p1:=GK (v:=k) (d:=6) (t:=G6 ((D.f 3).f i)) (i:=0) (l:=[(Fld.mk 8 0 (-1) (-1) (-1) 0 0 []),(Fld.mk 11 0 (-1) (-1) (-1) 0 3 [])]) rfl (.inl rfl) (by show (sb (((D.f 3).f i).f 0).s).length ≤ _; rw [Bp]; omega)
 have p2:=Cp (v:=k) (d:=6) (t:=G6 ((D.f 3).f i)) (i:=1) (l:=[(Fld.mk 8 0 (-1) (-1) (-1) 0 0 []),(Fld.mk 11 0 (-1) (-1) (-1) 0 3 [])]) rfl (by show ((List.range (((D.f 3).f i).f 1).l).map _).length ≤ _; rw [J4]; omega)
 have p3:((G6 ((D.f 3).f i)).at_ 1).L = (List.range (((D.f 3).f i).f 1).l).map fun j=>Y3 ((((D.f 3).f i).f 1).f j):=rfl
 rw [p2,p3,List.length_map,J4] at v2
 refine ⟨?_,?_,fun j hj=>?_⟩
 ·show sb (((E.f 0).f i).f 0).s = _
  rw [v1,Z7,p1]; rfl
 ·show ((List.range (((E.f 0).f i).f 1).l).map _).length = _
  rw [J4,v2]
 have hjE:j < (((E.f 0).f i).f 1).l:=by omega
 refine ⟨_,GN hjE,?_⟩
 have hw:=v3 j hjE
 rw [g1,p2,p3,List.map_map,GL hj] at hw
 show IntKind.i64.wrap _ = _
 rw [hw]
 show IntKind.i64.wrap (IntKind.i32.wrap (IntKind.i64.wrap ((((D.f 3).f i).f 1).f j).n)) = _
 rw [GM (hr i hi j hj)]
theorem JE {k:Int} {D:DV} (hk:0 ≤ k ∧ k < 3) (hs:V5 D):H5 k D = be 2 k ++ I4 k (C2 k 8 sConsumerMemberAssignmentF (L2 D)):=by
 have e2:=Dk (v:=k) (d:=7) (t:=L2 D) (i:=1) (show sConsumerMemberAssignmentF[1]? = _ from rfl) (.inr rfl) (by show (D.f 4).o.length ≤ _; have:=hs.2.2.2; omega)
 have hw:IntKind.i16.wrap k = k:=DZ hk.1 (by omega)
 unfold H5 Bd El I4
 rw [hw,e2.2,if_neg (by decide)]
theorem Ew {f:Tree → Bs} {c:Nat}:∀ {L:List Tree},(∀ x ∈ L,(f x).length ≤ c) → (L.flatMap f).length ≤ c * L.length
 | [],_=>by simp
 | x :: r,h=>by
  have h1:=h x (List.mem_cons_self ..)
  have h2:=Ew (L:=r) fun y hy=>h y (List.mem_cons_of_mem _ hy)
  rw [List.flatMap_cons,List.length_append,List.length_cons,Nat.mul_add]; omega
theorem Dl {k:Int} {D:DV} (hk:0 ≤ k ∧ k < 3) (hs:V5 D):(H5 k D).length ≤ 32767:=by
 rw [JE hk hs]
 obtain ⟨hg,ht,hn,hb⟩:=hs
 have hL:((L2 D).at_ 0).L.length ≤ 32767:=by show ((List.range (D.f 3).l).map _).length ≤ _; rw [J4]; omega
 have e1:=Cp (v:=k) (d:=7) (t:=L2 D) (i:=0) (show sConsumerMemberAssignmentF[0]? = _ from rfl) hL
 have e2:=Dk (v:=k) (d:=7) (t:=L2 D) (i:=1) (show sConsumerMemberAssignmentF[1]? = _ from rfl) (.inr rfl) (by show (D.f 4).o.length ≤ _; omega)
 have e3:((L2 D).at_ 0).L = (List.range (D.f 3).l).map fun i=>G6 ((D.f 3).f i):=rfl
 have e4:((L2 D).at_ 1).S = (D.f 4).o:=rfl
 unfold I4
 rw [e1,e2.1,e3,e4]
 simp only [List.length_append,be_length,List.length_nil]
 have h:=Ew (c:=400) (f:=fun Ek49=>((be 2 (Ek49.at_ 0).S.length ++ (Ek49.at_ 0).S)) ++ (((be 4 (lst (Ek49.at_ 1)).length)) ++ ((lst (Ek49.at_ 1)).flatMap fun Ek50=>be 4 ((IntKind.i32.wrap Ek50.N))))) (L:=((List.range (D.f 3).l).map fun i=>G6 ((D.f 3).f i)).map fun x=>M1 (C2 k 7) (.mk 10 0 (-1) (-1) (-1) 0 10 [(Fld.mk 8 0 (-1) (-1) (-1) 0 0 []),(Fld.mk 11 0 (-1) (-1) (-1) 0 3 [])]) (Fld.nul (.mk 10 0 (-1) (-1) (-1) 0 10 [(Fld.mk 8 0 (-1) (-1) (-1) 0 0 []),(Fld.mk 11 0 (-1) (-1) (-1) 0 3 [])]) k x) x) ?_
 ·rw [List.length_map,J4] at h
  have:400 * (D.f 3).l ≤ 8000:=by omega
  refine Nat.le_trans (Nat.add_le_add_left (Nat.add_le_add (Nat.add_le_add_left (Nat.le_trans h this) _) (Nat.le_of_eq rfl)) _) ?_
  omega
 intro x hx
 obtain ⟨y,hy,rfl⟩:=List.mem_map.1 hx
 obtain ⟨i,hi,rfl⟩:=List.mem_map.1 hy
 have hi':=List.mem_range.1 hi
 obtain ⟨t1,t2⟩:=ht i hi'
 obtain ⟨g1,g2⟩:=fit_10 (v:=k) (d:=7) (x1:=0) (x2:=-1) (x5:=0) (x6:=10) (s:=[(Fld.mk 8 0 (-1) (-1) (-1) 0 0 []),(Fld.mk 11 0 (-1) (-1) (-1) 0 3 [])]) (b:=Fld.nul z7 k (G6 ((D.f 3).f i))) (x:=G6 ((D.f 3).f i))
 have p1:=GK (v:=k) (d:=6) (t:=G6 ((D.f 3).f i)) (i:=0) (l:=[(Fld.mk 8 0 (-1) (-1) (-1) 0 0 []),(Fld.mk 11 0 (-1) (-1) (-1) 0 3 [])]) rfl (.inl rfl) (by show (sb (((D.f 3).f i).f 0).s).length ≤ _; rw [Bp]; omega)
 have p2:=Cp (v:=k) (d:=6) (t:=G6 ((D.f 3).f i)) (i:=1) (l:=[(Fld.mk 8 0 (-1) (-1) (-1) 0 0 []),(Fld.mk 11 0 (-1) (-1) (-1) 0 3 [])]) rfl (by show ((List.range (((D.f 3).f i).f 1).l).map _).length ≤ _; rw [J4]; omega)
 have p3:((G6 ((D.f 3).f i)).at_ 1).L = (List.range (((D.f 3).f i).f 1).l).map fun j=>Y3 ((((D.f 3).f i).f 1).f j):=rfl
 have p4:((G6 ((D.f 3).f i)).at_ 0).S = sb (((D.f 3).f i).f 0).s:=rfl
 simp only [g1]
 rw [p1,p2,p3,p4]
 have h2:=Ew (c:=4) (f:=fun Ek50=>be 4 ((IntKind.i32.wrap Ek50.N))) (L:=((List.range (((D.f 3).f i).f 1).l).map fun j=>Y3 ((((D.f 3).f i).f 1).f j)).map fun x=>M1 (C2 k 6) (.mk 3 0 (-1) (-1) (-1) 0 3 []) (Fld.nul (.mk 3 0 (-1) (-1) (-1) 0 3 []) k x) x) (fun x _=>by rw [be_length]; exact Nat.le_refl _)
 rw [List.length_map,J4] at h2
 simp only [List.length_append,be_length,Bp]
 omega
theorem GO {a b:Nat} (h:a = b):(((a:Nat):Int) != ((b:Nat):Int)) = false:=by subst h; simp
theorem Nx {a b:Int} (h:a = b):(a != b) = false:=by subst h; simp
theorem JF {p:Prop} [Decidable p] (h:p):(!(decide p)) = false:=by simp [h]
theorem Ny {a b:ByteArray} (h:a = b):(!(a.toList == b.toList)) = false:=by subst h; simp
theorem Nz {a s:Bs} {t:ByteArray} (h1:a = s) (h2:a = sb t):bs s = t:=by rw [← h1,h2]; simp [sb,bs]
theorem AsgOK.thing {D:DV} {X:Tree} (h:AsgOK D X) {n:Int} {s:Bs} {b:Bool} {l:List Tree} {u:List (Int × Bs)} (e:X.at_ 0 = .mk n s b l u) {i:Nat} {x:Tree} (hx:l[i]? = some x) (hi:i < (D.f 3).l):(x.at_ 0).S = sb (((D.f 3).f i).f 0).s ∧ (x.at_ 1).L.length = (((D.f 3).f i).f 1).l ∧ ∀ j,j < (((D.f 3).f i).f 1).l → ∃ z,(x.at_ 1).L[j]? = some z ∧ z.N = IntKind.i64.wrap ((((D.f 3).f i).f 1).f j).n:=by
 obtain ⟨y,h1,h2⟩:=h.2.2 i hi
 rw [e] at h1
 obtain rfl:=Option.some.inj (hx.symm.trans h1)
 exact h2
theorem AsgOK.num {D:DV} {X:Tree} (h:AsgOK D X) {n:Int} {s:Bs} {b:Bool} {l:List Tree} {u:List (Int × Bs)} (e:X.at_ 0 = .mk n s b l u) {i:Nat} {x:Tree} (hx:l[i]? = some x) (hi:i < (D.f 3).l) {n1:Int} {s1:Bs} {b1:Bool} {l1:List Tree} {u1:List (Int × Bs)} (e1:x.at_ 1 = .mk n1 s1 b1 l1 u1) {j:Nat} {z:Tree} (hz:l1[j]? = some z) (hj:j < (((D.f 3).f i).f 1).l):z.N = IntKind.i64.wrap ((((D.f 3).f i).f 1).f j).n:=by
 obtain ⟨y,h1,h2⟩:=(h.thing e hx hi).2.2 j hj
 rw [e1] at h1
 obtain rfl:=Option.some.inj (hz.symm.trans h1)
 exact h2
theorem NA {D:DV} {X:Tree} {n:Int} (h:AsgOK D X):AsgOK D (Co X n):=by cases X; exact h
theorem M9 {n:Int} {s:Bs} {b:Bool} {l:List Tree} (h:∀ x ∈ l,x.ranged):(Tree.mk n s b l []).ranged:=⟨fun x h=>(by cases h),Ea h⟩
theorem GP {f:Nat → Tree} {n:Nat} (h:∀ i,(f i).ranged):∀ x ∈ (List.range n).map f,x.ranged:=fun x hx=>by
 obtain ⟨i,_,rfl⟩:=List.mem_map.1 hx
 exact h i
theorem O4:∀ x ∈ ([]:List Tree),x.ranged:=fun x hx=>by cases hx
theorem Q1 {y:Tree} {l:List Tree} (h1:y.ranged) (h2:∀ x ∈ l,x.ranged):∀ x ∈ y :: l,x.ranged:=fun x hx=>by
 rcases List.mem_cons.1 hx with rfl | hx
 ·exact h1
 exact h2 x hx
theorem NB (k:Int) (D:DV):(C2 k 8 sConsumerMemberAssignmentF (L2 D)).ranged:=FV _ _ _ _ (M9 (Q1 (M9 (GP fun i=>M9 (Q1 (M9 O4) (Q1 (M9 (GP fun j=>M9 O4)) O4)))) (Q1 (M9 O4) O4)))
end Go.Proofs.YtipblegipibplaaGreatDoor.ME
namespace Go.Proofs.YtipblegipibplaaGreatDoor.ME
open Go
open Go.Proofs.YtipblegipibplaaGreatDoor.Rows (uptoBulk uptoBulkAll)
set_option linter.unusedVariables false
set_option linter.unusedSimpArgs false
theorem NC {w:World} {F:Nat → Nat → Prop} {size:Nat} {A:Option Addr} {c n:Nat} {cs cs':Nat → List Value} (h:Slots w F size A c n cs) (e:∀ i,i < n → cs i = cs' i):Slots w F size A c n cs' :=
 ⟨h.le,h.small,h.none_,fun ad hA hn=>by
  obtain ⟨b,o,e1,e2⟩:=h.some_ ad hA hn
  exact ⟨b,o,e1,fun i hi=>by rw [← e i hi]; exact e2 i hi⟩⟩
structure RoadTys (P:Program) (TM TL TS TO TOs TWs TIs TI TT:TypeId) (TB:TypeId):Prop where
 member:Bv P TM = some [(TB,0),(TS,1),(TWs,3),(TOs,4),(TB,5)]
 sticky:Bv P TS = some [(TOs,0),(TI,1)]
 owned:Bv P TO = some [(TT,0),(TIs,1)]
 members:P.underlying TL = some (.slice TM)
 owneds:P.underlying TOs = some (.slice TO)
 wants:P.underlying TWs = some (.slice TB)
 ints:P.underlying TIs = some (.slice TI)
 int:P.underlying TI = some (.int .i32)
 text:P.underlying TT = some .string
 cells:(P.cellsOf TM,P.cellsOf TS,P.cellsOf TO,P.cellsOf TOs,P.cellsOf TWs,P.cellsOf TIs,P.cellsOf TI,P.cellsOf TT,P.cellsOf TB) = (6,2,2,1,1,1,1,1,1)
section
variable {H:Type} {enc:TypeId × Value → H} {P:Program} {W:World} {sp:Nat → Bool} {hd:Bool} {T TL TU TG TB TI TO TK T8:TypeId} {TM TLm TS TOw TOs TWs TIs TI3 TT:TypeId}
theorem Dm {size:Nat} {LS LE:TypeId} (cl:DV → List Value) (ok:DV → Prop) (hS:P.underlying LS = some (.slice LE)) (hc:P.cellsOf LE = size) (hz:0 < size)
  (one:∀ (fuel:Nat) (cs:List Value) (x:DataW H × List MemPlace),cs.length = size → DataW.trod enc P W 0 sp hd fuel LE cs = some x → uptoBulk x.1 ≤ 1048576 → ∃ D,cs = cl D ∧ ok D)
  {fuel:Nat} {cs:List Value} {x:DataW H × List MemPlace} (h:DataW.trod enc P W 0 sp hd fuel LS cs = some x) (hb:uptoBulk x.1 ≤ 1048576) :
  ∃ D:DV,cs = [.slice D.A D.l D.c] ∧ Slots W (fun _ _=>True) size D.A D.c D.l (fun i=>cl (D.f i)) ∧ D.l ≤ 1048576 ∧ ∀ i,i < D.l → ok (D.f i):=by
 rcases DataW.trod_slice hS h with ⟨rfl,rfl⟩ | ⟨a,len,cap,elems,rest,n,_,rfl,rfl,_,hle,_,hlen,he,_⟩
 ·exact ⟨M7 none 0 0 fun _=>.leaf,rfl,Slots.nil _ _ _ _,Nat.zero_le _,fun i hi=>absurd hi (Nat.not_lt_zero _)⟩
 have hbl:=IN hb
 simp only [List.length_map] at hbl
 obtain ⟨l,hl,xs,h1,h2⟩:=IL (w:=W) (a:=a) (len:=len) (cap:=cap) (size:=size) (fun i ci (q:DV)=>ci = cl q ∧ ok q) hle (by omega) hz (fun i hi=>by
  obtain ⟨ci,y,g1,g2,g3⟩:=IM (he i hi) (by omega)
  obtain ⟨g4,g5⟩:=IJ g1
  rw [hc] at g4 g5
  obtain ⟨D,d1,d2⟩:=one n ci y g4 g2 (hbl.2 _ (List.mem_map.2 ⟨_,List.mem_of_getElem? g3,rfl⟩))
  exact ⟨ci,g4,g5,D,d1,d2⟩)
 have hget:∀ i,i < len → l[i]? = some (l.getD i .leaf):=fun i hi=>by
  rw [List.getD_eq_getElem?_getD,List.getElem?_eq_getElem (by omega)]; rfl
 exact ⟨M7 (some a) len cap fun i=>l.getD i .leaf,rfl,NC h1 fun i hi=>(h2 i _ (hget i hi)).1,by show len ≤ _; omega,fun i hi=>(h2 i _ (hget i hi)).2⟩
theorem ND {n:Nat} {fs:Array Field} {xs:List (DataW H × List MemPlace)} {cs:List Value} {l:List (TypeId × Nat)} (hx:∀ (i:Nat) (f:Field),fs[i]? = some f → DataW.trod enc P W 0 sp hd n f.type ((cs.drop f.offset).take (P.cellsOf f.type)) = xs[i]?)
  (hl:∀ (i:Nat) ty off,l[i]? = some (ty,off) → ∃ f,fs[i]? = some f ∧ f.type = ty ∧ f.offset = off) {i:Nat} {ty off m:Nat} (hi:l[i]? = some (ty,off)) (hm:P.cellsOf ty = m) (hxl:i < xs.length) :
  ∃ y,xs[i]? = some y ∧ DataW.trod enc P W 0 sp hd n ty ((cs.drop off).take m) = some y:=by
 obtain ⟨f,hf,rfl,rfl⟩:=hl i _ _ hi
 have:=hx i f hf
 rw [hm] at this
 refine ⟨xs[i],List.getElem?_eq_getElem hxl,?_⟩
 rw [List.getElem?_eq_getElem hxl] at this
 exact this
theorem JG (hR:RoadTys P TM TLm TS TOw TOs TWs TIs TI3 TT TB) (fuel:Nat) (cs:List Value) (x:DataW H × List MemPlace) (_:cs.length = 2) (h:DataW.trod enc P W 0 sp hd fuel TOw cs = some x) (hb:uptoBulk x.1 ≤ 1048576) :
  ∃ D,cs = Ba D ∧ T0 W (fun _ _=>True) D ∧ ∀ j,j < (D.f 1).l → IntKind.i32.wrap ((D.f 1).f j).n = ((D.f 1).f j).n:=by
 have hc:=hR.cells
 simp only [Prod.mk.injEq] at hc
 obtain ⟨fs,hfs,hsz,hl⟩:=FK hR.owned
 obtain ⟨xs,m,rfl,rfl,hcl,hxl,hx⟩:=DataW.trod_struct hfs h
 rw [hsz] at hxl
 have hxl':xs.length = 2:=hxl
 rw [hc.2.2.1] at hcl
 have hbe:∀ {i:Nat} {y:DataW H × List MemPlace},xs[i]? = some y → uptoBulk y.1 ≤ 1048576:=fun e=>FL hb _ (List.mem_map.2 ⟨_,List.mem_of_getElem? e,rfl⟩)
 match cs,hcl with
 | [c0,c1],_ =>
  obtain ⟨y0,e0,k0⟩:=Z6 hx hl (i:=0) rfl hc.2.2.2.2.2.2.2.1 (by omega) (c:=c0) rfl
  obtain ⟨y1,e1,k1⟩:=Z6 hx hl (i:=1) rfl hc.2.2.2.2.2.1 (by omega) (c:=c1) rfl
  obtain ⟨s,hs,hy,_⟩:=DataW.trod_string hR.text k0
  obtain ⟨D1,hd1,hs1,hl1,hr1⟩:=Dm (fun d=>[.int .i32 d.n]) (fun d=>IntKind.i32.wrap d.n = d.n) hR.ints hc.2.2.2.2.2.2.1 (by omega) (fun fuel cs x _ h _=>by
   obtain ⟨v,hv,_,hw⟩:=DataW.trod_int hR.int h
   refine ⟨K7 v,hv,?_⟩
   have hx:-2147483648 ≤ v ∧ v ≤ 2147483647:=by simpa [Lit.wf,IntKind.min,IntKind.max,IntKind.signed,IntKind.bits] using hw
   show IntKind.i32.wrap v = v
   simp [IntKind.wrap,IntKind.signed,IntKind.bits]; omega) k1 (hbe e1)
  simp only [List.cons.injEq,and_true] at hs hd1
  subst hs; subst hd1
  refine ⟨J8 none [] [O2 s,D1],rfl,⟨?_,⟨hs1,hl1,fun _ _=>trivial⟩,trivial⟩,hr1⟩
  have h2:s.size + 1 ≤ uptoBulk y0.1:=by
   rw [hy]
   show s.size + 1 ≤ s.data.toList.length + 1
   rw [Array.length_toList]
   exact Nat.le_refl _
  have h3:=hbe e0
  show s.size ≤ 1048576
  omega
theorem NE (hT:TreeTys P T TL TU TG TB TI TO TK T8) (hR:RoadTys P TM TLm TS TOw TOs TWs TIs TI3 TT TB) (fuel:Nat) (cs:List Value) (x:DataW H × List MemPlace) (_:cs.length = 6) (h:DataW.trod enc P W 0 sp hd fuel TM cs = some x) (hb:uptoBulk x.1 ≤ 1048576) :
  ∃ D,cs = Ji D ∧ R0 W (fun _ _=>True) D ∧ Cq D:=by
 have hc:=hR.cells
 simp only [Prod.mk.injEq] at hc
 obtain ⟨fs,hfs,hsz,hl⟩:=FK hR.member
 obtain ⟨xs,m,rfl,rfl,hcl,hxl,hx⟩:=DataW.trod_struct hfs h
 rw [hsz] at hxl
 have hxl':xs.length = 5:=hxl
 rw [hc.1] at hcl
 have hbe:∀ {i:Nat} {y:DataW H × List MemPlace},xs[i]? = some y → uptoBulk y.1 ≤ 1048576:=fun e=>FL hb _ (List.mem_map.2 ⟨_,List.mem_of_getElem? e,rfl⟩)
 match cs,hcl with
 | [c0,c1,c2,c3,c4,c5],_ =>
  obtain ⟨y0,e0,k0⟩:=Z6 hx hl (i:=0) rfl hc.2.2.2.2.2.2.2.2 (by omega) (c:=c0) rfl
  obtain ⟨y1,e1,k1⟩:=ND hx hl (i:=1) rfl hc.2.1 (by omega)
  obtain ⟨y2,e2,k2⟩:=Z6 hx hl (i:=2) rfl hc.2.2.2.2.1 (by omega) (c:=c3) rfl
  obtain ⟨y3,e3,k3⟩:=Z6 hx hl (i:=3) rfl hc.2.2.2.1 (by omega) (c:=c4) rfl
  obtain ⟨y4,e4,k4⟩:=Z6 hx hl (i:=4) rfl hc.2.2.2.2.2.2.2.2 (by omega) (c:=c5) rfl
  have b0:=hbe e0
  have b4:=hbe e4
  obtain ⟨A0,d0,s0,hs0,ho0,hz0⟩:=FM hT k0 b0
  obtain ⟨A4,d4,s4,hs4,ho4,hz4⟩:=FM hT k4 b4
  obtain ⟨D2,hd2,hs2,hl2,hr2⟩:=Dm (fun d=>[.slice d.A d.o.length d.c]) (fun d=>Octs W (fun _ _=>True) d.A d.c d.o ∧ d.o.length ≤ 1048576) hR.wants hc.2.2.2.2.2.2.2.2 (by omega) (fun fuel cs x _ h hb=>by
   obtain ⟨A,d,s,hs,ho,hz⟩:=FM hT h hb
   exact ⟨O3 A s d,hs,ho,Nat.le_trans hz hb⟩) k2 (hbe e2)
  obtain ⟨D3,hd3,hs3,hl3,hr3⟩:=Dm Ba (fun d=>T0 W (fun _ _=>True) d ∧ ∀ j,j < (d.f 1).l → IntKind.i32.wrap ((d.f 1).f j).n = ((d.f 1).f j).n) hR.owneds hc.2.2.1 (by omega) (JG hR) k3 (hbe e3)
  obtain ⟨D1,hd1,hok1⟩:∃ D1:DV,[c1,c2] = [.slice (D1.f 0).A (D1.f 0).l (D1.f 0).c,.int .i32 (D1.f 1).n] ∧ V4 W (fun _ _=>True) D1:=by
   obtain ⟨gs,hgs,hgz,gl⟩:=FK hR.sticky
   have bb:=hbe e1
   obtain ⟨ys,m',rfl,rfl,gcl,gxl,gx⟩:=DataW.trod_struct hgs k1
   rw [hgz] at gxl
   have gxl':ys.length = 2:=gxl
   have gbe:∀ {i:Nat} {y:DataW H × List MemPlace},ys[i]? = some y → uptoBulk y.1 ≤ 1048576:=fun e=>FL bb _ (List.mem_map.2 ⟨_,List.mem_of_getElem? e,rfl⟩)
   obtain ⟨z0,f0,l0⟩:=Z6 gx gl (i:=0) rfl hc.2.2.2.1 (by omega) (c:=c1) rfl
   obtain ⟨z1,f1,l1⟩:=Z6 gx gl (i:=1) rfl hc.2.2.2.2.2.2.1 (by omega) (c:=c2) rfl
   obtain ⟨E0,he0,hse,hle,hre⟩:=Dm Ba (fun d=>T0 W (fun _ _=>True) d ∧ ∀ j,j < (d.f 1).l → IntKind.i32.wrap ((d.f 1).f j).n = ((d.f 1).f j).n) hR.owneds hc.2.2.1 (by omega) (JG hR) l0 (gbe f0)
   obtain ⟨v,hv,_,_⟩:=DataW.trod_int hR.int l1
   simp only [List.cons.injEq,and_true] at he0 hv
   subst he0; subst hv
   exact ⟨J8 none [] [E0,K7 v],rfl,⟨hse,hle,fun i hi=>(hre i hi).1⟩,trivial,trivial⟩
  simp only [List.cons.injEq,and_true] at hs0 hs4 hd2 hd3 hd1
  obtain ⟨rfl,rfl⟩:=hd1
  subst hs0; subst hs4; subst hd2; subst hd3
  exact ⟨J8 none [] [O3 A0 s0 d0,D1,D2,D3,O3 A4 s4 d4],rfl,⟨⟨ho0,Nat.le_trans hz0 b0⟩,hok1,⟨hs2,hl2,hr2⟩,⟨hs3,hl3,fun i hi=>(hr3 i hi).1⟩,⟨ho4,Nat.le_trans hz4 b4⟩,trivial⟩,fun i hi=>(hr3 i hi).2⟩
theorem NF (hT:TreeTys P T TL TU TG TB TI TO TK T8) (hR:RoadTys P TM TLm TS TOw TOs TWs TIs TI3 TT TB) {fuel:Nat} {cs:List Value} {x:DataW H × List MemPlace} (h:DataW.trod enc P W 0 sp hd fuel TLm cs = some x) (hb:uptoBulk x.1 ≤ 1048576) :
  ∃ D,cs = [.slice D.A D.l D.c] ∧ Ej W (fun _ _=>True) D ∧ ∀ i,i < D.l → Cq (D.f i):=by
 have hc:=hR.cells
 simp only [Prod.mk.injEq] at hc
 obtain ⟨D,h1,h2,h3,h4⟩:=Dm Ji (fun d=>R0 W (fun _ _=>True) d ∧ Cq d) hR.members hc.1 (by omega) (NE hT hR) h hb
 exact ⟨D,h1,⟨h2,h3,fun i hi=>(h4 i hi).1⟩,fun i hi=>(h4 i hi).2⟩
end
end Go.Proofs.YtipblegipibplaaGreatDoor.ME
namespace Go.Proofs.YtipblegipibplaaGreatDoor.ME
open Go
open Go.RowKit
set_option linter.unusedVariables false
set_option linter.unusedSimpArgs false
set_option maxRecDepth 20000
def S6 (w:World) (F:Nat → Nat → Prop) (D:DV):Prop:=((D.f 0).s.size ≤ 1000000) ∧ (Octs w F (D.f 1).A (D.f 1).c (D.f 1).o ∧ (D.f 1).o.length ≤ 1000000) ∧ MapR w F D.m D.u ∧ D.u.length ≤ 1000000 ∧ (∀ x ∈ D.u,x.2.length < 4294967296) ∧ True
def W0 (w:World) (F:Nat → Nat → Prop) (D:DV):Prop:=((D.f 0).s.size ≤ 1000000) ∧ (True) ∧ ((D.f 2).s.size ≤ 1000000) ∧ ((∀ ad,(D.f 3).A = some ad → ∃ b o,ad = ⟨b,o,none⟩ ∧ AtF w F b o [.string (D.f 3).s]) ∧ (D.f 3).s.size ≤ 1000000) ∧ ((∀ ad,(D.f 4).A = some ad → ∃ b o,ad = ⟨b,o,none⟩ ∧ AtF w F b o [.string (D.f 4).s]) ∧ (D.f 4).s.size ≤ 1000000) ∧ ((∀ ad,(D.f 5).A = some ad → ∃ b o,ad = ⟨b,o,none⟩ ∧ AtF w F b o [.string (D.f 5).s]) ∧ (D.f 5).s.size ≤ 1000000) ∧ (Slots w F 3 (D.f 6).A (D.f 6).c (D.f 6).l (fun i=>[.string ((((D.f 6).f i).f 0).s),.slice ((((D.f 6).f i).f 1).A) ((((D.f 6).f i).f 1).o.length) ((((D.f 6).f i).f 1).c),.map (((D.f 6).f i).m)]) ∧ (D.f 6).l ≤ 1000000 ∧ ∀ i,i < (D.f 6).l → S6 w F ((D.f 6).f i)) ∧ MapR w F D.m D.u ∧ D.u.length ≤ 1000000 ∧ (∀ x ∈ D.u,x.2.length < 4294967296) ∧ True
def Y5 (v:Int) (D:DV):Bs:=(if (decide (v ≥ 4)) = true then (uv ((D.f 0).s.size + 1) ++ sb (D.f 0).s) else (be 2 (D.f 0).s.size ++ sb (D.f 0).s)) ++ ((be 4 ((D.f 1).n)) ++ ((if (decide (v ≥ 4)) = true then (uv ((D.f 2).s.size + 1) ++ sb (D.f 2).s) else (be 2 (D.f 2).s.size ++ sb (D.f 2).s)) ++ ((if (decide (v ≥ 3)) = true then if (decide (v ≥ 4)) = true then (if (D.f 3).A.isNone = true then uv 0 else uv ((D.f 3).s.size + 1) ++ sb (D.f 3).s) else (if (D.f 3).A.isNone = true then be 2 (-1) else be 2 (D.f 3).s.size ++ sb (D.f 3).s) else []) ++ ((if (decide (v ≥ 5)) = true then if (decide (v ≥ 4)) = true then (if (D.f 4).A.isNone = true then uv 0 else uv ((D.f 4).s.size + 1) ++ sb (D.f 4).s) else (if (D.f 4).A.isNone = true then be 2 (-1) else be 2 (D.f 4).s.size ++ sb (D.f 4).s) else []) ++ ((if (decide (v ≥ 5)) = true then if (decide (v ≥ 4)) = true then (if (D.f 5).A.isNone = true then uv 0 else uv ((D.f 5).s.size + 1) ++ sb (D.f 5).s) else (if (D.f 5).A.isNone = true then be 2 (-1) else be 2 (D.f 5).s.size ++ sb (D.f 5).s) else []) ++ (((if (decide (v ≥ 4)) = true then (uv ((D.f 6).l + 1)) else (be 4 (D.f 6).l)) ++ ((List.range (D.f 6).l).flatMap fun k9=>(if (decide (v ≥ 4)) = true then (uv ((((D.f 6).f k9).f 0).s.size + 1) ++ sb (((D.f 6).f k9).f 0).s) else (be 2 (((D.f 6).f k9).f 0).s.size ++ sb (((D.f 6).f k9).f 0).s)) ++ ((if (decide (v ≥ 4)) = true then (uv ((((D.f 6).f k9).f 1).o.length + 1) ++ (((D.f 6).f k9).f 1).o) else (be 4 (((D.f 6).f k9).f 1).o.length ++ (((D.f 6).f k9).f 1).o)) ++ (if (decide (v ≥ 4)) = true then (uv ((D.f 6).f k9).u.length) ++ (H0 ((D.f 6).f k9).u) else [])))) ++ ((if (decide (v ≥ 4)) = true then (uv D.u.length) ++ (H0 D.u) else []) ++ ([]))))))))
theorem NG (v:Int) (D:DV) (b o:Nat) (A:Option Addr) (cp:Nat) (s:Bs) (w:World) (F:Nat → Nat → Prop) (hat:AtF w F b o [.int .i16 v,.string ((D.f 0).s),.int .i32 ((D.f 1).n),.string ((D.f 2).s),.pointer ((D.f 3).A),.pointer ((D.f 4).A),.pointer ((D.f 5).A),.slice ((D.f 6).A) ((D.f 6).l) ((D.f 6).c),.map D.m]) (hok:W0 w F D) (hF:∀ b o,F b o → ¬ G1 A b o) (ho:w.ownsRow 0 5 1 (.slice A s.length cp) s.length (bc s)) (hroom:s.length + (Y5 v D).length + 16 ≤ 1099511627776) :
  Calls Tryz.prog 36 [.pointer (some ⟨b,o,none⟩),.slice A s.length cp].toArray w (K9 w 5 A (s ++ Y5 v D)):=by
 unfold W0 at hok
 obtain ⟨g1,g2,g3,⟨g4,g4l⟩,⟨g5,g5l⟩,⟨g6,g6l⟩,⟨g7,g7l,g7e⟩,g8,g8l,g8x,_⟩:=hok
 refine EZ (n:=167) Tryz.func36 rfl Tryz.ntmps36 kz rfl ho hroom ?_
 unfold Y5
 let al:Value:=.string ((D.f 0).s)
 let am:Value:=.string ((D.f 2).s)
 let ao:Value:=.pointer ((D.f 3).A)
 let ap:Value:=.pointer ((D.f 4).A)
 let ar:Value:=.pointer ((D.f 5).A)
 refine CC b o [.int .i16 v,al,.int .i32 ((D.f 1).n),am,ao,ap,ar,.slice ((D.f 6).A) ((D.f 6).l) ((D.f 6).c),.map D.m] hat hF kz kz ?_
 refine CD 0 0 0 b o (by simp) rfl rfl rfl ?_
 let ab:Nat × SV:=(0,.p 0 0)
 refine L1 (E7 (env':=[ab]) [0] (fun _ _ _=>by kernel_rfl)) ?_
 let ae:Nat × SV:=(5,.v (.int .i16 v))
 refine L1 (E7 (env':=[ab,ae]) [0,5] (fun _ _ _=>by kernel_rfl)) ?_
 refine L1 (E7 (env':=[ab,ae]) [0,5] (fun _ _ _=>by kernel_rfl)) ?_
 let ac:Nat × SV:=(6,.v (.bool (decide (v ≥ 4))))
 let ah:C8:=[ab,ae,ac]
 refine L1 (E7 (env':=ah) [0,5,6] (fun _ _ _=>by kernel_rfl)) ?_
 refine L1 (E7 (env':=ah) [0,5,6] (fun _ _ _=>by kernel_rfl)) ?_
 refine N6 (e1:=ah) ?_ ?_
 ·
  refine H3 (E7 (env':=[ab,ae,ac,(7,.v (.string ((D.f 0).s)))]) [0,5,6,7] (fun _ _ _=>by kernel_rfl)) ?_
  refine H3 (E7 (env':=[ab,ae,ac,(7,.v (.string ((D.f 0).s))),(30,.v (.bool (decide (v ≥ 4))))]) [0,5,6,7,30] (fun _ _ _=>by kernel_rfl)) ?_
  refine T6 (b:=decide (v ≥ 4)) (fun _ _ _=>by kernel_rfl) (fun hb=>?_) (fun hb=>?_)
  ·
   exact I8 (f:=65) (vs:=[al]) 2 [0,5,6] (fun _ _ _ _ _ _=>by kernel_rfl) kz Tryz.call65 (fun A cp s w _ _ ho hr=>DS (D.f 0).s A cp s w ho g1 hr)
  exact I8 (f:=66) (vs:=[al]) 2 [0,5,6] (fun _ _ _ _ _ _=>by kernel_rfl) kz Tryz.call66 (fun A cp s w _ _ ho hr=>CN (D.f 0).s A cp s w ho hr)
 refine N6 (e1:=ah) ?_ ?_
 ·
  refine H3 (E7 (env':=[ab,ae,ac,(8,.v (.int .i32 ((D.f 1).n)))]) [0,5,6,8] (fun _ _ _=>by kernel_rfl)) ?_
  exact I8 (f:=67) (vs:=[.int .i32 ((D.f 1).n)]) 2 [0,5,6] (fun _ _ _ _ _ _=>by kernel_rfl) kz Tryz.call67 (fun A cp s w _ _ ho hr=>BX A cp s ((D.f 1).n) w ho (by omega))
 refine N6 (e1:=ah) ?_ ?_
 ·
  refine H3 (E7 (env':=[ab,ae,ac,(9,.v (.string ((D.f 2).s)))]) [0,5,6,9] (fun _ _ _=>by kernel_rfl)) ?_
  refine H3 (E7 (env':=[ab,ae,ac,(9,.v (.string ((D.f 2).s))),(48,.v (.bool (decide (v ≥ 4))))]) [0,5,6,9,48] (fun _ _ _=>by kernel_rfl)) ?_
  refine T6 (b:=decide (v ≥ 4)) (fun _ _ _=>by kernel_rfl) (fun hb=>?_) (fun hb=>?_)
  ·
   exact I8 (f:=65) (vs:=[am]) 2 [0,5,6] (fun _ _ _ _ _ _=>by kernel_rfl) kz Tryz.call65 (fun A cp s w _ _ ho hr=>DS (D.f 2).s A cp s w ho g3 hr)
  exact I8 (f:=66) (vs:=[am]) 2 [0,5,6] (fun _ _ _ _ _ _=>by kernel_rfl) kz Tryz.call66 (fun A cp s w _ _ ho hr=>CN (D.f 2).s A cp s w ho hr)
 refine N6 (e1:=ah) ?_ ?_
 ·
  refine H3 (E7 (env':=[ab,ae,ac,(56,.v (.bool (decide (v ≥ 3))))]) [0,5,6,56] (fun _ _ _=>by kernel_rfl)) ?_
  refine X7 (b:=decide (v ≥ 3)) (fun _ _ _=>by kernel_rfl) (fun hb=>?_) (fun hb=>?_)
  ·
   refine H3 (E7 (env':=[ab,ae,ac,(10,.v (.pointer ((D.f 3).A)))]) [0,5,6,10] (fun _ _ _=>by kernel_rfl)) ?_
   refine H3 (E7 (env':=[ab,ae,ac,(10,.v (.pointer ((D.f 3).A))),(61,.v (.bool (decide (v ≥ 4))))]) [0,5,6,10,61] (fun _ _ _=>by kernel_rfl)) ?_
   refine T6 (b:=decide (v ≥ 4)) (fun _ _ _=>by kernel_rfl) (fun hb=>?_) (fun hb=>?_)
   ·
    exact I8 (f:=68) (vs:=[ao]) 2 [0,5,6] (fun _ _ _ _ _ _=>by kernel_rfl) kz Tryz.call68 (fun A cp s w hs hA ho hr=>Da (D.f 3).A (D.f 3).s A cp s w ho (Lo F _) (P0 hF hA) (fun ad h=>by obtain ⟨b',o',g1,g2⟩:=g4 ad h; exact ⟨b',o',g1,g2.move hs (F8 hF) F9⟩) g4l hr)
   exact I8 (f:=69) (vs:=[ao]) 2 [0,5,6] (fun _ _ _ _ _ _=>by kernel_rfl) kz Tryz.call69 (fun A cp s w hs hA ho hr=>CZ (D.f 3).A (D.f 3).s A cp s w ho (Lo F _) (P0 hF hA) (fun ad h=>by obtain ⟨b',o',g1,g2⟩:=g4 ad h; exact ⟨b',o',g1,g2.move hs (F8 hF) F9⟩) g4l hr)
  exact X8 (e1:=ah) [0,5,6] (fun _ _ _=>by kernel_rfl) W9
 refine N6 (e1:=ah) ?_ ?_
 ·
  refine H3 (E7 (env':=[ab,ae,ac,(69,.v (.bool (decide (v ≥ 5))))]) [0,5,6,69] (fun _ _ _=>by kernel_rfl)) ?_
  refine X7 (b:=decide (v ≥ 5)) (fun _ _ _=>by kernel_rfl) (fun hb=>?_) (fun hb=>?_)
  ·
   refine H3 (E7 (env':=[ab,ae,ac,(11,.v (.pointer ((D.f 4).A)))]) [0,5,6,11] (fun _ _ _=>by kernel_rfl)) ?_
   refine H3 (E7 (env':=[ab,ae,ac,(11,.v (.pointer ((D.f 4).A))),(74,.v (.bool (decide (v ≥ 4))))]) [0,5,6,11,74] (fun _ _ _=>by kernel_rfl)) ?_
   refine T6 (b:=decide (v ≥ 4)) (fun _ _ _=>by kernel_rfl) (fun hb=>?_) (fun hb=>?_)
   ·
    exact I8 (f:=68) (vs:=[ap]) 2 [0,5,6] (fun _ _ _ _ _ _=>by kernel_rfl) kz Tryz.call68 (fun A cp s w hs hA ho hr=>Da (D.f 4).A (D.f 4).s A cp s w ho (Lo F _) (P0 hF hA) (fun ad h=>by obtain ⟨b',o',g1,g2⟩:=g5 ad h; exact ⟨b',o',g1,g2.move hs (F8 hF) F9⟩) g5l hr)
   exact I8 (f:=69) (vs:=[ap]) 2 [0,5,6] (fun _ _ _ _ _ _=>by kernel_rfl) kz Tryz.call69 (fun A cp s w hs hA ho hr=>CZ (D.f 4).A (D.f 4).s A cp s w ho (Lo F _) (P0 hF hA) (fun ad h=>by obtain ⟨b',o',g1,g2⟩:=g5 ad h; exact ⟨b',o',g1,g2.move hs (F8 hF) F9⟩) g5l hr)
  exact X8 (e1:=ah) [0,5,6] (fun _ _ _=>by kernel_rfl) W9
 let au:C8:=[ab,ac]
 refine N6 (e1:=au) ?_ ?_
 ·
  refine H3 (E7 (env':=[ab,ac,(82,.v (.bool (decide (v ≥ 5))))]) [0,6,82] (fun _ _ _=>by kernel_rfl)) ?_
  refine X7 (b:=decide (v ≥ 5)) (fun _ _ _=>by kernel_rfl) (fun hb=>?_) (fun hb=>?_)
  ·
   refine H3 (E7 (env':=[ab,ac,(12,.v (.pointer ((D.f 5).A)))]) [0,6,12] (fun _ _ _=>by kernel_rfl)) ?_
   refine H3 (E7 (env':=[ab,ac,(12,.v (.pointer ((D.f 5).A))),(87,.v (.bool (decide (v ≥ 4))))]) [0,6,12,87] (fun _ _ _=>by kernel_rfl)) ?_
   refine T6 (b:=decide (v ≥ 4)) (fun _ _ _=>by kernel_rfl) (fun hb=>?_) (fun hb=>?_)
   ·
    exact I8 (f:=68) (vs:=[ar]) 2 [0,6] (fun _ _ _ _ _ _=>by kernel_rfl) kz Tryz.call68 (fun A cp s w hs hA ho hr=>Da (D.f 5).A (D.f 5).s A cp s w ho (Lo F _) (P0 hF hA) (fun ad h=>by obtain ⟨b',o',g1,g2⟩:=g6 ad h; exact ⟨b',o',g1,g2.move hs (F8 hF) F9⟩) g6l hr)
   exact I8 (f:=69) (vs:=[ar]) 2 [0,6] (fun _ _ _ _ _ _=>by kernel_rfl) kz Tryz.call69 (fun A cp s w hs hA ho hr=>CZ (D.f 5).A (D.f 5).s A cp s w ho (Lo F _) (P0 hF hA) (fun ad h=>by obtain ⟨b',o',g1,g2⟩:=g6 ad h; exact ⟨b',o',g1,g2.move hs (F8 hF) F9⟩) g6l hr)
  exact X8 (e1:=au) [0,6] (fun _ _ _=>by kernel_rfl) W9
 refine N6 (e1:=au) ?_ ?_
 ·
  let af:Nat × SV:=(13,.v (.slice ((D.f 6).A) ((D.f 6).l) ((D.f 6).c)))
  let av:C8:=[ab,ac,af]
  refine H3 (E7 (env':=av) [0,6,13] (fun _ _ _=>by kernel_rfl)) ?_
  refine U5 (e1:=av) ?_ ?_
  ·
   refine H3 (E7 (env':=[ab,ac,af,(98,.v (.bool (decide (v ≥ 4))))]) [0,6,13,98] (fun _ _ _=>by kernel_rfl)) ?_
   refine T6 (b:=decide (v ≥ 4)) (fun _ _ _=>by kernel_rfl) (fun hb=>?_) (fun hb=>?_)
   ·
    exact I8 (f:=70) (vs:=[.int .i64 (((D.f 6).l:Nat):Int)]) 3 [0,6,13] (fun _ _ _ _ _ _=>by kernel_rfl) kz Tryz.call70 (fun A cp s w _ _ ho hr=>Lb (D.f 6).l g7l A cp s w ho hr)
   exact I8 (f:=71) (vs:=[.int .i64 (((D.f 6).l:Nat):Int)]) 3 [0,6,13] (fun _ _ _ _ _ _=>by kernel_rfl) kz Tryz.call71 (fun A cp s w _ _ ho hr=>Fm (D.f 6).l A cp s w ho hr)
  let ag:Nat × SV:=(108,.v (.int .i64 (((D.f 6).l:Nat):Int)))
  refine H3 (E7 (env':=[(109,.v (.int .i64 0)),ab,ac,af,ag]) [109,0,6,13,108] (fun _ _ _=>by kernel_rfl)) ?_
  refine Fq (e1:=[ab,ac,af,ag]) [0,6] (fun _ _ _=>by kernel_rfl) ?_
  refine EX (len:=(D.f 6).l) (xs:=fun k9=>(if (decide (v ≥ 4)) = true then (uv ((((D.f 6).f k9).f 0).s.size + 1) ++ sb (((D.f 6).f k9).f 0).s) else (be 2 (((D.f 6).f k9).f 0).s.size ++ sb (((D.f 6).f k9).f 0).s)) ++ ((if (decide (v ≥ 4)) = true then (uv ((((D.f 6).f k9).f 1).o.length + 1) ++ (((D.f 6).f k9).f 1).o) else (be 4 (((D.f 6).f k9).f 1).o.length ++ (((D.f 6).f k9).f 1).o)) ++ (if (decide (v ≥ 4)) = true then (uv ((D.f 6).f k9).u.length) ++ (H0 ((D.f 6).f k9).u) else []))) 109 110 [0,6,13,108] (fun _ _ _ _=>by kernel_rfl) (fun _ _ _ _=>by kernel_rfl) (fun _ _ _ _ _=>by kernel_rfl) (fun _ _ _ _ _=>by kernel_rfl) kz (Nat.le_trans g7l (by decide)) (fun k9 hk9=>?_)
  let ai:Nat × SV:=(109,.v (.int .i64 ((k9:Nat):Int)))
  refine H3 (E7 (env':=[ab,ac,af,(14,.v (.int .i64 ((k9:Nat):Int))),ag,ai]) [0,6,13,14,108,109] (fun _ _ _=>by kernel_rfl)) ?_
  let aj:Nat × SV:=(15,.p 1 0)
  let ak:C8:=[ab,ac,af,aj,ag,ai]
  refine FO (t:=77) (e:=110) (size:=3) (bytes:=48) (len:=(D.f 6).l) (j:=k9) (cs:=fun i=>[.string ((((D.f 6).f i).f 0).s),.slice ((((D.f 6).f i).f 1).A) ((((D.f 6).f i).f 1).o.length) ((((D.f 6).f i).f 1).c),.map (((D.f 6).f i).m)]) (e1:=ak) 2 [0,6,13,15,108,109] (fun _ _ _ _ _=>by kernel_rfl) kz kz g7 hk9 hF kz kz kz fun bb1 oo1 hat1=>?_
  have aA:=g7e k9 hk9
  unfold S6 at aA
  obtain ⟨aD,⟨aB,g12l⟩,aC,g13l,g13x,_⟩:=aA
  refine U5 (e1:=ak) ?_ ?_
  ·
   let aw:Nat × SV:=(16,.v (.string ((((D.f 6).f k9).f 0).s)))
   refine H3 (E7 (env':=[ab,ac,af,aj,aw,ag,ai]) [0,6,13,15,16,108,109] (fun _ _ _=>by kernel_rfl)) ?_
   refine H3 (E7 (env':=[ab,ac,af,aj,aw,ag,ai,(119,.v (.bool (decide (v ≥ 4))))]) [0,6,13,15,16,108,109,119] (fun _ _ _=>by kernel_rfl)) ?_
   refine T6 (b:=decide (v ≥ 4)) (fun _ _ _=>by kernel_rfl) (fun hb=>?_) (fun hb=>?_)
   ·
    exact I8 (f:=65) (vs:=[.string ((((D.f 6).f k9).f 0).s)]) 2 [0,6,13,15,108,109] (fun _ _ _ _ _ _=>by kernel_rfl) kz Tryz.call65 (fun A cp s w _ _ ho hr=>DS (((D.f 6).f k9).f 0).s A cp s w ho aD hr)
   exact I8 (f:=66) (vs:=[.string ((((D.f 6).f k9).f 0).s)]) 2 [0,6,13,15,108,109] (fun _ _ _ _ _ _=>by kernel_rfl) kz Tryz.call66 (fun A cp s w _ _ ho hr=>CN (((D.f 6).f k9).f 0).s A cp s w ho hr)
  refine U5 (e1:=ak) ?_ ?_
  ·
   let ax:Nat × SV:=(17,.v (.slice ((((D.f 6).f k9).f 1).A) ((((D.f 6).f k9).f 1).o.length) ((((D.f 6).f k9).f 1).c)))
   refine H3 (E7 (env':=[ab,ac,af,aj,ax,ag,ai]) [0,6,13,15,17,108,109] (fun _ _ _=>by kernel_rfl)) ?_
   refine H3 (E7 (env':=[ab,ac,af,aj,ax,ag,ai,(130,.v (.bool (decide (v ≥ 4))))]) [0,6,13,15,17,108,109,130] (fun _ _ _=>by kernel_rfl)) ?_
   let ay:Value:=.slice ((((D.f 6).f k9).f 1).A) ((((D.f 6).f k9).f 1).o.length) ((((D.f 6).f k9).f 1).c)
   refine T6 (b:=decide (v ≥ 4)) (fun _ _ _=>by kernel_rfl) (fun hb=>?_) (fun hb=>?_)
   ·
    exact I8 (f:=72) (vs:=[ay]) 2 [0,6,13,15,108,109] (fun _ _ _ _ _ _=>by kernel_rfl) kz Tryz.call72 (fun A cp s w hs hA ho hr=>HV (((D.f 6).f k9).f 1).o (((D.f 6).f k9).f 1).A (((D.f 6).f k9).f 1).c (Lo F _) A cp s w ho (P0 hF hA) (aB.move hs (F8 hF) F9) g12l hr)
   exact I8 (f:=73) (vs:=[ay]) 2 [0,6,13,15,108,109] (fun _ _ _ _ _ _=>by kernel_rfl) kz Tryz.call73 (fun A cp s w hs hA ho hr=>Fl (((D.f 6).f k9).f 1).o (((D.f 6).f k9).f 1).A (((D.f 6).f k9).f 1).c (Lo F _) A cp s w ho (P0 hF hA) (aB.move hs (F8 hF) F9) hr)
  refine H3 (E7 (env':=[ab,ac,af,aj,ag,ai,(137,.v (.bool (decide (v ≥ 4))))]) [0,6,13,15,108,109,137] (fun _ _ _=>by kernel_rfl)) ?_
  refine X7 (b:=decide (v ≥ 4)) (fun _ _ _=>by kernel_rfl) (fun hb=>?_) (fun hb=>?_)
  ·
   refine U5 (e1:=ak) ?_ ?_
   ·
    exact EV (f1:=75) (vs1:=[.pointer (some ⟨bb1,oo1 + 2,none⟩)]) (r1:=.int .i64 ((((D.f 6).f k9).u.length:Nat):Int)) (f:=74) (vs:=[.int .u32 (IntKind.u32.wrap (0 + (IntKind.u32.wrap ((((D.f 6).f k9).u.length:Nat):Int))))]) 4 7 [0,6,13,15,108,109] (fun _ _ _ _ _ _=>by kernel_rfl) kz Tryz.call75 Tryz.call74 (fun w hs=>Fj (F:=Lo F _) ((hat1.one 2 rfl).move hs (F8 hF) F9) (aC.move hs (F8 hF) F9)) (fun A cp s w _ _ ho hr=>by rw [show (IntKind.u32.wrap (0 + (IntKind.u32.wrap ((((D.f 6).f k9).u.length:Nat):Int))):Int) = ((((D.f 6).f k9).u.length:Nat):Int) from Ft _ g13l]; exact X6 ((D.f 6).f k9).u.length (by have:=g13l; omega) A cp s w ho hr)
   exact Fo (f:=76) 4 [109,0,6,13,108] (fun s=>[.pointer (some ⟨bb1,oo1 + 2,none⟩),s]) (fun _ _ _ _ _ _=>by kernel_rfl) kz Tryz.call76 (fun A cp s w hs hA ho hr=>Fn (F:=Lo F _) ((hat1.one 2 rfl).move hs (F8 hF) F9) (aC.move hs (F8 hF) F9) ho (P0 hF hA) g13x hr)
  exact X8 (e1:=[ai,ab,ac,af,ag]) [109,0,6,13,108] (fun _ _ _=>by kernel_rfl) W9
 refine N6 (e1:=[]) ?_ ?_
 ·
  refine H3 (E7 (env':=[ab,(152,.v (.bool (decide (v ≥ 4))))]) [0,152] (fun _ _ _=>by kernel_rfl)) ?_
  refine X7 (b:=decide (v ≥ 4)) (fun _ _ _=>by kernel_rfl) (fun hb=>?_) (fun hb=>?_)
  ·
   refine U5 (e1:=[ab]) ?_ ?_
   ·
    exact EV (f1:=75) (vs1:=[.pointer (some ⟨b,o + 8,none⟩)]) (r1:=.int .i64 ((D.u.length:Nat):Int)) (f:=74) (vs:=[.int .u32 (IntKind.u32.wrap (0 + (IntKind.u32.wrap ((D.u.length:Nat):Int))))]) 4 7 [0] (fun _ _ _ _ _ _=>by kernel_rfl) kz Tryz.call75 Tryz.call74 (fun w hs=>Fj (F:=Lo F _) ((hat.one 8 rfl).move hs (F8 hF) F9) (g8.move hs (F8 hF) F9)) (fun A cp s w _ _ ho hr=>by rw [show (IntKind.u32.wrap (0 + (IntKind.u32.wrap ((D.u.length:Nat):Int))):Int) = ((D.u.length:Nat):Int) from Ft _ g8l]; exact X6 D.u.length (by have:=g8l; omega) A cp s w ho hr)
   exact Fo (f:=76) 4 [] (fun s=>[.pointer (some ⟨b,o + 8,none⟩),s]) (fun _ _ _ _ _ _=>by kernel_rfl) kz Tryz.call76 (fun A cp s w hs hA ho hr=>Fn (F:=Lo F _) ((hat.one 8 rfl).move hs (F8 hF) F9) (g8.move hs (F8 hF) F9) ho (P0 hF hA) g8x hr)
  exact X8 (e1:=[]) [] (fun _ _ _=>by kernel_rfl) W9
 exact EY (fun _ _ _=>by kernel_rfl)
def Cr (D:DV) (T:Tree):Prop:=((D.f 0).s = bs (T.at_ 0).S) ∧ ((D.f 1).o = B9 (T.at_ 1) ∧ (D.f 1).A.isNone = (T.at_ 1).null) ∧ D.u = T.U ∧ True
def Ey (D:DV) (T:Tree):Prop:=((D.f 0).s = bs (T.at_ 0).S) ∧ ((D.f 1).n = IntKind.i32.wrap (T.at_ 1).N) ∧ ((D.f 2).s = bs (T.at_ 2).S) ∧ ((D.f 3).s = bs (B9 (T.at_ 3)) ∧ (D.f 3).A.isNone = (T.at_ 3).null) ∧ ((D.f 4).s = bs (B9 (T.at_ 4)) ∧ (D.f 4).A.isNone = (T.at_ 4).null) ∧ ((D.f 5).s = bs (B9 (T.at_ 5)) ∧ (D.f 5).A.isNone = (T.at_ 5).null) ∧ ((D.f 6).A.isNone = (T.at_ 6).null ∧ (D.f 6).l = (lst (T.at_ 6)).length ∧ ∀ i,i < (D.f 6).l → Cr ((D.f 6).f i) ((lst (T.at_ 6)).getD i .zero)) ∧ D.u = T.U ∧ True
def H7 (v:Int) (T:Tree):Bs:=(if (decide (v ≥ 4)) = true then (uv ((T.at_ 0).S.length + 1) ++ (T.at_ 0).S) else (be 2 (T.at_ 0).S.length ++ (T.at_ 0).S)) ++ ((be 4 ((IntKind.i32.wrap (T.at_ 1).N))) ++ ((if (decide (v ≥ 4)) = true then (uv ((T.at_ 2).S.length + 1) ++ (T.at_ 2).S) else (be 2 (T.at_ 2).S.length ++ (T.at_ 2).S)) ++ ((if (decide (v ≥ 3)) = true then if (decide (v ≥ 4)) = true then (if (T.at_ 3).null = true then uv 0 else uv ((B9 (T.at_ 3)).length + 1) ++ (B9 (T.at_ 3))) else (if (T.at_ 3).null = true then be 2 (-1) else be 2 (B9 (T.at_ 3)).length ++ (B9 (T.at_ 3))) else []) ++ ((if (decide (v ≥ 5)) = true then if (decide (v ≥ 4)) = true then (if (T.at_ 4).null = true then uv 0 else uv ((B9 (T.at_ 4)).length + 1) ++ (B9 (T.at_ 4))) else (if (T.at_ 4).null = true then be 2 (-1) else be 2 (B9 (T.at_ 4)).length ++ (B9 (T.at_ 4))) else []) ++ ((if (decide (v ≥ 5)) = true then if (decide (v ≥ 4)) = true then (if (T.at_ 5).null = true then uv 0 else uv ((B9 (T.at_ 5)).length + 1) ++ (B9 (T.at_ 5))) else (if (T.at_ 5).null = true then be 2 (-1) else be 2 (B9 (T.at_ 5)).length ++ (B9 (T.at_ 5))) else []) ++ (((if (decide (v ≥ 4)) = true then (uv ((lst (T.at_ 6)).length + 1)) else (be 4 (lst (T.at_ 6)).length)) ++ ((lst (T.at_ 6)).flatMap fun Ek9=>(if (decide (v ≥ 4)) = true then (uv ((Ek9.at_ 0).S.length + 1) ++ (Ek9.at_ 0).S) else (be 2 (Ek9.at_ 0).S.length ++ (Ek9.at_ 0).S)) ++ ((if (decide (v ≥ 4)) = true then (uv ((B9 (Ek9.at_ 1)).length + 1) ++ (B9 (Ek9.at_ 1))) else (be 4 (B9 (Ek9.at_ 1)).length ++ (B9 (Ek9.at_ 1)))) ++ (if (decide (v ≥ 4)) = true then (uv Ek9.U.length) ++ (H0 Ek9.U) else [])))) ++ ((if (decide (v ≥ 4)) = true then (uv T.U.length) ++ (H0 T.U) else []) ++ ([]))))))))
theorem NH (v:Int) (D:DV) (T:Tree) (h:Ey D T):Y5 v D = H7 v T:=by
 unfold Ey at h
 obtain ⟨ac,ae,af,⟨ag,r17n⟩,⟨ah,r18n⟩,⟨ai,r19n⟩,⟨r20n,r20l,r20e⟩,aj,_⟩:=h
 unfold Y5 H7
 have ak:((List.range (D.f 6).l).flatMap fun k9=>(if (decide (v ≥ 4)) = true then (uv ((((D.f 6).f k9).f 0).s.size + 1) ++ sb (((D.f 6).f k9).f 0).s) else (be 2 (((D.f 6).f k9).f 0).s.size ++ sb (((D.f 6).f k9).f 0).s)) ++ ((if (decide (v ≥ 4)) = true then (uv ((((D.f 6).f k9).f 1).o.length + 1) ++ (((D.f 6).f k9).f 1).o) else (be 4 (((D.f 6).f k9).f 1).o.length ++ (((D.f 6).f k9).f 1).o)) ++ (if (decide (v ≥ 4)) = true then (uv ((D.f 6).f k9).u.length) ++ (H0 ((D.f 6).f k9).u) else []))) = ((lst (T.at_ 6)).flatMap fun Ek9=>(if (decide (v ≥ 4)) = true then (uv ((Ek9.at_ 0).S.length + 1) ++ (Ek9.at_ 0).S) else (be 2 (Ek9.at_ 0).S.length ++ (Ek9.at_ 0).S)) ++ ((if (decide (v ≥ 4)) = true then (uv ((B9 (Ek9.at_ 1)).length + 1) ++ (B9 (Ek9.at_ 1))) else (be 4 (B9 (Ek9.at_ 1)).length ++ (B9 (Ek9.at_ 1)))) ++ (if (decide (v ≥ 4)) = true then (uv Ek9.U.length) ++ (H0 Ek9.U) else []))):=FP r20l fun k9 hk=>by
  have ab:=r20e k9 hk
  generalize (lst (T.at_ 6)).getD k9 .zero = Ek9 at ab ⊢
  unfold Cr at ab
  obtain ⟨al,⟨am,r25n⟩,ao,_⟩:=ab
  simp only [al,am,r25n,ao,Z7,M6]
 rw [ak]
 simp only [ac,ae,af,ag,r17n,ah,r18n,ai,r19n,r20n,r20l,aj,Z7,M6]
def BC (T:Tree):Prop:=((T.at_ 0).S.length ≤ 32767) ∧ ((B9 (T.at_ 1)).length ≤ 32767) ∧ T7 T.U ∧ True
def Y6 (T:Tree):Prop:=((T.at_ 0).S.length ≤ 32767) ∧ (True) ∧ ((T.at_ 2).S.length ≤ 32767) ∧ ((B9 (T.at_ 3)).length ≤ 32767) ∧ ((B9 (T.at_ 4)).length ≤ 32767) ∧ ((B9 (T.at_ 5)).length ≤ 32767) ∧ ((lst (T.at_ 6)).length ≤ 32767 ∧ ∀ x ∈ lst (T.at_ 6),BC x) ∧ T7 T.U ∧ True
theorem GQ (v:Int) (t:Tree):Y6 (C2 v 8 sSyncGroupRequestF t):=by
 unfold Y6
 exact ⟨(by rw [CQ (d:=7) (show sSyncGroupRequestF[0]? = _ from rfl) (by decide)]; exact Nat.le_trans (X4 _) (by decide)),(trivial),(by rw [CQ (d:=7) (show sSyncGroupRequestF[2]? = _ from rfl) (by decide)]; exact Nat.le_trans (X4 _) (by decide)),(Z8 (d:=7) (show sSyncGroupRequestF[3]? = _ from rfl) (by decide)),(Z8 (d:=7) (show sSyncGroupRequestF[4]? = _ from rfl) (by decide)),(Z8 (d:=7) (show sSyncGroupRequestF[5]? = _ from rfl) (by decide)),(⟨FS (d:=7) (show sSyncGroupRequestF[6]? = _ from rfl),IS (d:=7) (Q:=BC) (show sSyncGroupRequestF[6]? = _ from rfl) fun y=>by
   have h:=fit_10 (v:=v) (d:=7) (x1:=0) (x2:=-1) (x5:=0) (x6:=10) (s:=[(Fld.mk 8 0 (-1) (-1) (-1) 0 0 []),(Fld.mk 9 0 (-1) (-1) (-1) 0 0 [])]) (b:=Fld.nul (Fld.mk 10 0 (-1) (-1) (-1) 0 10 [(Fld.mk 8 0 (-1) (-1) (-1) 0 0 []),(Fld.mk 9 0 (-1) (-1) (-1) 0 0 [])]) v y) (x:=y)
   unfold BC
   simp only [h.1,h.2]
   exact ⟨(by rw [CQ (d:=6) (show [(Fld.mk 8 0 (-1) (-1) (-1) 0 0 []),(Fld.mk 9 0 (-1) (-1) (-1) 0 0 [])][0]? = _ from rfl) (by decide)]; exact Nat.le_trans (X4 _) (by decide)),(Z8 (d:=6) (show [(Fld.mk 8 0 (-1) (-1) (-1) 0 0 []),(Fld.mk 9 0 (-1) (-1) (-1) 0 0 [])][1]? = _ from rfl) (by decide)),(FR),(trivial)⟩⟩),(FR),(trivial)⟩
def Dn (d:DV):List Value:=[.string ((d.f 0).s),.slice ((d.f 1).A) ((d.f 1).o.length) ((d.f 1).c),.map d.m]
theorem NI:∀ d,∀ u ∈ Dn d,u.oneCell' = true:=fun d=>K6 kz
theorem U2:O1 S6:=by
 intro w w' F F' M d hs hM hF h
 unfold S6 at h ⊢
 obtain ⟨g0,⟨g1,g1l⟩,t1,t2,t3,_⟩:=h
 exact ⟨g0,⟨Octs.move g1 hs hM hF,g1l⟩,t1.move hs hM hF,t2,t3,trivial⟩
set_option maxHeartbeats 4000000 in
theorem NJ (ct:List Value) (t:Tree) (w:World) (F:Nat → Nat → Prop) (ht:TreeR w F ct t) (hc:BC t) :
  Calls Tryz.prog 63 #[.agg ct.toArray] w (fun e w'=>∃ D:DV,e = .returned (.agg #[.string ((D.f 0).s),.slice ((D.f 1).A) ((D.f 1).o.length) ((D.f 1).c),.map D.m]) ∧ S6 w' (Fp F w) D ∧ Cr D t ∧ Step w w' B5):=by
 obtain ⟨n1,s2,b3,l4,u5,A6,c7,A8,c9,bD,bE,cJ,rfl,rfl,cK,cL,dA,cq⟩:=ht.open_
 have cr:=cK.small
 have cu:=cL.small
 unfold BC at hc
 obtain ⟨cj0,cj1,cU,_⟩:=hc
 replace cj0:=Nat.le_trans cj0 (show 32767 ≤ 1000000 by decide)
 replace cj1:=Nat.le_trans cj1 (show 32767 ≤ 1000000 by decide)
 have hsort:=cU.1
 replace hsort:P7 u5:=hsort
 have hul:u5.length ≤ 1000000:=cU.2.1
 refine enter (n:=30) Tryz.func63 rfl Tryz.ntmps63 kz fun a hE=>?_
 have hW:=WOk.start w B5
 refine B8 [0,1] kz ?_
 let ac:Value:=.int .i64 n1
 let ae:Value:=.slice A6 s2.length c7
 let af:Value:=.bool b3
 let ag:Value:=.slice A8 l4.length c9
 let ah:Value:=.slice bD u5.length bE
 refine B1 (J1 hW hE (d:=1) (cs:=[ac,ae,af,ag,ah]) kz fun bF dB dC cM cN cO bG bH=>?_)
 let av:Value:=.string ByteArray.empty
 let al:Value:=.slice none 0 0
 let ai:Value:=.map none
 refine B1 (D7 bG bH (d:=2) (cs:=[av,al,ai]) kz fun aS dD dE cP cQ cR bI bJ=>?_)
 refine B4 (A7 ?_)
 refine B8 [0] kz ?_
 refine B1 (D7 bI bJ (d:=3) (cs:=[av,al,ai]) kz fun aJ dF dG cS cV cW ay bK=>?_)
 refine B4 (A7 ?_)
 refine B8 [0,1,2,3,4,5] kz ?_
 let aj:Nat × SV:=(2,.p 1 0)
 let am:Nat × SV:=(3,.p 2 0)
 let cw:Value:=(.agg #[.int .i64 n1,.slice A6 s2.length c7,.bool b3,.slice A8 l4.length c9,.slice bD u5.length bE])
 refine B3 [0] [1,2,3,4,5] [(1,.p 0 0),aj,am,(6,.v (.agg #[ac,ae,af,ag,ah]))] ay bK fun dH bM=>?_
 let cz:Value:=.agg #[.int .i64 n1,.slice A6 s2.length c7,.bool b3,.slice A8 l4.length c9,.slice bD u5.length bE]
 refine B1 (C3 bM (f:=61) (vs:=[.agg #[ac,ae,af,ag,ah],.int .i64 0]) (d:=7) kz Tryz.call61 (M8 _ _ 0 _ _ (ht.move ay.step B0 ay.imm)) ?_)
 rintro e_ dI ⟨cX,rfl,bN,aB⟩
 have aT:=bN.move aB B0 (fun b o h_ hb_=>ay.laid (G:=F) aB b o (.inl h_) (Nat.lt_of_lt_of_le hb_ aB.size))
 obtain ⟨dJ,aU,dK,dL,dM,cY,cZ,dN,dO,dP,dQ,da,aV,aK,cA,db,dR,dS⟩:=aT.open_
 rw [aK] at aT
 have cB:=cA.small
 have cC:=db.small
 rw [aK]
 refine ⟨_,rfl,fun dT bO=>?_⟩
 have aO:=ay.next_nil aB
 have dc:=ay.frN aB
 refine B3 [2] [3,4,5] [(1,.p 0 0),aj,am,(8,.v (.slice cY aU.length cZ))] aO bO fun dU bP=>?_
 refine B1 (V2 bP (src:=30) (dst:=9) (e:=5) (d:=9) kz kz kz kz cA fun dV bQ=>?_)
 refine B3 [4] [5] [(1,.p 0 0),aj,am,(9,.v (.string (bs aU))),(10,.p 2 0)] aO bQ fun dW bR=>?_
 let ab:Value:=.string (bs aU)
 refine B1 (C7 aO bR (oi:=2) (cs:=[ab,al,ai]) kz fun dX de aA bS=>?_)
 refine B4 (A7 ?_)
 refine B8 [0,1,2,3,4] kz ?_
 refine B3 [0] [1,2,3,4] [(1,.p 0 0),aj,am,(11,.v (.agg #[ac,ae,af,ag,ah]))] aA bS fun dY bT=>?_
 refine B1 (C3 bT (f:=61) (vs:=[.agg #[ac,ae,af,ag,ah],.int .i64 1]) (d:=12) kz Tryz.call61 (M8 _ _ 1 _ _ (ht.move aA.step B0 aA.imm)) ?_)
 rintro e_ dZ ⟨df,rfl,bU,aC⟩
 have aP:=bU.move aC B0 (fun b o h_ hb_=>aA.laid (G:=F) aC b o (.inl h_) (Nat.lt_of_lt_of_le hb_ aC.size))
 obtain ⟨dg,dh,di,dj,dl,dm,dn,bV,bW,bX,bY,cE,cG,aD,bZ,cd,dp,dq⟩:=aP.open_
 rw [aD] at aP
 have ce:=bZ.small
 have cg:=cd.small
 rw [aD]
 refine ⟨_,rfl,fun dr aW=>?_⟩
 have aE:=aA.next_nil aC
 have cH:=aA.frN aC
 refine B1 (C3 aW (f:=86) (vs:=[.agg #[.int .i64 dg,.slice dm dh.length dn,.bool di,.slice bV dj.length bW,.slice bX dl.length bY]]) (d:=13) kz Tryz.call86 (Gq _ (Tree.at_ (Tree.mk n1 s2 b3 l4 u5) 1) _ _ aP) ?_)
 rintro e_ dt ⟨aQ,aR,rfl,aX,aY,aF⟩
 have aZ:=aX.move (Step.refl _ B5) B0 (aE.laid (G:=F) aF)
 refine ⟨_,rfl,fun du ba=>?_⟩
 have aL:=aE.next_nil aF
 have cI:=aE.frN aF
 refine B3 [3] [4] [(1,.p 0 0),aj,am,(13,.v (.slice aQ ((B9 (Tree.at_ (Tree.mk n1 s2 b3 l4 u5) 1)).length) aR)),(14,.p 2 1)] aL ba fun dv bd=>?_
 let ak:Value:=.slice aQ ((B9 (Tree.at_ (Tree.mk n1 s2 b3 l4 u5) 1)).length) aR
 refine B1 (C7 aL bd (oi:=2) (cs:=[ab,ak,ai]) kz fun cm aM aw bf=>?_)
 refine B4 (A7 ?_)
 refine wp_seq ?_
 let ao:Nat × SV:=(16,.v (.slice bD u5.length bE))
 let ap:Nat × SV:=(17,.v (.int .i64 ((u5.length:Nat):Int)))
 refine C1 [aj,am,ao,ap,(18,.v (.int .i64 0))] aw bf fun dw bg=>?_
 refine wp_block ?_
 have bh:=Fv aw 2 rfl kz
 have bi:=bg.recast 2 (.p 1 0) (.v (.pointer (some ⟨aS,0,none⟩))) rfl rfl trivial
 have bj:=bi.recast 3 (.p 2 0) (.v (.pointer (some ⟨aJ,0,none⟩))) rfl rfl trivial
 let ar:Nat × SV:=(2,.v (.pointer (some ⟨aS,0,none⟩)))
 let au:Nat × SV:=(3,.v (.pointer (some ⟨aJ,0,none⟩)))
 have bk:=(bj.pick (ks:=[2,3,16,17,18]) (env':=[ar,au,ao,ap,(18,.v (.int .i64 0))]) kz).cutTb 0 kz
 refine wp_loop_ghost (fun q a_ w_=>∃ (j:Nat) (m_:Option Nat),q = u5.length - j ∧ j ≤ u5.length ∧ EnvOk 30 [] [ar,au,ao,ap,(18,.v (.int .i64 ((j:Nat):Int)))] a_ ∧ TL w cm w_ F aJ 2 [ab,ak,ai] m_ (u5.take j)) u5.length
  ⟨0,none,by omega,by omega,bk,TL.start aw 2 rfl rfl⟩ ?_
 rintro q aq wq ⟨j,m_,rfl,hj,hE2,hT⟩
 have hWq:=WOk.start wq B5
 let aG:Nat × SV:=(18,.v (.int .i64 ((j:Nat):Int)))
 refine C1 [ar,au,ao,ap,aG,(19,.v (.bool (decide (((j:Nat):Int) < ((u5.length:Nat):Int)))))] hWq hE2 fun aq2 hE3=>wp_seq ?_
 refine D8 hE3 (b:=decide (((j:Nat):Int) < ((u5.length:Nat):Int))) kz (fun hc=>?_) (fun hc=>?_)
 ·have hlt:j < u5.length:=by have:=of_decide_eq_true hc; omega
  refine wp_skip (A7 (wp_seq (wp_block ?_)))
  obtain ⟨⟨k,x⟩,hu⟩:∃ y,u5[j]? = some y:=⟨_,List.getElem?_eq_getElem hlt⟩
  obtain ⟨bb,bo,xA,xc,hA,hat,hxo,hk⟩:=DU cq hu
  refine B8 [0,1,2,3] kz ?_
  refine B1 (F2 hE3 (t:=47) (e:=88) (size:=2) (bytes:=32) (d:=20) (b:=bb) (o:=bo) (m:=u5.length) (j:=j) kz kz hA rfl hlt fun aq3 hE4=>?_)
  refine B1 (G7 hE4 (t:=88) (d:=21) (cs:=[.int .u32 k,.slice xA x.length xc]) (v:=.agg #[.int .u32 k,.slice xA x.length xc]) kz kz (hat.step_nil hT.step) fun aq4 hE5=>?_)
  refine B1 (D7 hWq hE5 (d:=5) (cs:=[.int .u32 0,al]) kz fun bx aq5 wq2 hbx hbx0 hFq2 hWq2 hE6=>?_)
  refine B1 (C7 hWq2 hE6 (oi:=0) (cs:=[.int .u32 k,.slice xA x.length xc]) kz fun wq3 hFq3 hWq3 hE7=>B4 (A7 ?_))
  refine D9 [0,1,2,3,4,5] kz (B3 [0,1,2,3,4] [5] [ar,au,ao,ap,aG,(22,.v (.pointer (some ⟨aJ,2,none⟩))),(24,.v (.int .u32 k)),(26,.v (.slice xA x.length xc))] hWq3 hE7 fun aq6 hE8=>?_)
  refine B1 (C3 hE8 (f:=64) (vs:=[.pointer (some ⟨aJ,2,none⟩),.int .u32 k,.slice xA x.length xc]) (d:=27) kz Tryz.call64 ((hT.move hWq3.step).set bh kz hsort hu hxo hk) ?_)
  rintro e_ wq5 ⟨rfl,hS5,r,hT5⟩
  refine ⟨_,rfl,fun aq7 hE9=>B4 (G2 (A7 ?_))⟩
  have cn:=(hE9.pick (ks:=[2,3,16,17,18]) (env':=[ar,au,ao,ap,aG]) kz).cutTb 0 kz
  refine D9 [0,1] kz (B3 [0,1] [] [ar,au,ao,ap,(18,.v (.int .i64 (IntKind.i64.wrap (((j:Nat):Int) + 1))))] (WOk.start wq5 B5) cn fun aq8 bn=>B4 (A7 ?_))
  rw [H1 (by omega)] at bn
  exact ⟨u5.length - (j + 1),by omega,j + 1,some r,rfl,by omega,bn,hT5⟩
 obtain rfl:j = u5.length:=by have:=of_decide_eq_false hc; omega
 refine wp_exit (E2 (E2 (G3 ?_)))
 rw [List.take_length] at hT
 obtain ⟨aH,aI⟩:=hT.tab aw 2 [⟨bF,0,[ac,ae,af,ag,ah],true⟩,⟨aS,0,[av,al,ai],true⟩,⟨aJ,0,[ab,ak,.map m_],true⟩] rfl
 have bp:=hT.mapImm aw aH aI hsort (Fu cq)
 have bq:=(hE3.retable [⟨bF,0,[ac,ae,af,ag,ah],true⟩,⟨aS,0,[av,al,ai],true⟩,⟨aJ,0,[ab,ak,.map m_],true⟩]).recast 2 (.v (.pointer (some ⟨aS,0,none⟩))) (.p 1 0) rfl rfl (Nat.le_of_ble_eq_true (n:=2) rfl)
 have bt:=bq.recast 3 (.v (.pointer (some ⟨aJ,0,none⟩))) (.p 2 0) rfl rfl (Nat.le_of_ble_eq_true (n:=3) rfl)
 have bu:EnvOk 30 [⟨bF,0,[ac,ae,af,ag,ah],true⟩,⟨aS,0,[av,al,ai],true⟩,⟨aJ,0,[ab,ak,.map m_],true⟩] [aj,am] _:=bt.pk
 refine A7 (B8 [0,1] kz ?_)
 refine B3 [0] [1] [aj,(29,.v (.agg #[ab,ak,.map m_]))] aH bu fun dx bw=>?_
 refine B1 (C7 aH bw (oi:=1) (cs:=[ab,ak,.map m_]) kz fun dy ax aN bz=>?_)
 refine B4 (A7 ?_)
 refine wp_ret (D5 bz aN.cells (v:=.agg #[ab,ak,.map m_]) kz ?_)
 refine ⟨J8 m_ u5 [O2 (bs aU),O3 aQ (B9 (Tree.at_ (Tree.mk n1 s2 b3 l4 u5) 1)) aR],rfl,?_,?_,aN.step⟩
 ·unfold S6
  exact ⟨by show ByteArray.size (bs aU) ≤ 1000000; rw [M6]; have h_:=cj0; rw [aV] at h_; exact h_,⟨((aZ.move ((aM.trans aI).trans ax).step immM ((aM.trans aI).trans ax).to').move (Step.refl _ B5) B0 G0),cj1⟩,((bp.move ax.step immM ax.to').move (Step.refl _ B5) B0 G0),cU.2.1,cU.2.2,trivial⟩
 unfold Cr
 exact ⟨by rw [aV]; rfl,⟨rfl,aY⟩,rfl,trivial⟩
def R1 (v:Int) (T:Tree):Bs:=H7 (IntKind.i16.wrap v) T
set_option maxHeartbeats 4000000 in
theorem NK (v:Int) (ct:List Value) (t:Tree) (w:World) (F:Nat → Nat → Prop) (ht:TreeR w F ct t) (hc:Y6 t) (hroom:(R1 v t).length + 16 ≤ 1099511627776) :
  Calls Tryz.prog 16 #[.int .i64 v,.agg ct.toArray] w (BU w 5 (R1 v t)):=by
 obtain ⟨n1,s2,b3,l4,u5,A6,c7,A8,c9,gq,gt,ka,rfl,rfl,kd,ke,nB,jm⟩:=ht.open_
 have jn:=kd.small
 have jo:=ke.small
 unfold Y6 at hc
 obtain ⟨cj0,cj1,cj2,cj3,cj4,cj5,⟨cj6,cj6e⟩,cU,_⟩:=hc
 replace cj0:=Nat.le_trans cj0 (show 32767 ≤ 1000000 by decide)
 replace cj2:=Nat.le_trans cj2 (show 32767 ≤ 1000000 by decide)
 replace cj3:=Nat.le_trans cj3 (show 32767 ≤ 1000000 by decide)
 replace cj4:=Nat.le_trans cj4 (show 32767 ≤ 1000000 by decide)
 replace cj5:=Nat.le_trans cj5 (show 32767 ≤ 1000000 by decide)
 replace cj6:=Nat.le_trans cj6 (show 32767 ≤ 1000000 by decide)
 have hsort:=cU.1
 replace hsort:P7 u5:=hsort
 have hul:u5.length ≤ 1000000:=cU.2.1
 refine enter (n:=17) Tryz.func16 rfl Tryz.ntmps16 kz fun a hE=>?_
 have hW:=WOk.start w B5
 refine B8 [0,1] kz ?_
 let ae:Value:=.int .i64 n1
 let af:Value:=.slice A6 s2.length c7
 let ag:Value:=.bool b3
 let ah:Value:=.slice A8 l4.length c9
 let ai:Value:=.slice gq u5.length gt
 refine B1 (J1 hW hE (d:=3) (cs:=[ae,af,ag,ah,ai]) kz fun kf nC nD kg kh ki dN gv=>?_)
 let cm:Nat × SV:=(0,.v (.int .i64 v))
 refine B3 [1] [] [cm,(3,.p 0 0)] dN gv fun nE gw=>?_
 refine B4 (A7 ?_)
 refine B8 [0,1,2] kz ?_
 let aA:Value:=.string ByteArray.empty
 let bi:Value:=.int .i32 0
 let aj:Value:=.pointer none
 let au:Value:=.slice none 0 0
 let al:Value:=.map none
 refine B3 [0] [1,2] [cm,(3,.p 0 0),(6,.v (.agg #[.int .i16 0,aA,bi,aA,aj,aj,aj,au,al]))] dN gw fun nF gy=>?_
 refine B1 (J1 dN gy (d:=7) (cs:=[.int .i16 0,aA,bi,aA,aj,aj,aj,au,al]) kz fun bf nG nH kj km ko dj gz=>?_)
 refine B3 [2] [] [cm,(3,.p 0 0),(5,.p 1 0)] dj gz fun nI gA=>?_
 refine B4 (A7 ?_)
 refine B8 [0,1,2,3] kz ?_
 refine B3 [0,1,2] [3] [(3,.p 0 0),(5,.p 1 0),(8,.p 1 0),(10,.v (.int .i16 (IntKind.i16.wrap v)))] dj gA fun nJ gB=>?_
 let cn:Value:=.pointer (some ⟨bf,0,none⟩)
 let ak:Value:=.int .i16 (IntKind.i16.wrap v)
 refine B1 (L6 gB (f:=32) (vs:=[cn,ak]) (d:=11) (n':=8) kz Tryz.call32 Tryz.func32 rfl Tryz.ntmps32 kz fun nK gC=>?_)
 have gD:=gC.recast 0 (.v (.pointer (some ⟨bf,0,none⟩))) (.p 1 0) rfl rfl (Nat.le_of_ble_eq_true (n:=2) rfl)
 refine D9 [0,1,2,3,4] kz ?_
 refine B3 [0,1,2,3] [4] [(5,.v (.int .i16 (IntKind.i16.wrap v))),(7,.p 1 0)] dj gD fun nL gE=>?_
 refine B1 (C7 dj gE (oi:=1) (cs:=[ak,aA,bi,aA,aj,aj,aj,au,al]) kz fun nM kp dO gF=>?_)
 refine B4 (M3 gF dO.cells (v:=.tuple #[]) kz ?_)
 refine ⟨_,rfl,fun nN gG=>?_⟩
 let aB:Ob:=⟨kf,0,[ae,af,ag,ah,ai],true⟩
 have gH:EnvOk 17 [aB,⟨bf,0,[ak,aA,bi,aA,aj,aj,aj,au,al],true⟩] [(11,.v (.tuple #[])),(3,.p 0 0),(5,.p 1 0),(8,.p 1 0),(10,.v (.int .i16 (IntKind.i16.wrap v)))] _:=gG.places (⟨rfl,rfl,⟨rfl,rfl,trivial⟩⟩)
 refine B4 (A7 ?_)
 refine B8 [0,1,2] kz ?_
 let jp:Value:=(.agg #[.int .i64 n1,.slice A6 s2.length c7,.bool b3,.slice A8 l4.length c9,.slice gq u5.length gt])
 let dn:Nat × SV:=(13,.v (.agg #[ae,af,ag,ah,ai]))
 refine B3 [0,1] [2] [(5,.p 1 0),(12,.p 1 0),dn] dO gH fun nO gI=>?_
 let jq:Value:=.agg #[.int .i64 n1,.slice A6 s2.length c7,.bool b3,.slice A8 l4.length c9,.slice gq u5.length gt]
 refine B1 (L6 gI (f:=35) (vs:=[cn,.agg #[ae,af,ag,ah,ai]]) (d:=14) (n':=95) kz Tryz.call35 Tryz.func35 rfl Tryz.ntmps35 kz fun nP gJ=>?_)
 have gK:=gJ.recast 0 (.v (.pointer (some ⟨bf,0,none⟩))) (.p 1 0) rfl rfl (Nat.le_of_ble_eq_true (n:=2) rfl)
 refine B8 [0] kz ?_
 refine B1 (J1 dO gK (d:=3) (cs:=[ae,af,ag,ah,ai]) kz fun kq nQ GM ku kv kw bZ gL=>?_)
 refine B4 (A7 ?_)
 refine B8 [0,1,2,3,4,5,6,7] kz ?_
 let ab:Nat × SV:=(0,.p 1 0)
 let ac:Nat × SV:=(3,.p 2 0)
 refine B3 [0,1] [2,3,4,5,6,7] [ab,ac,(8,.p 1 0),(9,.v (.agg #[ae,af,ag,ah,ai]))] bZ gL fun nR gM=>?_
 refine B1 (C3 gM (f:=61) (vs:=[.agg #[ae,af,ag,ah,ai],.int .i64 0]) (d:=10) kz Tryz.call61 (M8 _ _ 0 _ _ (ht.move bZ.step B0 bZ.imm)) ?_)
 rintro e_ nS ⟨ky,rfl,gN,cq⟩
 have dR:=gN.move cq B0 (fun b o h_ hb_=>bZ.laid (G:=F) cq b o (.inl h_) (Nat.lt_of_lt_of_le hb_ cq.size))
 obtain ⟨nT,cr,nU,nV,nW,kA,kB,nX,nY,nZ,n0,kC,dS,dp,jr,kD,n4,n5⟩:=dR.open_
 rw [dp] at dR
 have js:=jr.small
 have jt:=kD.small
 rw [dp]
 refine ⟨_,rfl,fun n8 gO=>?_⟩
 have dP:=bZ.next_nil cq
 have ju:=bZ.frN cq
 refine B3 [3] [4,5,6,7] [ab,ac,(8,.p 1 0),(11,.v (.slice kA cr.length kB))] dP gO fun kE dT=>?_
 refine B1 (V2 dT (src:=30) (dst:=9) (e:=5) (d:=12) kz kz kz kz jr fun kF dU=>?_)
 refine B3 [5,6] [7] [ab,ac,(12,.v (.string (bs cr))),(14,.p 1 1)] dP dU fun kG dV=>?_
 let am:Value:=.string (bs cr)
 refine B1 (C7 dP dV (oi:=1) (cs:=[ak,am,bi,aA,aj,aj,aj,au,al]) kz fun kH jv aQ dW=>?_)
 refine B4 (A7 ?_)
 refine B8 [0,1,2,3,4,5,6,7] kz ?_
 refine B3 [0,1] [2,3,4,5,6,7] [ab,ac,(15,.p 1 0),(16,.v (.agg #[ae,af,ag,ah,ai]))] aQ dW fun kI dX=>?_
 refine B1 (C3 dX (f:=61) (vs:=[.agg #[ae,af,ag,ah,ai],.int .i64 1]) (d:=17) kz Tryz.call61 (M8 _ _ 1 _ _ (ht.move aQ.step B0 aQ.imm)) ?_)
 rintro e_ kJ ⟨jw,rfl,dY,bj⟩
 have dq:=dY.move bj B0 (fun b o h_ hb_=>aQ.laid (G:=F) bj b o (.inl h_) (Nat.lt_of_lt_of_le hb_ bj.size))
 obtain ⟨bg,kK,kM,kN,kP,kQ,kR,kS,kU,kV,kW,jx,dZ,cu,gP,gQ,kX,kY⟩:=dq.open_
 rw [cu] at dq
 have gR:=gP.small
 have gS:=gQ.small
 rw [cu]
 refine ⟨_,rfl,fun kZ d5=>?_⟩
 have dr:=aQ.next_nil bj
 have jy:=aQ.frN bj
 refine B3 [3,4,5,6] [7] [ab,ac,(19,.v (.int .i32 (IntKind.i32.wrap bg))),(21,.p 1 2)] dr d5 fun k7 d6=>?_
 let ap:Value:=.int .i32 (IntKind.i32.wrap bg)
 refine B1 (C7 dr d6 (oi:=1) (cs:=[ak,am,ap,aA,aj,aj,aj,au,al]) kz fun la jz aR d7=>?_)
 refine B4 (A7 ?_)
 refine B8 [0,1,2,3,4,5,6,7] kz ?_
 refine B3 [0,1] [2,3,4,5,6,7] [ab,ac,(22,.p 1 0),(23,.v (.agg #[ae,af,ag,ah,ai]))] aR d7 fun lb d8=>?_
 refine B1 (C3 d8 (f:=61) (vs:=[.agg #[ae,af,ag,ah,ai],.int .i64 2]) (d:=24) kz Tryz.call61 (M8 _ _ 2 _ _ (ht.move aR.step B0 aR.imm)) ?_)
 rintro e_ lc ⟨jA,rfl,d9,bk⟩
 have dt:=d9.move bk B0 (fun b o h_ hb_=>aR.laid (G:=F) bk b o (.inl h_) (Nat.lt_of_lt_of_le hb_ bk.size))
 obtain ⟨ld,aI,lf,lg,lh,gT,gU,li,lj,lm,ln,jB,du,cw,ea,gV,lp,lq⟩:=dt.open_
 rw [cw] at dt
 have gW:=ea.small
 have gX:=gV.small
 rw [cw]
 refine ⟨_,rfl,fun lr eb=>?_⟩
 have cz:=aR.next_nil bk
 have jC:=aR.frN bk
 refine B3 [3] [4,5,6,7] [ab,ac,(22,.p 1 0),(25,.v (.slice gT aI.length gU))] cz eb fun ls ec=>?_
 refine B1 (V2 ec (src:=30) (dst:=9) (e:=5) (d:=26) kz kz kz kz ea fun lu ee=>?_)
 refine B3 [5,6] [7] [ab,ac,(26,.v (.string (bs aI))),(28,.p 1 3)] cz ee fun lv ef=>?_
 let ar:Value:=.string (bs aI)
 refine B1 (C7 cz ef (oi:=1) (cs:=[ak,am,ap,ar,aj,aj,aj,au,al]) kz fun lw jD aS eg=>?_)
 refine B4 (A7 ?_)
 refine B8 [0,1,2,3,4,5,6] kz ?_
 refine B3 [0,1] [2,3,4,5,6] [ab,ac,(29,.p 1 0),(30,.v (.agg #[ae,af,ag,ah,ai]))] aS eg fun lx eh=>?_
 refine B1 (C3 eh (f:=61) (vs:=[.agg #[ae,af,ag,ah,ai],.int .i64 3]) (d:=31) kz Tryz.call61 (M8 _ _ 3 _ _ (ht.move aS.step B0 aS.imm)) ?_)
 rintro e_ ly ⟨jE,rfl,ei,bn⟩
 have cA:=ei.move bn B0 (fun b o h_ hb_=>aS.laid (G:=F) bn b o (.inl h_) (Nat.lt_of_lt_of_le hb_ bn.size))
 obtain ⟨gY,gZ,g9,hC,hJ,hK,hY,hZ,ia,ib,ic,jF,jG,cB,ig,ii,lz,lA⟩:=cA.open_
 rw [cB] at cA
 have ij:=ig.small
 have ik:=ii.small
 rw [cB]
 refine ⟨_,rfl,fun lB ej=>?_⟩
 have cC:=aS.next_nil bn
 have jH:=aS.frN bn
 refine B1 (C3 ej (f:=62) (vs:=[.agg #[.int .i64 gY,.slice hK gZ.length hY,.bool g9,.slice hZ hC.length ia,.slice ib hJ.length ic]]) (d:=32) kz Tryz.call62 (Db _ (Tree.at_ (Tree.mk n1 s2 b3 l4 u5) 3) _ _ cA) ?_)
 rintro e_ lC ⟨aN,rfl,ek,em,cE⟩
 have eo:∀ ad,aN = some ad → ∃ b o,ad = ⟨b,o,none⟩ ∧ AtF _ _ b o [.string (bs (B9 (Tree.at_ (Tree.mk n1 s2 b3 l4 u5) 3)))]:=fun ad h=>by
   obtain ⟨b,o,g1,g2⟩:=ek ad h
   exact ⟨b,o,g1,g2.move (Step.refl _ B5) B0 (cC.laid (G:=F) cE)⟩
 refine ⟨_,rfl,fun lD eu=>?_⟩
 have dv:=cC.next_nil cE
 have jI:=cC.frN cE
 refine B3 [4,5] [6] [ab,ac,(32,.v (.pointer aN)),(34,.p 1 4)] dv eu fun lE ev=>?_
 let av:Value:=.pointer aN
 refine B1 (C7 dv ev (oi:=1) (cs:=[ak,am,ap,ar,av,aj,aj,au,al]) kz fun lF dw aT ew=>?_)
 refine B4 (A7 ?_)
 refine B8 [0,1,2,3,4,5,6] kz ?_
 refine B3 [0,1] [2,3,4,5,6] [ab,ac,(35,.p 1 0),(36,.v (.agg #[ae,af,ag,ah,ai]))] aT ew fun lG ey=>?_
 refine B1 (C3 ey (f:=61) (vs:=[.agg #[ae,af,ag,ah,ai],.int .i64 4]) (d:=37) kz Tryz.call61 (M8 _ _ 4 _ _ (ht.move aT.step B0 aT.imm)) ?_)
 rintro e_ lH ⟨jJ,rfl,ez,bp⟩
 have cG:=ez.move bp B0 (fun b o h_ hb_=>aT.laid (G:=F) bp b o (.inl h_) (Nat.lt_of_lt_of_le hb_ bp.size))
 obtain ⟨il,im,io,ip,iq,ir,iu,iv,iw,ix,iy,jK,jL,cH,iz,iA,lI,lJ⟩:=cG.open_
 rw [cH] at cG
 have iB:=iz.small
 have iC:=iA.small
 rw [cH]
 refine ⟨_,rfl,fun lK eB=>?_⟩
 have cI:=aT.next_nil bp
 have dx:=aT.frN bp
 refine B1 (C3 eB (f:=62) (vs:=[.agg #[.int .i64 il,.slice ir im.length iu,.bool io,.slice iv ip.length iw,.slice ix iq.length iy]]) (d:=38) kz Tryz.call62 (Db _ (Tree.at_ (Tree.mk n1 s2 b3 l4 u5) 4) _ _ cG) ?_)
 rintro e_ lL ⟨aO,rfl,eC,eD,cJ⟩
 have eE:∀ ad,aO = some ad → ∃ b o,ad = ⟨b,o,none⟩ ∧ AtF _ _ b o [.string (bs (B9 (Tree.at_ (Tree.mk n1 s2 b3 l4 u5) 4)))]:=fun ad h=>by
   obtain ⟨b,o,g1,g2⟩:=eC ad h
   exact ⟨b,o,g1,g2.move (Step.refl _ B5) B0 (cI.laid (G:=F) cJ)⟩
 refine ⟨_,rfl,fun lM eF=>?_⟩
 have dy:=cI.next_nil cJ
 have dA:=cI.frN cJ
 refine B3 [4,5] [6] [ab,ac,(38,.v (.pointer aO)),(40,.p 1 5)] dy eF fun lN eG=>?_
 let aw:Value:=.pointer aO
 refine B1 (C7 dy eG (oi:=1) (cs:=[ak,am,ap,ar,av,aw,aj,au,al]) kz fun lO bS aU eH=>?_)
 refine B4 (A7 ?_)
 refine B8 [0,1,2,3,4,5,6] kz ?_
 refine B3 [0,1] [2,3,4,5,6] [ab,ac,(41,.p 1 0),(42,.v (.agg #[ae,af,ag,ah,ai]))] aU eH fun lP eI=>?_
 refine B1 (C3 eI (f:=61) (vs:=[.agg #[ae,af,ag,ah,ai],.int .i64 5]) (d:=43) kz Tryz.call61 (M8 _ _ 5 _ _ (ht.move aU.step B0 aU.imm)) ?_)
 rintro e_ lQ ⟨jM,rfl,eJ,bq⟩
 have cK:=eJ.move bq B0 (fun b o h_ hb_=>aU.laid (G:=F) bq b o (.inl h_) (Nat.lt_of_lt_of_le hb_ bq.size))
 obtain ⟨iD,iE,iF,iG,iH,iI,iJ,iK,iL,iM,iN,jN,jO,cL,iO,iP,lR,lS⟩:=cK.open_
 rw [cL] at cK
 have iQ:=iO.small
 have iR:=iP.small
 rw [cL]
 refine ⟨_,rfl,fun lT eK=>?_⟩
 have cM:=aU.next_nil bq
 have bT:=aU.frN bq
 refine B1 (C3 eK (f:=62) (vs:=[.agg #[.int .i64 iD,.slice iI iE.length iJ,.bool iF,.slice iK iG.length iL,.slice iM iH.length iN]]) (d:=44) kz Tryz.call62 (Db _ (Tree.at_ (Tree.mk n1 s2 b3 l4 u5) 5) _ _ cK) ?_)
 rintro e_ lU ⟨aP,rfl,eM,eN,cN⟩
 have eO:∀ ad,aP = some ad → ∃ b o,ad = ⟨b,o,none⟩ ∧ AtF _ _ b o [.string (bs (B9 (Tree.at_ (Tree.mk n1 s2 b3 l4 u5) 5)))]:=fun ad h=>by
   obtain ⟨b,o,g1,g2⟩:=eM ad h
   exact ⟨b,o,g1,g2.move (Step.refl _ B5) B0 (cM.laid (G:=F) cN)⟩
 refine ⟨_,rfl,fun lV eP=>?_⟩
 have dB:=cM.next_nil cN
 have bU:=cM.frN cN
 refine B3 [4,5] [6] [ab,ac,(44,.v (.pointer aP)),(46,.p 1 6)] dB eP fun lW eQ=>?_
 let ax:Value:=.pointer aP
 refine B1 (C7 dB eQ (oi:=1) (cs:=[ak,am,ap,ar,av,aw,ax,au,al]) kz fun lX aV aW eR=>?_)
 refine B4 (A7 ?_)
 refine wp_seq (B8 [0,1,2,3] kz ?_)
 refine B3 [0] [1,2,3] [ab,ac,(47,.v (.agg #[ae,af,ag,ah,ai]))] aW eR fun lY eS=>?_
 refine B1 (C3 eS (f:=61) (vs:=[.agg #[ae,af,ag,ah,ai],.int .i64 6]) (d:=48) kz Tryz.call61 (M8 _ _ 6 _ _ (ht.move aW.step B0 aW.imm)) ?_)
 rintro e_ lZ ⟨jP,rfl,eU,bt⟩
 have dC:=eU.move bt B0 (fun b o h_ hb_=>aW.laid (G:=F) bt b o (.inl h_) (Nat.lt_of_lt_of_le hb_ bt.size))
 obtain ⟨l3,l5,dl,l6,l7,l8,l9,ma,mc,md,me,jQ,dD,cO,iS,iT,mf,mg⟩:=dC.open_
 rw [cO] at dC
 have iU:=iS.small
 have iV:=iT.small
 rw [cO]
 refine ⟨_,rfl,fun mh eV=>?_⟩
 have aC:=aW.next_nil bt
 have aX:=aW.frN bt
 refine B3 [2,3] [] [ab,ac,(50,.v (.bool (!dl)))] aC eV fun mi cP=>?_
 refine B4 (A7 ?_)
 let aD:Ob:=⟨kq,0,[ae,af,ag,ah,ai],true⟩
 refine CT (Mid:=fun a_ w_=>∃ (A_:Option Addr) (c_:Nat) (f_:Nat → DV),A_.isNone = Tree.null (Tree.at_ (Tree.mk n1 s2 b3 l4 u5) 6) ∧ LstR w_ (D4 F w w_ [aB,⟨bf,0,[ak,am,ap,ar,av,aw,ax,.slice A_ ((lst (Tree.at_ (Tree.mk n1 s2 b3 l4 u5) 6)).length) c_,al],true⟩,aD] []) 3 Dn S6 Cr A_ c_ f_ (lst (Tree.at_ (Tree.mk n1 s2 b3 l4 u5) 6)) ∧ F1 aC 95 [aB,⟨bf,0,[ak,am,ap,ar,av,aw,ax,.slice A_ ((lst (Tree.at_ (Tree.mk n1 s2 b3 l4 u5) 6)).length) c_,al],true⟩,aD] [] [ab,ac] a_ w_) ?_ ?_
 ·
  refine D8 cP (b:=!dl) kz (fun cQ=>?_) (fun cQ=>?_)
  ·
   have hnull_:Tree.null (Tree.at_ (Tree.mk n1 s2 b3 l4 u5) 6) = false:=by rw [dD]; show dl = false; simpa using cQ
   refine B8 [0,1,2,3,4,5,6,7,8] kz ?_
   refine B3 [0,1] [2,3,4,5,6,7,8] [ab,ac,(51,.p 1 0),(52,.v (.agg #[ae,af,ag,ah,ai]))] aC cP fun mj eW=>?_
   refine B1 (C3 eW (f:=61) (vs:=[.agg #[ae,af,ag,ah,ai],.int .i64 6]) (d:=53) kz Tryz.call61 (M8 _ _ 6 _ _ (ht.move aC.step B0 aC.imm)) ?_)
   rintro e_ ml ⟨jR,rfl,eX,bu⟩
   have dE:=eX.move bu B0 (fun b o h_ hb_=>aC.laid (G:=F) bu b o (.inl h_) (Nat.lt_of_lt_of_le hb_ bu.size))
   obtain ⟨mn,mo,mp,bQ,mq,mr,mt,mu,mw,mx,my,jS,eY,cR,iW,iX,mz,mA⟩:=dE.open_
   rw [cR] at dE
   have iY:=iW.small
   have iZ:=iX.small
   rw [cR]
   refine ⟨_,rfl,fun mB eZ=>?_⟩
   have dF:=aC.next_nil bu
   have e9:=aC.frN bu
   have hl3_:lst (Tree.at_ (Tree.mk n1 s2 b3 l4 u5) 6) = bQ:=by rw [Ce hnull_,eY]; rfl
   have jT:bQ.length ≤ 1000000:=by have h_:=cj6; rw [hl3_] at h_; exact h_
   refine B3 [3,4] [5,6,7,8] [ab,ac,(51,.p 1 0),(55,.v (.int .i64 ((bQ.length:Nat):Int)))] dF eZ fun mC fa=>?_
   refine B1 (CE dF fa (d:=56) (j:=bQ.length) (t:=77) (e:=110) (size:=3) (bytes:=48) kz kz rfl (rfl) (by omega) fun dQ mD mF jU jV fb dG fe=>?_)
   refine B3 [6,7] [8] [ab,ac,(56,.v (.slice (some ⟨dQ,0,none⟩) 0 bQ.length)),(58,.p 1 7)] dG fe fun mG ff=>?_
   refine B1 (C7 dG ff (oi:=1) (cs:=[ak,am,ap,ar,av,aw,ax,.slice (some ⟨dQ,0,none⟩) 0 bQ.length,al]) kz fun mH fg aY fh=>?_)
   refine B4 (A7 ?_)
   refine B8 [0,1,2,3,4] kz ?_
   refine B3 [0] [1,2,3,4] [ab,ac,(59,.v (.agg #[ae,af,ag,ah,ai]))] aY fh fun mI fi=>?_
   refine B1 (C3 fi (f:=61) (vs:=[.agg #[ae,af,ag,ah,ai],.int .i64 6]) (d:=60) kz Tryz.call61 (M8 _ _ 6 _ _ (ht.move aY.step B0 aY.imm)) ?_)
   rintro e_ mJ ⟨jW,rfl,fj,bw⟩
   have dH:=fj.move bw B0 (fun b o h_ hb_=>aY.laid (G:=F) bw b o (.inl h_) (Nat.lt_of_lt_of_le hb_ bw.size))
   obtain ⟨mK,mL,mM,ao,mN,mO,mQ,bh,bz,mR,mS,jX,fk,cS,i6,fl,i7,mT⟩:=dH.open_
   rw [cS] at dH
   have ja:=i6.small
   have jb:=fl.small
   rw [cS]
   refine ⟨_,rfl,fun mU fm=>?_⟩
   have cV:=aY.next_nil bw
   have fo:=aY.frN bw
   have hl3_:lst (Tree.at_ (Tree.mk n1 s2 b3 l4 u5) 6) = ao:=by rw [Ce hnull_,fk]; rfl
   have jY:ao.length ≤ 1000000:=by have h_:=cj6; rw [hl3_] at h_; exact h_
   refine B3 [2,3,4] [] [ab,ac,(61,.v (.slice bh ao.length bz)),(62,.v (.int .i64 ((ao.length:Nat):Int))),(63,.v (.int .i64 0))] cV fm fun mV fq=>?_
   refine B4 (A7 ?_)
   refine wp_block (wp_loop_ghost (fun n_ a_ w_=>∃ (k:Nat) (A_:Option Addr) (c_:Nat) (xs_:List Value) (ds_:List DV),n_ = ao.length - k ∧ k ≤ ao.length ∧ (A_.isNone = false) ∧ (RowL w_ (D4 F w w_ [aB,⟨bf,0,[ak,am,ap,ar,av,aw,ax,.slice A_ k c_,al],true⟩,aD] [⟨A_,c_,110,3,k,xs_⟩]) 3 Dn S6 Cr xs_ ds_ (ao.take k)) ∧ F1 cV 95 [aB,⟨bf,0,[ak,am,ap,ar,av,aw,ax,.slice A_ k c_,al],true⟩,aD] [⟨A_,c_,110,3,k,xs_⟩] [ab,ac,(61,.v (.slice bh ao.length bz)),(62,.v (.int .i64 ((ao.length:Nat):Int))),(63,.v (.int .i64 ((k:Nat):Int)))] a_ w_) (ao.length) ⟨0,(some ⟨dQ,0,none⟩),bQ.length,[],[],by omega,by omega,rfl,RowL.nil U2,fq.pk,cV,Fr.refl _ _ _⟩ ?_)
   rintro mW mX mY ⟨k,A_,c_,xs_,ds_,jZ,j0,hA,hR,fr,bV,aZ⟩
   let bW:Nat × SV:=(63,.v (.int .i64 ((k:Nat):Int)))
   refine C1 [ab,ac,(61,.v (.slice bh ao.length bz)),(62,.v (.int .i64 ((ao.length:Nat):Int))),bW,(64,.v (.bool (decide (((k:Nat):Int) < ((ao.length:Nat):Int)))))] bV fr fun mZ cW=>?_
   refine wp_seq (D8 cW (b:=decide (((k:Nat):Int) < ((ao.length:Nat):Int))) kz (fun cX=>?_) (fun cX=>?_))
   ·
    have j1:=of_decide_eq_true cX
    refine wp_skip (A7 (wp_seq (wp_block (B8 [0,1,2,3] kz ?_))))
    obtain ⟨jc,jd,ft,j2,cY⟩:=Slots.get fl (i:=k) (by omega)
    obtain ⟨je,cZ⟩:∃ x,ao[k]? = some x:=⟨_,List.getElem?_eq_getElem (by omega)⟩
    have da:=i7 k je cZ
    obtain ⟨fu,fv,cd,fw,fx,fy,fA,fB,fC,fD,fE,j3,rfl,db,jf,jg,m4,m5⟩:=da.open_
    rw [db] at da
    have jh:=jf.small
    have ji:=jg.small
    rw [db] at cY
    refine B1 (F2 cW (t:=46) (A:=bh) (m:=ao.length) (q:=((k:Nat):Int)) (d:=65) kz (e:=49) (size:=5) (bytes:=88) kz ft rfl (by omega) fun m6 fF=>?_)
    let bD:Value:=.int .i64 fu
    let bE:Value:=.slice fy fv.length fA
    let bF:Value:=.slice fB fw.length fC
    let bG:Value:=.slice fD fx.length fE
    let j4:Value:=.agg #[.int .i64 fu,.slice fy fv.length fA,.bool cd,.slice fB fw.length fC,.slice fD fx.length fE]
    refine B1 (G7 fF (t:=49) (b:=jc) (o:=jd + k * 5) (d:=66) kz (cs:=[bD,bE,.bool cd,bF,bG]) (v:=.agg #[bD,bE,.bool cd,bF,bG]) kz (AtF.move cY aZ.step immM aZ.to').at_ fun m7 fG=>?_)
    refine B1 (D7 bV fG (d:=5) (cs:=[.int .i64 0,au,.bool false,au,au]) kz fun m8 m9 nf j5 j6 bH fH fI=>?_)
    refine B1 (C7 fH fI (oi:=3) (cs:=[bD,bE,.bool cd,bF,bG]) kz fun ng bI fJ fK=>?_)
    refine B4 (A7 ?_)
    refine P5 11 kz fJ fun nh bJ dc fL=>?_
    refine D6 [0,1,2,3,4,5] [ab,ac,(61,.v (.slice bh ao.length bz)),(62,.v (.int .i64 ((ao.length:Nat):Int))),bW,(67,.p 1 0),(71,.v (.slice A_ k c_)),(72,.v (.agg #[bD,bE,.bool cd,bF,bG]))] 6 (C0 (B2 (B2 (C0 (B2 C6))))) (fun _ h=>h.cells) fL fK fun ni fM=>?_
    refine C9 (i:=6) kz (C3 fM (f:=63) (vs:=[.agg #[bD,bE,.bool cd,bF,bG]]) (d:=73) kz Tryz.call63 (NJ _ _ _ _ (da.move (((aZ.trans bH).trans bI).trans bJ).step immM (((aZ.trans bH).trans bI).trans bJ).to') (cj6e _ (by rw [hl3_]; exact List.mem_of_getElem? cZ))) ?_)
    rintro e_ nj ⟨aE,rfl,fN,dm,de⟩
    have fO:=U2 _ (Step.refl _ B5) B0 (dc.laid (G:=F) de) fN
    refine ⟨_,rfl,fun nk fP=>?_⟩
    have dI:=dc.next_nil de
    have aJ:=dc.frN de
    have fQ:=TT.ofW aJ dI
    refine ⟨fun _=>fQ,?_⟩
    let df:Value:=.string ((aE.f 0).s)
    let dg:Value:=.slice ((aE.f 1).A) ((aE.f 1).o.length) ((aE.f 1).c)
    refine C9 (i:=7) kz (G4 dI fP (e:=110) (size:=3) (len:=1) (cs:=[df,dg,.map aE.m]) (d:=74) kz kz fun jj nl nm j7 j8 aF bX fR=>?_)
    have fS:=TT.ofW (aJ.trans aF) bX
    refine ⟨fun _=>fS,?_⟩
    refine C9 (i:=8) kz (I7 bX fR (k:=0) (d:=75) (t:=77) (e:=110) (size:=3) (bytes:=48) (A:=A_) (As:=(some ⟨jj,0,none⟩)) (m0:=k) (c:=c_) (m:=1) (cs:=1) (xs:=xs_) (news:=[df,dg,.map aE.m]) kz kz rfl (M5 (bX.own 1 _ rfl) (K6 kz)) (N7 (bX.own 1 _ rfl)) (by omega) fun ce cg np nr aK bY fT=>?_)
    have fV:=TT.ofW ((aJ.trans aF).trans aK) bY
    refine ⟨fun _=>fV,?_⟩
    refine C9 (i:=9) kz (T5 [0,3,61,62,63,75,76] bY.cells fT (env':=[ab,ac,(61,.v (.slice bh ao.length bz)),(62,.v (.int .i64 ((ao.length:Nat):Int))),bW,(75,.v (.slice ce (k + 1) cg)),(76,.p 1 0)]) kz fun ns fW=>?_)
    have dJ:=TT.ofW ((aJ.trans aF).trans aK) bY
    refine ⟨fun _=>dJ,?_⟩
    refine D6 [10] [ab,ac,(61,.v (.slice bh ao.length bz)),(62,.v (.int .i64 ((ao.length:Nat):Int))),bW,(75,.v (.slice ce (k + 1) cg)),(77,.p 1 7)] 1 (C0 (B2 (B2 (C0 (B2 C6))))) (fun _ h=>h.cells) dJ fW fun nt fX=>?_
    refine C9 (i:=11) kz (C7 bY fX (oi:=1) (cs:=[ak,am,ap,ar,av,aw,ax,.slice ce (k + 1) cg,al]) kz fun nu bK dK fY=>?_)
    refine ⟨fun h=>absurd rfl h,?_⟩
    refine F3 kz ?_ _
    refine G2 (A7 (D9 [0,1] kz ?_))
    refine B3 [0,1] [] [ab,ac,(61,.v (.slice bh ao.length bz)),(62,.v (.int .i64 ((ao.length:Nat):Int))),(63,.v (.int .i64 (IntKind.i64.wrap (((k:Nat):Int) + 1))))] dK fY fun nv fZ=>?_
    refine B4 (A7 ?_)
    obtain ⟨dL,f5,bM⟩:=dK.cutB fZ 3 [aB,⟨bf,0,[ak,am,ap,ar,av,aw,ax,.slice ce (k + 1) cg,al],true⟩,aD] [ab,ac,(61,.v (.slice bh ao.length bz)),(62,.v (.int .i64 ((ao.length:Nat):Int))),(63,.v (.int .i64 (IntKind.i64.wrap (((k:Nat):Int) + 1))))]
    obtain ⟨dM,bN⟩:=f5.cutR 1 [⟨ce,cg,110,3,k + 1,xs_ ++ [df,dg,.map aE.m]⟩]
    have f7:IntKind.i64.wrap (((k:Nat):Int) + 1) = ((k + 1:Nat):Int):=H1 (by omega)
    rw [f7] at dL
    exact ⟨ao.length - (k + 1),by omega,k + 1,ce,cg,xs_ ++ [Value.string ((aE.f 0).s),.slice ((aE.f 1).A) ((aE.f 1).o.length) ((aE.f 1).c),.map aE.m],(ds_ ++ [aE]),rfl,by omega,FX dM (k:=0) rfl (by omega),RowL.snoc (d:=aE) (hR.move ((((((((bH.trans bI).trans bJ).trans aJ).trans aF).trans aK).trans bK).trans bM).trans bN).step immM ((((((((bH.trans bI).trans bJ).trans aJ).trans aF).trans aK).trans bK).trans bM).trans bN).to') cZ rfl (U2 _ ((((aF.trans aK).trans bK).trans bM).trans bN).step immM ((((aF.trans aK).trans bK).trans bM).trans bN).to' fO) dm,dL.pk,dM,(((((((((aZ.trans bH).trans bI).trans bJ).trans aJ).trans aF).trans aK).trans bK).trans bM).trans bN)⟩
   have j9:=of_decide_eq_false cX
   refine wp_exit (E2 (E2 (G3 (A7 ?_))))
   have hk_:k = (lst (Tree.at_ (Tree.mk n1 s2 b3 l4 u5) 6)).length:=by rw [hl3_]; omega
   subst k
   have hL_:=LstR.of bV (k:=0) (rs':=[]) rfl hR (by rw [hl3_]) NI (by omega)
   rw [← hl3_] at hL_
   obtain ⟨f8,f9⟩:=bV.cutR 0 []
   exact ⟨_,_,_,by rw [hnull_]; exact hA,hL_,cW.pk,f8,(((((e9.trans fb).trans fg).trans fo).trans aZ).trans f9)⟩
  refine wp_skip (A7 ?_)
  have hn_:Tree.null (Tree.at_ (Tree.mk n1 s2 b3 l4 u5) 6) = true:=by rw [dD]; show dl = true; simpa using cQ
  have hl_:=FW hn_
  exact ⟨none,0,fun _=>S2,by rw [hn_]; rfl,by rw [hl_]; exact LstR.nil U2,by rw [hl_]; exact ⟨cP.pk,aC,Fr.refl _ _ _⟩⟩
 rintro nw jk ⟨aG,aH,bR,ga,dh,gb,bO,ba⟩
 let aL:Nat × SV:=(80,.v (.slice gq u5.length gt))
 let aM:Nat × SV:=(81,.v (.int .i64 ((u5.length:Nat):Int)))
 refine C1 [ab,aL,aM,(82,.v (.int .i64 0))] bO gb fun nx gc=>?_
 refine wp_block ?_
 have gd:=Fv bO 1 rfl kz
 have ge:=gc.recast 0 (.p 1 0) (.v (.pointer (some ⟨bf,0,none⟩))) rfl rfl trivial
 let bd:Nat × SV:=(0,.v (.pointer (some ⟨bf,0,none⟩)))
 have gg:=(ge.pick (ks:=[0,80,81,82]) (env':=[bd,aL,aM,(82,.v (.int .i64 0))]) kz).cutTb 0 kz
 refine wp_loop_ghost (fun q a_ w_=>∃ (j:Nat) (m_:Option Nat),q = u5.length - j ∧ j ≤ u5.length ∧ EnvOk 95 [] [bd,aL,aM,(82,.v (.int .i64 ((j:Nat):Int)))] a_ ∧ TL w jk w_ F bf 8 [ak,am,ap,ar,av,aw,ax,.slice aG ((lst (Tree.at_ (Tree.mk n1 s2 b3 l4 u5) 6)).length) aH,al] m_ (u5.take j)) u5.length
  ⟨0,none,by omega,by omega,gg,TL.start bO 1 rfl rfl⟩ ?_
 rintro q aq wq ⟨j,m_,rfl,hj,hE2,hT⟩
 have hWq:=WOk.start wq B5
 let di:Nat × SV:=(82,.v (.int .i64 ((j:Nat):Int)))
 refine C1 [bd,aL,aM,di,(83,.v (.bool (decide (((j:Nat):Int) < ((u5.length:Nat):Int)))))] hWq hE2 fun aq2 hE3=>wp_seq ?_
 refine D8 hE3 (b:=decide (((j:Nat):Int) < ((u5.length:Nat):Int))) kz (fun hc=>?_) (fun hc=>?_)
 ·have hlt:j < u5.length:=by have:=of_decide_eq_true hc; omega
  refine wp_skip (A7 (wp_seq (wp_block ?_)))
  obtain ⟨⟨k,x⟩,hu⟩:∃ y,u5[j]? = some y:=⟨_,List.getElem?_eq_getElem hlt⟩
  obtain ⟨bb,bo,xA,xc,hA,hat,hxo,hk⟩:=DU jm hu
  refine B8 [0,1,2,3] kz ?_
  refine B1 (F2 hE3 (t:=47) (e:=88) (size:=2) (bytes:=32) (d:=84) (b:=bb) (o:=bo) (m:=u5.length) (j:=j) kz kz hA rfl hlt fun aq3 hE4=>?_)
  refine B1 (G7 hE4 (t:=88) (d:=85) (cs:=[.int .u32 k,.slice xA x.length xc]) (v:=.agg #[.int .u32 k,.slice xA x.length xc]) kz kz (hat.step_nil hT.step) fun aq4 hE5=>?_)
  refine B1 (D7 hWq hE5 (d:=7) (cs:=[.int .u32 0,au]) kz fun bx aq5 wq2 hbx hbx0 hFq2 hWq2 hE6=>?_)
  refine B1 (C7 hWq2 hE6 (oi:=0) (cs:=[.int .u32 k,.slice xA x.length xc]) kz fun wq3 hFq3 hWq3 hE7=>B4 (A7 ?_))
  have hWq4:=hWq3.drew
  refine DF (fun wz=>CellsOk wz [⟨bx,0,[.int .u32 k,.slice xA x.length xc],true⟩]) 8 kz ?_
  refine D6 [0,1,2,3,4,5,6] [bd,aL,aM,di,(88,.v (.pointer (some ⟨bf,8,none⟩))),(90,.v (.int .u32 k)),(92,.v (.slice xA x.length xc))] 1 (C0 (B2 (B2 (C0 C6)))) (fun _ h=>h) hWq4.cells hE7 fun aq6 hE8=>?_
  refine C9 (i:=7) kz (C3 hE8 (f:=64) (vs:=[.pointer (some ⟨bf,8,none⟩),.int .u32 k,.slice xA x.length xc]) (d:=93) kz Tryz.call64 ((hT.move hWq4.step).set gd kz hsort hu hxo hk) ?_)
  rintro e_ wq5 ⟨rfl,hS5,r,hT5⟩
  refine ⟨_,rfl,fun aq7 hE9=>⟨fun _=>hT.keeps (off:=8) kz hS5 hWq4.cells (fun ob hm=>by rw [List.mem_singleton.1 hm]; exact Nat.le_of_eq hbx.symm),F3 kz (G2 (A7 ?_)) _⟩⟩
  have jl:=(hE9.pick (ks:=[0,80,81,82]) (env':=[bd,aL,aM,di]) kz).cutTb 0 kz
  refine D9 [0,1] kz (B3 [0,1] [] [bd,aL,aM,(82,.v (.int .i64 (IntKind.i64.wrap (((j:Nat):Int) + 1))))] (WOk.start wq5 B5) jl fun aq8 gh=>B4 (A7 ?_))
  rw [H1 (by omega)] at gh
  exact ⟨u5.length - (j + 1),by omega,j + 1,some r,rfl,by omega,gh,hT5⟩
 obtain rfl:j = u5.length:=by have:=of_decide_eq_false hc; omega
 refine wp_exit (E2 (E2 (G3 ?_)))
 rw [List.take_length] at hT
 obtain ⟨bP,ay⟩:=hT.tab bO 1 [aB,⟨bf,0,[ak,am,ap,ar,av,aw,ax,.slice aG ((lst (Tree.at_ (Tree.mk n1 s2 b3 l4 u5) 6)).length) aH,.map m_],true⟩,aD] rfl
 have gi:=hT.mapImm bO bP ay hsort (Fu jm)
 have gj:EnvOk 95 [aB,⟨bf,0,[ak,am,ap,ar,av,aw,ax,.slice aG ((lst (Tree.at_ (Tree.mk n1 s2 b3 l4 u5) 6)).length) aH,.map m_],true⟩,aD] [] _:=(hE3.retable [aB,⟨bf,0,[ak,am,ap,ar,av,aw,ax,.slice aG ((lst (Tree.at_ (Tree.mk n1 s2 b3 l4 u5) 6)).length) aH,.map m_],true⟩,aD]).pk
 refine M3 gj bP.cells (v:=.tuple #[]) kz ?_
 refine ⟨_,rfl,fun ny gk=>?_⟩
 have gm:EnvOk 17 [aB,⟨bf,0,[ak,am,ap,ar,av,aw,ax,.slice aG ((lst (Tree.at_ (Tree.mk n1 s2 b3 l4 u5) 6)).length) aH,.map m_],true⟩,aD] [(14,.v (.tuple #[])),(5,.p 1 0),(12,.p 1 0),dn] _:=gk.places (⟨rfl,rfl,⟨rfl,rfl,trivial⟩⟩)
 refine B4 (A7 ?_)
 refine B8 [0,1,2] kz ?_
 refine B3 [0] [1,2] [(15,.p 1 0)] bP gm fun nz gn=>?_
 have hrel_:Ey (J8 m_ u5 [O2 (bs cr),K7 (IntKind.i32.wrap bg),O2 (bs aI),H4 aN (bs (B9 (Tree.at_ (Tree.mk n1 s2 b3 l4 u5) 3))),H4 aO (bs (B9 (Tree.at_ (Tree.mk n1 s2 b3 l4 u5) 4))),H4 aP (bs (B9 (Tree.at_ (Tree.mk n1 s2 b3 l4 u5) 5))),M7 aG (lst (Tree.at_ (Tree.mk n1 s2 b3 l4 u5) 6)).length aH bR]) (Tree.mk n1 s2 b3 l4 u5):=by
  unfold Ey
  exact ⟨by rw [dS]; rfl,by rw [dZ]; rfl,by rw [du]; rfl,⟨rfl,em⟩,⟨rfl,eD⟩,⟨rfl,eN⟩,⟨ga,rfl,dh.rel_⟩,rfl,trivial⟩
 have he_:Y5 (IntKind.i16.wrap v) (J8 m_ u5 [O2 (bs cr),K7 (IntKind.i32.wrap bg),O2 (bs aI),H4 aN (bs (B9 (Tree.at_ (Tree.mk n1 s2 b3 l4 u5) 3))),H4 aO (bs (B9 (Tree.at_ (Tree.mk n1 s2 b3 l4 u5) 4))),H4 aP (bs (B9 (Tree.at_ (Tree.mk n1 s2 b3 l4 u5) 5))),M7 aG (lst (Tree.at_ (Tree.mk n1 s2 b3 l4 u5) 6)).length aH bR]) = R1 v (Tree.mk n1 s2 b3 l4 u5):=NH _ _ _ hrel_
 rw [← he_] at hroom ⊢
 have hok_:W0 wq (fun _ _=>True) (J8 m_ u5 [O2 (bs cr),K7 (IntKind.i32.wrap bg),O2 (bs aI),H4 aN (bs (B9 (Tree.at_ (Tree.mk n1 s2 b3 l4 u5) 3))),H4 aO (bs (B9 (Tree.at_ (Tree.mk n1 s2 b3 l4 u5) 4))),H4 aP (bs (B9 (Tree.at_ (Tree.mk n1 s2 b3 l4 u5) 5))),M7 aG (lst (Tree.at_ (Tree.mk n1 s2 b3 l4 u5) 6)).length aH bR]):=by
  unfold W0
  exact ⟨by show ByteArray.size (bs cr) ≤ 1000000; rw [M6]; have h_:=cj0; rw [dS] at h_; exact h_,trivial,by show ByteArray.size (bs aI) ≤ 1000000; rw [M6]; have h_:=cj2; rw [du] at h_; exact h_,⟨fun ad h=>by
  obtain ⟨b,o,g1,g2⟩:=eo ad h
  exact ⟨b,o,g1,((g2.move (((((((((dw.trans dx).trans dA).trans bS).trans bT).trans bU).trans aV).trans aX).trans ba).trans ay).step immM (((((((((dw.trans dx).trans dA).trans bS).trans bT).trans bU).trans aV).trans aX).trans ba).trans ay).to').move (Step.refl _ B5) B0 (fun _ _ _ _=>trivial))⟩,by show ByteArray.size (bs (B9 (Tree.at_ (Tree.mk n1 s2 b3 l4 u5) 3))) ≤ 1000000; rw [M6]; exact cj3⟩,⟨fun ad h=>by
  obtain ⟨b,o,g1,g2⟩:=eE ad h
  exact ⟨b,o,g1,((g2.move ((((((bS.trans bT).trans bU).trans aV).trans aX).trans ba).trans ay).step immM ((((((bS.trans bT).trans bU).trans aV).trans aX).trans ba).trans ay).to').move (Step.refl _ B5) B0 (fun _ _ _ _=>trivial))⟩,by show ByteArray.size (bs (B9 (Tree.at_ (Tree.mk n1 s2 b3 l4 u5) 4))) ≤ 1000000; rw [M6]; exact cj4⟩,⟨fun ad h=>by
  obtain ⟨b,o,g1,g2⟩:=eO ad h
  exact ⟨b,o,g1,((g2.move (((aV.trans aX).trans ba).trans ay).step immM (((aV.trans aX).trans ba).trans ay).to').move (Step.refl _ B5) B0 (fun _ _ _ _=>trivial))⟩,by show ByteArray.size (bs (B9 (Tree.at_ (Tree.mk n1 s2 b3 l4 u5) 5))) ≤ 1000000; rw [M6]; exact cj5⟩,⟨((dh.move ay.step immM ay.to').move (Step.refl _ B5) B0 (fun _ _ _ _=>trivial)).slots,cj6,((dh.move ay.step immM ay.to').move (Step.refl _ B5) B0 (fun _ _ _ _=>trivial)).each⟩,(gi.move (Step.refl _ B5) B0 (fun _ _ _ _=>trivial)),cU.2.1,cU.2.2,trivial⟩
 refine B1 (C3 gn (f:=36) (vs:=[cn,au]) (d:=16) kz Tryz.call36 (NG (IntKind.i16.wrap v) (J8 m_ u5 [O2 (bs cr),K7 (IntKind.i32.wrap bg),O2 (bs aI),H4 aN (bs (B9 (Tree.at_ (Tree.mk n1 s2 b3 l4 u5) 3))),H4 aO (bs (B9 (Tree.at_ (Tree.mk n1 s2 b3 l4 u5) 4))),H4 aP (bs (B9 (Tree.at_ (Tree.mk n1 s2 b3 l4 u5) 5))),M7 aG (lst (Tree.at_ (Tree.mk n1 s2 b3 l4 u5) 6)).length aH bR]) bf 0 none 0 [] _ _ (fun j v hj=>⟨trivial,bP.cells 1 _ rfl j v hj⟩) hok_ Fw (World.ownsRow_nil _ 0 _ _) (by simpa using hroom)) ?_)
 rintro e_ wz ⟨A',c',rfl,ho,hs,hn⟩
 refine ⟨_,rfl,fun az hEz=>?_⟩
 have hEy:=(hEz.pick (ks:=[16]) (env':=[(16,.v (.slice A' (([] ++ Y5 (IntKind.i16.wrap v) (J8 m_ u5 [O2 (bs cr),K7 (IntKind.i32.wrap bg),O2 (bs aI),H4 aN (bs (B9 (Tree.at_ (Tree.mk n1 s2 b3 l4 u5) 3))),H4 aO (bs (B9 (Tree.at_ (Tree.mk n1 s2 b3 l4 u5) 4))),H4 aP (bs (B9 (Tree.at_ (Tree.mk n1 s2 b3 l4 u5) 5))),M7 aG (lst (Tree.at_ (Tree.mk n1 s2 b3 l4 u5) 6)).length aH bR])).length) c'))]) kz).cutTb 0 kz
 have hWz:=WOk.start wz B5
 refine B3 [2] [] [(4,.v (.slice A' (([] ++ Y5 (IntKind.i16.wrap v) (J8 m_ u5 [O2 (bs cr),K7 (IntKind.i32.wrap bg),O2 (bs aI),H4 aN (bs (B9 (Tree.at_ (Tree.mk n1 s2 b3 l4 u5) 3))),H4 aO (bs (B9 (Tree.at_ (Tree.mk n1 s2 b3 l4 u5) 4))),H4 aP (bs (B9 (Tree.at_ (Tree.mk n1 s2 b3 l4 u5) 5))),M7 aG (lst (Tree.at_ (Tree.mk n1 s2 b3 l4 u5) 6)).length aH bR])).length) c'))] hWz hEy fun nA gp=>?_
 refine B4 (A7 ?_)
 refine wp_ret (D5 gp hWz.cells (v:=.slice A' (([] ++ Y5 (IntKind.i16.wrap v) (J8 m_ u5 [O2 (bs cr),K7 (IntKind.i32.wrap bg),O2 (bs aI),H4 aN (bs (B9 (Tree.at_ (Tree.mk n1 s2 b3 l4 u5) 3))),H4 aO (bs (B9 (Tree.at_ (Tree.mk n1 s2 b3 l4 u5) 4))),H4 aP (bs (B9 (Tree.at_ (Tree.mk n1 s2 b3 l4 u5) 5))),M7 aG (lst (Tree.at_ (Tree.mk n1 s2 b3 l4 u5) 6)).length aH bR])).length) c') kz ?_)
 exact Fs bP.step ⟨A',c',rfl,ho,hs,hn⟩
theorem NL (w:World):Calls Tryz.prog 5 #[] w (N5 w (.int .i64 5)):=by
 refine enter (n:=4) Tryz.func5 rfl Tryz.ntmps5 kz fun a hE=>?_
 have hW:=WOk.start w B5
 refine C1 [] hW hE fun a1 hE2=>?_
 refine B8 [0,1,2,3] kz ?_
 refine B1 (L6 hE2 (f:=25) (vs:=[]) (d:=1) (n':=3) kz Tryz.call25 Tryz.func25 rfl Tryz.ntmps25 kz fun a3 hE4=>?_)
 refine C1 [] hW hE4 fun a5 hE6=>?_
 refine B8 [0] kz ?_
 let ae:Value:=.string ByteArray.empty
 let ab:Value:=.pointer none
 refine B1 (D7 hW hE6 (d:=1) (cs:=[.int .i16 0,ae,.int .i32 0,ae,ab,ab,ab,.slice none 0 0,.map none]) kz fun b7 a8 w9 aC aD aE ac ag=>?_)
 refine B4 (A7 ?_)
 refine B8 [0] kz ?_
 refine B1 (L6 ag (f:=50) (vs:=[.pointer (some ⟨b7,0,none⟩)]) (d:=2) (n':=2) kz Tryz.call50 Tryz.func50 rfl Tryz.ntmps50 kz fun aF ah=>?_)
 have ai:=ah.recast 0 (.v (.pointer (some ⟨b7,0,none⟩))) (.p 0 0) rfl rfl (Nat.le_of_ble_eq_true (n:=1) rfl)
 refine wp_skip (M3 ai ac.cells (v:=.tuple #[]) kz ?_)
 refine ⟨_,rfl,fun aG aj=>?_⟩
 let af:Ob:=⟨b7,0,[.int .i16 0,ae,.int .i32 0,ae,ab,ab,ab,.slice none 0 0,.map none],true⟩
 have ak:EnvOk 3 [af] [(2,.v (.tuple #[])),(1,.p 0 0)] _:=aj.places (⟨rfl,rfl,trivial⟩)
 refine B4 (A7 ?_)
 refine C1 [(0,.p 0 0)] ac ak fun aH al=>?_
 refine wp_ret (D5 al ac.cells (v:=.pointer (some ⟨b7,0,none⟩)) kz ?_)
 refine ⟨_,rfl,fun aI am=>?_⟩
 have ao:EnvOk 4 [af] [(1,.v (.pointer (some ⟨b7,0,none⟩)))] _:=am.places (trivial)
 have ap:=ao.recast 1 (.v (.pointer (some ⟨b7,0,none⟩))) (.p 0 0) rfl rfl (Nat.le_of_ble_eq_true (n:=1) rfl)
 have ar:=ap.pick (ks:=[1]) (env':=[(1,.p 0 0)]) kz
 refine B1 (L6 ar (f:=26) (vs:=[.pointer (some ⟨b7,0,none⟩)]) (d:=2) (n':=3) kz Tryz.call26 Tryz.func26 rfl Tryz.ntmps26 kz fun aJ au=>?_)
 have av:=au.recast 0 (.v (.pointer (some ⟨b7,0,none⟩))) (.p 0 0) rfl rfl (Nat.le_of_ble_eq_true (n:=1) rfl)
 refine C1 [] ac av fun aK aw=>?_
 refine C1 [(2,.v (.int .i16 5))] ac aw fun aL ax=>?_
 refine wp_ret (D5 ax ac.cells (v:=.int .i16 5) kz ?_)
 refine ⟨_,rfl,fun aM ay=>?_⟩
 have aA:EnvOk 4 [af] [(2,.v (.int .i16 5)),(1,.p 0 0)] _:=ay.places (⟨rfl,rfl,trivial⟩)
 refine B3 [2,3] [] [(0,.v (.int .i64 5))] ac aA fun aN aB=>?_
 refine B4 (A7 ?_)
 refine wp_ret (D5 aB ac.cells (v:=.int .i64 5) kz ?_)
 exact ⟨rfl,ac.step⟩
def W1 (v:Int) (T:Tree):Bs:=(if (decide (v ≥ 4)) = true then (uv ((T.at_ 0).S.length + 1) ++ (T.at_ 0).S) else (be 2 (T.at_ 0).S.length ++ (T.at_ 0).S)) ++ ((if (decide (v ≥ 4)) = true then (uv ((B9 (T.at_ 1)).length + 1) ++ (B9 (T.at_ 1))) else (be 4 (B9 (T.at_ 1)).length ++ (B9 (T.at_ 1)))) ++ (if (decide (v ≥ 4)) = true then (uv T.U.length) ++ (H0 T.U) else []))
theorem JH (v:Int) (T:Tree):0 < (W1 v T).length:=Df (Nj (Df (Lq _)) (Df (Gz (by decide))))
def JI (v:Int) (T:Tree):Bs:=(if (decide (v ≥ 4)) = true then (uv ((T.at_ 0).S.length + 1) ++ (T.at_ 0).S) else (be 2 (T.at_ 0).S.length ++ (T.at_ 0).S)) ++ ((be 4 ((IntKind.i32.wrap (T.at_ 1).N))) ++ ((if (decide (v ≥ 4)) = true then (uv ((T.at_ 2).S.length + 1) ++ (T.at_ 2).S) else (be 2 (T.at_ 2).S.length ++ (T.at_ 2).S)) ++ ((if (decide (v ≥ 3)) = true then if (decide (v ≥ 4)) = true then (if (T.at_ 3).null = true then uv 0 else uv ((B9 (T.at_ 3)).length + 1) ++ (B9 (T.at_ 3))) else (if (T.at_ 3).null = true then be 2 (-1) else be 2 (B9 (T.at_ 3)).length ++ (B9 (T.at_ 3))) else []) ++ ((if (decide (v ≥ 5)) = true then if (decide (v ≥ 4)) = true then (if (T.at_ 4).null = true then uv 0 else uv ((B9 (T.at_ 4)).length + 1) ++ (B9 (T.at_ 4))) else (if (T.at_ 4).null = true then be 2 (-1) else be 2 (B9 (T.at_ 4)).length ++ (B9 (T.at_ 4))) else []) ++ ((if (decide (v ≥ 5)) = true then if (decide (v ≥ 4)) = true then (if (T.at_ 5).null = true then uv 0 else uv ((B9 (T.at_ 5)).length + 1) ++ (B9 (T.at_ 5))) else (if (T.at_ 5).null = true then be 2 (-1) else be 2 (B9 (T.at_ 5)).length ++ (B9 (T.at_ 5))) else []) ++ (((if (decide (v ≥ 4)) = true then (uv ((lst (T.at_ 6)).length + 1)) else (be 4 (lst (T.at_ 6)).length)) ++ ((lst (T.at_ 6)).flatMap (W1 v))) ++ ((if (decide (v ≥ 4)) = true then (uv T.U.length) ++ (H0 T.U) else []) ++ (([]:Bs)))))))))
theorem NM (v:Int) (T:Tree):H7 v T = JI v T:=rfl
def Do (v:Int) (D:DV) (T:Tree):Prop:=((D.f 0).s = bs (T.at_ 0).S) ∧ ((D.f 1).o = B9 (T.at_ 1)) ∧ (((decide (v ≥ 4)) = true → D.u = T.U) ∧ ((decide (v ≥ 4)) = false → D.u = [])) ∧ True
def BD (v:Int) (D:DV) (T:Tree):Prop:=((D.f 0).s = bs (T.at_ 0).S) ∧ ((D.f 1).n = IntKind.i32.wrap (T.at_ 1).N) ∧ ((D.f 2).s = bs (T.at_ 2).S) ∧ (((decide (v ≥ 3)) = true → ((D.f 3).s = bs (B9 (T.at_ 3)) ∧ (D.f 3).A.isNone = (T.at_ 3).null)) ∧ ((decide (v ≥ 3)) = false → ((D.f 3).s = ByteArray.empty ∧ (D.f 3).A = none))) ∧ (((decide (v ≥ 5)) = true → ((D.f 4).s = bs (B9 (T.at_ 4)) ∧ (D.f 4).A.isNone = (T.at_ 4).null)) ∧ ((decide (v ≥ 5)) = false → ((D.f 4).s = ByteArray.empty ∧ (D.f 4).A = none))) ∧ (((decide (v ≥ 5)) = true → ((D.f 5).s = bs (B9 (T.at_ 5)) ∧ (D.f 5).A.isNone = (T.at_ 5).null)) ∧ ((decide (v ≥ 5)) = false → ((D.f 5).s = ByteArray.empty ∧ (D.f 5).A = none))) ∧ (((D.f 6).l = (lst (T.at_ 6)).length ∧ ∀ i,i < (D.f 6).l → Do v ((D.f 6).f i) ((lst (T.at_ 6)).getD i .zero))) ∧ (((decide (v ≥ 4)) = true → D.u = T.U) ∧ ((decide (v ≥ 4)) = false → D.u = [])) ∧ True
theorem NN (b o:Nat) (w:World):Calls Tryz.prog 104 #[.pointer (some ⟨b,o,none⟩)] w (fun e w'=>e = .returned (.tuple #[]) ∧ w' = w):=by
 refine enter (n:=2) (vs:=[.pointer (some ⟨b,o,none⟩)]) Tryz.func104 rfl Tryz.ntmps104 kz fun a hE=>?_
 refine wp_skip ?_
 exact M3 hE (WOk.start w B5).cells (v:=.tuple #[]) kz ⟨rfl,rfl⟩
set_option maxHeartbeats 4000000 in
theorem NO (v:Int) (T:Tree) {bv:Nat} {A:Option Addr} {c:Nat} {w:World} {F:Nat → Nat → Prop} (hst:Str w bv [.int .i16 v,.string ByteArray.empty,.int .i32 0,.string ByteArray.empty,.pointer none,.pointer none,.pointer none,.slice none 0 0,.map none]) (ho:Octs w F A c (H7 v T)) (hFd:∀ b o,F b o → ¬ (b = bv ∧ o < 9)) (hc:Y6 T) (hR:T.ranged) :
  Calls Tryz.prog 55 #[.pointer (some ⟨bv,0,none⟩),.slice A (H7 v T).length c,.bool false] w (fun e w'=>∃ D:DV,e = .returned .nilIface ∧ Str w' bv [.int .i16 v,.string ((D.f 0).s),.int .i32 ((D.f 1).n),.string ((D.f 2).s),.pointer ((D.f 3).A),.pointer ((D.f 4).A),.pointer ((D.f 5).A),.slice ((D.f 6).A) ((D.f 6).l) ((D.f 6).c),.map D.m] ∧ W0 w' (Fp F w) D ∧ BD v D T ∧ Step w w' (fun b o=>b = bv ∧ o < 9)):=by
 refine enter (n:=167) Tryz.func55 rfl Tryz.ntmps55 kz fun a hE=>?_
 have hW:=WOk.startStr hst
 let ao:Value:=.int .i16 v
 let ax:Value:=.string ByteArray.empty
 let ai:Value:=.pointer none
 let ak:Value:=.slice none 0 0
 let aj:Value:=.map none
 have hE1:=(hE.grow ⟨bv,0,[ao,ax,.int .i32 0,ax,ai,ai,ai,ak,aj],true⟩).recast 0 (.v (.pointer (some ⟨bv,0,none⟩))) (.p 0 0) rfl rfl (Nat.le_of_ble_eq_true (n:=1) rfl)
 let ac:Nat × SV:=(2,.v (.bool false))
 refine C1 [(0,.p 0 0),(1,.v (.slice A ((H7 v T).length) c)),ac] hW hE1 fun a1 hE2=>?_
 refine B8 [0,1] kz ?_
 refine B3 [0] [1] [(0,.p 0 0),(1,.v (.slice A ((H7 v T).length) c)),ac,(25,.p 0 0)] hW hE2 fun a3 hE4=>?_
 refine B1 (L6 hE4 (f:=50) (vs:=[.pointer (some ⟨bv,0,none⟩)]) (d:=26) (n':=2) kz Tryz.call50 Tryz.func50 rfl Tryz.ntmps50 kz fun a5 hE6=>?_)
 have hE7:=hE6.recast 0 (.v (.pointer (some ⟨bv,0,none⟩))) (.p 0 0) rfl rfl (Nat.le_of_ble_eq_true (n:=1) rfl)
 refine wp_skip (M3 hE7 hW.cells (v:=.tuple #[]) kz ?_)
 refine ⟨_,rfl,fun a8 hE9=>?_⟩
 have fm:EnvOk 167 [⟨bv,0,[ao,ax,.int .i32 0,ax,ai,ai,ai,ak,aj],true⟩] [(26,.v (.tuple #[])),(0,.p 0 0),(1,.v (.slice A ((H7 v T).length) c)),ac,(25,.p 0 0)] _:=hE9.places (⟨rfl,rfl,trivial⟩)
 refine B4 (A7 ?_)
 refine B8 [0,1,2,3] kz ?_
 refine B3 [0,1] [2,3] [(0,.p 0 0),ac,(28,.v (.agg #[.slice A ((H7 v T).length) c,.bool false]))] hW fm fun gJ fo=>?_
 refine B1 (D7 hW fo (d:=7) (cs:=[ak,.bool false]) kz fun bK gK gL gk gm gn fq fr=>?_)
 refine B1 (C7 fq fr (oi:=1) (cs:=[.slice A ((H7 v T).length) c,.bool false]) kz fun gM gp cW ft=>?_)
 refine B4 (A7 ?_)
 let ab:Nat × SV:=(7,.p 0 0)
 have fu:=RS.start (F:=F) (s:=H7 v T) cW ft (ho.move cW.step (fun b_ o_ h_ _=>hFd b_ o_ h_) (cW.immM hFd)) [(0,.p 1 0),ac,ab]
 have ge:=hc
 have e26r:=hR
 unfold Y6 at ge
 obtain ⟨e26_0,e26_1,e26_2,e26_3,e26_4,e26_5,⟨e26_6,e26_6e⟩,e26_U,_⟩:=ge
 obtain ⟨bV,df⟩:∃ R,R = (if (decide (v ≥ 4)) = true then (uv T.U.length) ++ (H0 T.U) else []) ++ ([]:Bs):=⟨_,rfl⟩
 obtain ⟨bW,dg⟩:∃ R,R = ((if (decide (v ≥ 4)) = true then (uv ((lst (T.at_ 6)).length + 1)) else (be 4 (lst (T.at_ 6)).length)) ++ ((lst (T.at_ 6)).flatMap (W1 v))) ++ bV:=⟨_,rfl⟩
 obtain ⟨bX,dh⟩:∃ R,R = (if (decide (v ≥ 5)) = true then if (decide (v ≥ 4)) = true then (if (T.at_ 5).null = true then uv 0 else uv ((B9 (T.at_ 5)).length + 1) ++ (B9 (T.at_ 5))) else (if (T.at_ 5).null = true then be 2 (-1) else be 2 (B9 (T.at_ 5)).length ++ (B9 (T.at_ 5))) else []) ++ bW:=⟨_,rfl⟩
 obtain ⟨bY,di⟩:∃ R,R = (if (decide (v ≥ 5)) = true then if (decide (v ≥ 4)) = true then (if (T.at_ 4).null = true then uv 0 else uv ((B9 (T.at_ 4)).length + 1) ++ (B9 (T.at_ 4))) else (if (T.at_ 4).null = true then be 2 (-1) else be 2 (B9 (T.at_ 4)).length ++ (B9 (T.at_ 4))) else []) ++ bX:=⟨_,rfl⟩
 obtain ⟨gq,dj⟩:∃ R,R = (if (decide (v ≥ 3)) = true then if (decide (v ≥ 4)) = true then (if (T.at_ 3).null = true then uv 0 else uv ((B9 (T.at_ 3)).length + 1) ++ (B9 (T.at_ 3))) else (if (T.at_ 3).null = true then be 2 (-1) else be 2 (B9 (T.at_ 3)).length ++ (B9 (T.at_ 3))) else []) ++ bY:=⟨_,rfl⟩
 obtain ⟨gt,dl⟩:∃ R,R = (if (decide (v ≥ 4)) = true then (uv ((T.at_ 2).S.length + 1) ++ (T.at_ 2).S) else (be 2 (T.at_ 2).S.length ++ (T.at_ 2).S)) ++ gq:=⟨_,rfl⟩
 obtain ⟨gv,dm⟩:∃ R,R = (be 4 ((IntKind.i32.wrap (T.at_ 1).N))) ++ gt:=⟨_,rfl⟩
 obtain ⟨gw,dn⟩:∃ R,R = (if (decide (v ≥ 4)) = true then (uv ((T.at_ 0).S.length + 1) ++ (T.at_ 0).S) else (be 2 (T.at_ 0).S.length ++ (T.at_ 0).S)) ++ gv:=⟨_,rfl⟩
 have fv:=fu.cast (t:=gw) (by rw [NM,dn,dm,dl,dj,di,dh,dg,df]; unfold JI; simp only [List.append_assoc])
 refine wp_seq ?_
 let ag:Nat × SV:=(8,.v (.int .i16 v))
 let bZ:C8:=[(0,.p 1 0),ac,ab,ag]
 refine E5 bZ fv fun _ fw=>?_
 refine A7 (wp_seq (E5 bZ fw fun _ fx=>?_))
 refine A7 (wp_seq ?_)
 let ae:Nat × SV:=(9,.v (.bool (decide (v ≥ 4))))
 let cd:C8:=[(0,.p 1 0),ac,ab,ag,ae]
 refine E5 cd fx fun _ fy=>?_
 refine A7 (wp_seq (E5 cd fy fun _ fA=>?_))
 refine A7 (wp_seq ?_)
 let af:Nat × SV:=(10,.p 1 0)
 let ar:C8:=[ac,ab,ag,ae,af]
 refine E5 ar fA fun _ fB=>?_
 refine A7 (wp_seq (wp_seq (E5 ar fB fun _ fC=>?_)))
 refine A7 (wp_seq (wp_seq (E5 [ac,ab,ag,ae,af,(38,.v (.bool false))] fC fun _ dp=>A7 ?_)))
 refine F6 dp.env_ (b:=false) kz (rfl) ?_
 have fD:=dp.cast dn
 refine Ep (d1:=43) (d2:=44) [ac,ab,ag,ae,af,(42,.v (.bool (decide (v ≥ 4))))] [ac,ab,ag,ae,af,(11,.v (.string (bs (T.at_ 0).S)))] fD (GD (T.at_ 0).S e26_0 _) Tryz.call93 (Ev (T.at_ 0).S e26_0 _) Tryz.call94 fun _ _ fE=>?_
 refine A7 ?_
 let au:Value:=.string (bs (T.at_ 0).S)
 refine Q0 [⟨bv,0,[ao,au,.int .i32 0,ax,ai,ai,ai,ak,aj],true⟩] 0 ar fE fun _ _ fF=>?_
 refine A7 (wp_seq (wp_seq ?_))
 have fG:=fF.cast dm
 refine V8 (d:=49) [ac,ab,ag,ae,af,(12,.v (.int .i32 (IntKind.i32.wrap (T.at_ 1).N)))] fG (GC _ _) Tryz.call95 fun _ _ fH=>?_
 refine A7 ?_
 let av:Value:=.int .i32 (IntKind.i32.wrap (T.at_ 1).N)
 refine Q0 [⟨bv,0,[ao,au,av,ax,ai,ai,ai,ak,aj],true⟩] 0 ar fH fun _ _ fI=>?_
 refine A7 (wp_seq (wp_seq (E5 ar fI fun _ fJ=>?_)))
 refine A7 (wp_seq (wp_seq (E5 [ac,ab,ag,ae,af,(54,.v (.bool false))] fJ fun _ dq=>A7 ?_)))
 refine F6 dq.env_ (b:=false) kz (rfl) ?_
 have fK:=dq.cast dl
 refine Ep (d1:=59) (d2:=60) [ac,ab,ag,ae,af,(58,.v (.bool (decide (v ≥ 4))))] [ac,ab,ag,ae,af,(13,.v (.string (bs (T.at_ 2).S)))] fK (GD (T.at_ 2).S e26_2 _) Tryz.call93 (Ev (T.at_ 2).S e26_2 _) Tryz.call94 fun _ _ fL=>?_
 refine A7 ?_
 let ay:Value:=.string (bs (T.at_ 2).S)
 let ce:Ob:=⟨bv,0,[ao,au,av,ay,ai,ai,ai,ak,aj],true⟩
 refine Q0 [ce] 0 ar fL fun _ _ fM=>?_
 refine A7 (wp_seq ?_)
 have fN:=fM.cast dj
 refine R4 (Mid:=fun a_ w_=>∃ (bd:DV) (P':I1),(∀ w F,P' w F → Bx w F ∧ ((∀ ad,bd.A = some ad → ∃ b o,ad = ⟨b,o,none⟩ ∧ AtF w F b o [.string bd.s]) ∧ bd.s.size ≤ 1000000) ∧ ((decide (v ≥ 3)) = true → (bd.s = bs (B9 (T.at_ 3)) ∧ bd.A.isNone = (T.at_ 3).null)) ∧ ((decide (v ≥ 3)) = false → (bd.s = ByteArray.empty ∧ bd.A = none))) ∧ RS w (fun b o=>b = bv ∧ o < 9) F 167 bK [⟨bv,0,[ao,au,av,ay,.pointer bd.A,ai,ai,ak,aj],true⟩] ar P' bY a_ w_) ?_ ?_
 ·
  refine wp_seq (E5 [ac,ab,ag,ae,af,(66,.v (.bool (decide (v ≥ 3))))] fN fun _ cX=>A7 ?_)
  refine D8 cX.env_ (b:=decide (v ≥ 3)) kz (fun bf=>?_) (fun bf=>?_)
  ·
   have fO:=cX.cast (t:=(if (decide (v ≥ 4)) = true then (if (T.at_ 3).null = true then uv 0 else uv ((B9 (T.at_ 3)).length + 1) ++ (B9 (T.at_ 3))) else (if (T.at_ 3).null = true then be 2 (-1) else be 2 (B9 (T.at_ 3)).length ++ (B9 (T.at_ 3)))) ++ bY) (by rw [if_pos bf])
   refine wp_seq (E5 ar fO fun _ fP=>?_)
   refine A7 (wp_seq (R4 (Mid:=fun a_ w_=>∃ (de:Option Addr) (P':I1),(∀ w F,P' w F → Bx w F ∧ Be de (B9 (T.at_ 3)) w F ∧ de.isNone = (T.at_ 3).null) ∧ RS w (fun b o=>b = bv ∧ o < 9) F 167 bK [ce] [ac,ab,ag,ae,af,(14,.v (.pointer de))] P' bY a_ w_) ?_ ?_))
   ·
    refine wp_seq (E5 [ac,ab,ag,ae,af,(67,.v (.bool (decide (v ≥ 4))))] fP fun _ cY=>A7 ?_)
    refine D8 cY.env_ (b:=decide (v ≥ 4)) kz (fun cZ=>?_) (fun cZ=>?_)
    ·
     have fQ:=cY.cast (t:=(if (T.at_ 3).null = true then uv 0 else uv ((B9 (T.at_ 3)).length + 1) ++ (B9 (T.at_ 3))) ++ bY) (by rw [if_pos cZ])
     refine wp_seq (E5 [ac,ab,ag,ae,af,(68,.v (.bool false))] fQ fun _ dr=>A7 ?_)
     refine F6 dr.env_ (b:=false) kz (rfl) ?_
     refine S5 (d:=70) (fun fk=>[ac,ab,ag,ae,af,(14,.v (.pointer fk))]) dr (Dh (T.at_ 3).null (B9 (T.at_ 3)) e26_3 _) (fun _=>(MvF.text _ _).and (MvF.is _)) Tryz.call97 fun fk gN _ _ dt fR=>?_
     refine A7 ?_
     exact ⟨fk,_,fun w F h_=>⟨(dt _ _ h_).1,(dt _ _ h_).2⟩,fR.pk (env':=[ac,ab,ag,ae,af,(14,.v (.pointer fk))])⟩
    have fS:=cY.cast (t:=(if (T.at_ 3).null = true then be 2 (-1) else be 2 (B9 (T.at_ 3)).length ++ (B9 (T.at_ 3))) ++ bY) (by rw [if_neg (by rw [cZ]; decide)])
    refine wp_seq (E5 [ac,ab,ag,ae,af,(71,.v (.bool false))] fS fun _ du=>A7 ?_)
    refine F6 du.env_ (b:=false) kz (rfl) ?_
    refine S5 (d:=73) (fun fl=>[ac,ab,ag,ae,af,(14,.v (.pointer fl))]) du (Dg (T.at_ 3).null (B9 (T.at_ 3)) e26_3 _) (fun _=>(MvF.text _ _).and (MvF.is _)) Tryz.call99 fun fl gO _ _ dv fT=>?_
    refine A7 ?_
    exact ⟨fl,_,fun w F h_=>⟨(dv _ _ h_).1,(dv _ _ h_).2⟩,fT.pk (env':=[ac,ab,ag,ae,af,(14,.v (.pointer fl))])⟩
   rintro _ _ ⟨de,gP,da,fV⟩
   refine A7 (Q0 [⟨bv,0,[ao,au,av,ay,.pointer de,ai,ai,ak,aj],true⟩] 0 ar fV fun _ _ fW=>?_)
   refine A7 ?_
   exact ⟨H4 de (bs (B9 (T.at_ 3))),_,fun w F h_=>⟨(da _ _ h_).1,⟨(da _ _ h_).2.1,by show ByteArray.size (bs _) ≤ 1000000; rw [M6]; exact Nat.le_trans e26_3 (by decide)⟩,⟨fun _=>⟨rfl,(da _ _ h_).2.2⟩,(fun e_=>by rw [bf] at e_; cases e_)⟩⟩,fW.pk (env':=ar)⟩
  have fX:=cX.cast (t:=[] ++ bY) (by rw [if_neg (by rw [bf]; decide)])
  have fY:=fX.cast (t:=bY) rfl
  refine wp_skip (A7 ?_)
  exact ⟨H4 none ByteArray.empty,_,fun w F h_=>⟨h_,⟨fun _ h=>(by cases h),Nat.zero_le _⟩,⟨(fun e_=>by rw [bf] at e_; cases e_),fun _=>⟨rfl,rfl⟩⟩⟩,fY.pk (env':=ar)⟩
 rintro _ _ ⟨bd,gg,dw,fZ⟩
 refine A7 (wp_seq ?_)
 have f5:=fZ.cast di
 let aD:Value:=.pointer bd.A
 refine R4 (Mid:=fun a_ w_=>∃ (bg:DV) (P':I1),(∀ w F,P' w F → gg w F ∧ ((∀ ad,bg.A = some ad → ∃ b o,ad = ⟨b,o,none⟩ ∧ AtF w F b o [.string bg.s]) ∧ bg.s.size ≤ 1000000) ∧ ((decide (v ≥ 5)) = true → (bg.s = bs (B9 (T.at_ 4)) ∧ bg.A.isNone = (T.at_ 4).null)) ∧ ((decide (v ≥ 5)) = false → (bg.s = ByteArray.empty ∧ bg.A = none))) ∧ RS w (fun b o=>b = bv ∧ o < 9) F 167 bK [⟨bv,0,[ao,au,av,ay,aD,.pointer bg.A,ai,ak,aj],true⟩] ar P' bX a_ w_) ?_ ?_
 ·
  refine wp_seq (E5 [ac,ab,ag,ae,af,(79,.v (.bool (decide (v ≥ 5))))] f5 fun _ bh=>A7 ?_)
  refine D8 bh.env_ (b:=decide (v ≥ 5)) kz (fun aM=>?_) (fun aM=>?_)
  ·
   have dx:=bh.cast (t:=(if (decide (v ≥ 4)) = true then (if (T.at_ 4).null = true then uv 0 else uv ((B9 (T.at_ 4)).length + 1) ++ (B9 (T.at_ 4))) else (if (T.at_ 4).null = true then be 2 (-1) else be 2 (B9 (T.at_ 4)).length ++ (B9 (T.at_ 4)))) ++ bX) (by rw [if_pos aM])
   refine wp_seq (E5 ar dx fun _ dy=>?_)
   refine A7 (wp_seq (R4 (Mid:=fun a_ w_=>∃ (aZ:Option Addr) (P':I1),(∀ w F,P' w F → gg w F ∧ Be aZ (B9 (T.at_ 4)) w F ∧ aZ.isNone = (T.at_ 4).null) ∧ RS w (fun b o=>b = bv ∧ o < 9) F 167 bK [⟨bv,0,[ao,au,av,ay,aD,ai,ai,ak,aj],true⟩] [ac,ab,ag,ae,af,(15,.v (.pointer aZ))] P' bX a_ w_) ?_ ?_))
   ·
    refine wp_seq (E5 [ac,ab,ag,ae,af,(80,.v (.bool (decide (v ≥ 4))))] dy fun _ bi=>A7 ?_)
    refine D8 bi.env_ (b:=decide (v ≥ 4)) kz (fun bj=>?_) (fun bj=>?_)
    ·
     have dA:=bi.cast (t:=(if (T.at_ 4).null = true then uv 0 else uv ((B9 (T.at_ 4)).length + 1) ++ (B9 (T.at_ 4))) ++ bX) (by rw [if_pos bj])
     refine wp_seq (E5 [ac,ab,ag,ae,af,(81,.v (.bool false))] dA fun _ cg=>A7 ?_)
     refine F6 cg.env_ (b:=false) kz (rfl) ?_
     refine S5 (d:=83) (fun bM=>[ac,ab,ag,ae,af,(15,.v (.pointer bM))]) cg (Dh (T.at_ 4).null (B9 (T.at_ 4)) e26_4 _) (fun _=>(MvF.text _ _).and (MvF.is _)) Tryz.call97 fun bM gy _ _ cm dB=>?_
     refine A7 ?_
     exact ⟨bM,_,fun w F h_=>⟨(cm _ _ h_).1,(cm _ _ h_).2⟩,dB.pk (env':=[ac,ab,ag,ae,af,(15,.v (.pointer bM))])⟩
    have dC:=bi.cast (t:=(if (T.at_ 4).null = true then be 2 (-1) else be 2 (B9 (T.at_ 4)).length ++ (B9 (T.at_ 4))) ++ bX) (by rw [if_neg (by rw [bj]; decide)])
    refine wp_seq (E5 [ac,ab,ag,ae,af,(84,.v (.bool false))] dC fun _ cn=>A7 ?_)
    refine F6 cn.env_ (b:=false) kz (rfl) ?_
    refine S5 (d:=86) (fun bN=>[ac,ab,ag,ae,af,(15,.v (.pointer bN))]) cn (Dg (T.at_ 4).null (B9 (T.at_ 4)) e26_4 _) (fun _=>(MvF.text _ _).and (MvF.is _)) Tryz.call99 fun bN gz _ _ cq dD=>?_
    refine A7 ?_
    exact ⟨bN,_,fun w F h_=>⟨(cq _ _ h_).1,(cq _ _ h_).2⟩,dD.pk (env':=[ac,ab,ag,ae,af,(15,.v (.pointer bN))])⟩
   rintro _ _ ⟨aZ,gA,bk,dE⟩
   refine A7 (Q0 [⟨bv,0,[ao,au,av,ay,aD,.pointer aZ,ai,ak,aj],true⟩] 0 ar dE fun _ _ dF=>?_)
   refine A7 ?_
   exact ⟨H4 aZ (bs (B9 (T.at_ 4))),_,fun w F h_=>⟨(bk _ _ h_).1,⟨(bk _ _ h_).2.1,by show ByteArray.size (bs _) ≤ 1000000; rw [M6]; exact Nat.le_trans e26_4 (by decide)⟩,⟨fun _=>⟨rfl,(bk _ _ h_).2.2⟩,(fun e_=>by rw [aM] at e_; cases e_)⟩⟩,dF.pk (env':=ar)⟩
  have dG:=bh.cast (t:=[] ++ bX) (by rw [if_neg (by rw [aM]; decide)])
  have dH:=dG.cast (t:=bX) rfl
  refine wp_skip (A7 ?_)
  exact ⟨H4 none ByteArray.empty,_,fun w F h_=>⟨h_,⟨fun _ h=>(by cases h),Nat.zero_le _⟩,⟨(fun e_=>by rw [aM] at e_; cases e_),fun _=>⟨rfl,rfl⟩⟩⟩,dH.pk (env':=ar)⟩
 rintro _ _ ⟨bg,gh,bO,f7⟩
 refine A7 (wp_seq ?_)
 have dI:=f7.cast dh
 let aN:C8:=[ac,ab,ae,af]
 let aH:Value:=.pointer bg.A
 refine R4 (Mid:=fun a_ w_=>∃ (aI:DV) (P':I1),(∀ w F,P' w F → gh w F ∧ ((∀ ad,aI.A = some ad → ∃ b o,ad = ⟨b,o,none⟩ ∧ AtF w F b o [.string aI.s]) ∧ aI.s.size ≤ 1000000) ∧ ((decide (v ≥ 5)) = true → (aI.s = bs (B9 (T.at_ 5)) ∧ aI.A.isNone = (T.at_ 5).null)) ∧ ((decide (v ≥ 5)) = false → (aI.s = ByteArray.empty ∧ aI.A = none))) ∧ RS w (fun b o=>b = bv ∧ o < 9) F 167 bK [⟨bv,0,[ao,au,av,ay,aD,aH,.pointer aI.A,ak,aj],true⟩] aN P' bW a_ w_) ?_ ?_
 ·
  refine wp_seq (E5 [ac,ab,ae,af,(92,.v (.bool (decide (v ≥ 5))))] dI fun _ bn=>A7 ?_)
  refine D8 bn.env_ (b:=decide (v ≥ 5)) kz (fun aO=>?_) (fun aO=>?_)
  ·
   have dJ:=bn.cast (t:=(if (decide (v ≥ 4)) = true then (if (T.at_ 5).null = true then uv 0 else uv ((B9 (T.at_ 5)).length + 1) ++ (B9 (T.at_ 5))) else (if (T.at_ 5).null = true then be 2 (-1) else be 2 (B9 (T.at_ 5)).length ++ (B9 (T.at_ 5)))) ++ bW) (by rw [if_pos aO])
   refine wp_seq (E5 aN dJ fun _ dK=>?_)
   refine A7 (wp_seq (R4 (Mid:=fun a_ w_=>∃ (ba:Option Addr) (P':I1),(∀ w F,P' w F → gh w F ∧ Be ba (B9 (T.at_ 5)) w F ∧ ba.isNone = (T.at_ 5).null) ∧ RS w (fun b o=>b = bv ∧ o < 9) F 167 bK [⟨bv,0,[ao,au,av,ay,aD,aH,ai,ak,aj],true⟩] [ac,ab,ae,af,(16,.v (.pointer ba))] P' bW a_ w_) ?_ ?_))
   ·
    refine wp_seq (E5 [ac,ab,ae,af,(93,.v (.bool (decide (v ≥ 4))))] dK fun _ bp=>A7 ?_)
    refine D8 bp.env_ (b:=decide (v ≥ 4)) kz (fun bq=>?_) (fun bq=>?_)
    ·
     have dL:=bp.cast (t:=(if (T.at_ 5).null = true then uv 0 else uv ((B9 (T.at_ 5)).length + 1) ++ (B9 (T.at_ 5))) ++ bW) (by rw [if_pos bq])
     refine wp_seq (E5 [ac,ab,ae,af,(94,.v (.bool false))] dL fun _ cr=>A7 ?_)
     refine F6 cr.env_ (b:=false) kz (rfl) ?_
     refine S5 (d:=96) (fun bP=>[ac,ab,ae,af,(16,.v (.pointer bP))]) cr (Dh (T.at_ 5).null (B9 (T.at_ 5)) e26_5 _) (fun _=>(MvF.text _ _).and (MvF.is _)) Tryz.call97 fun bP gB _ _ cu dM=>?_
     refine A7 ?_
     exact ⟨bP,_,fun w F h_=>⟨(cu _ _ h_).1,(cu _ _ h_).2⟩,dM.pk (env':=[ac,ab,ae,af,(16,.v (.pointer bP))])⟩
    have dN:=bp.cast (t:=(if (T.at_ 5).null = true then be 2 (-1) else be 2 (B9 (T.at_ 5)).length ++ (B9 (T.at_ 5))) ++ bW) (by rw [if_neg (by rw [bq]; decide)])
    refine wp_seq (E5 [ac,ab,ae,af,(97,.v (.bool false))] dN fun _ cw=>A7 ?_)
    refine F6 cw.env_ (b:=false) kz (rfl) ?_
    refine S5 (d:=99) (fun bQ=>[ac,ab,ae,af,(16,.v (.pointer bQ))]) cw (Dg (T.at_ 5).null (B9 (T.at_ 5)) e26_5 _) (fun _=>(MvF.text _ _).and (MvF.is _)) Tryz.call99 fun bQ gC _ _ cz dO=>?_
    refine A7 ?_
    exact ⟨bQ,_,fun w F h_=>⟨(cz _ _ h_).1,(cz _ _ h_).2⟩,dO.pk (env':=[ac,ab,ae,af,(16,.v (.pointer bQ))])⟩
   rintro _ _ ⟨ba,gD,bt,dP⟩
   refine A7 (Q0 [⟨bv,0,[ao,au,av,ay,aD,aH,.pointer ba,ak,aj],true⟩] 0 aN dP fun _ _ dQ=>?_)
   refine A7 ?_
   exact ⟨H4 ba (bs (B9 (T.at_ 5))),_,fun w F h_=>⟨(bt _ _ h_).1,⟨(bt _ _ h_).2.1,by show ByteArray.size (bs _) ≤ 1000000; rw [M6]; exact Nat.le_trans e26_5 (by decide)⟩,⟨fun _=>⟨rfl,(bt _ _ h_).2.2⟩,(fun e_=>by rw [aO] at e_; cases e_)⟩⟩,dQ.pk (env':=aN)⟩
  have dR:=bn.cast (t:=[] ++ bW) (by rw [if_neg (by rw [aO]; decide)])
  have dS:=dR.cast (t:=bW) rfl
  refine wp_skip (A7 ?_)
  exact ⟨H4 none ByteArray.empty,_,fun w F h_=>⟨h_,⟨fun _ h=>(by cases h),Nat.zero_le _⟩,⟨(fun e_=>by rw [aO] at e_; cases e_),fun _=>⟨rfl,rfl⟩⟩⟩,dS.pk (env':=aN)⟩
 rintro _ _ ⟨aI,dT,aL,dU⟩
 refine A7 (wp_seq (wp_seq (E5 [ac,ab,ae,af,(17,.v (.slice none 0 0))] dU fun _ dV=>?_)))
 refine A7 (wp_seq ?_)
 let aE:Nat × SV:=(18,.v (.slice none 0 0))
 let cA:C8:=[ac,ab,ae,af,aE]
 refine E5 cA dV fun _ dW=>?_
 refine A7 (wp_seq (E5 cA dW fun _ dX=>?_))
 refine A7 (wp_seq ?_)
 have dY:=dX.cast dg
 have dZ:=dY.cast (t:=(if (decide (v ≥ 4)) = true then (uv ((lst (T.at_ 6)).length + 1)) else (be 4 (lst (T.at_ 6)).length)) ++ (((lst (T.at_ 6)).flatMap (W1 v)) ++ bV)) (by rw [List.append_assoc])
 let ah:Nat × SV:=(19,.v (.int .i32 (((lst (T.at_ 6)).length:Nat):Int)))
 let cB:C8:=[ac,ab,ae,af,aE,ah]
 refine Ep (d1:=110) (d2:=111) [ac,ab,ae,af,aE,(109,.v (.bool (decide (v ≥ 4))))] cB dZ (Nl ((lst (T.at_ 6)).length) e26_6 _ (flat_ge' (JH v) _)) Tryz.call100 (GE ((lst (T.at_ 6)).length) e26_6 _ (flat_ge' (JH v) _)) Tryz.call101 fun _ _ d5=>?_
 refine A7 (wp_seq (wp_seq (GB (d:=112) [ac,ab,ae,af,aE,ah,(113,.v (.bool false))] d5 (GF _) Tryz.call102 fun _ _ cC=>?_)))
 refine A7 (F6 cC.env_ (b:=false) kz (rfl) ?_)
 refine wp_skip (A7 (wp_seq (GA (t:=77) (e:=110) (size:=3) (bytes:=48) (d:=116) (A0:=none) (m:=0) (cp:=0) [ac,ab,ae,af,ah,(115,.v (.slice none 0 0))] cB 1 cC fun _ d6=>?_)))
 refine A7 ?_
 let aW:Value:=.pointer aI.A
 let aB:Ob:=⟨bv,0,[ao,au,av,ay,aD,aH,aW,ak,aj],true⟩
 refine Gv (Mid:=fun a_ w_=>∃ (ap:DV) (P':I1),(∀ w F,P' w F → dT w F ∧ (Slots w F 3 ap.A ap.c ap.l (fun i=>[.string (((ap.f i).f 0).s),.slice (((ap.f i).f 1).A) (((ap.f i).f 1).o.length) (((ap.f i).f 1).c),.map ((ap.f i).m)]) ∧ ap.l ≤ 1000000 ∧ ∀ i,i < ap.l → S6 w F (ap.f i)) ∧ (ap.l = (lst (T.at_ 6)).length ∧ ∀ i,i < ap.l → Do v (ap.f i) ((lst (T.at_ 6)).getD i .zero))) ∧ RS w (fun b o=>b = bv ∧ o < 9) F 167 bK [aB] [ab,ae,af,(18,.v (.slice ap.A ap.l ap.c))] P' bV a_ w_) ?_ ?_
 ·
  refine wp_seq (E5 [ac,ab,ae,af,aE,ah,(118,.v (.bool (decide ((((lst (T.at_ 6)).length:Nat):Int) > 0))))] d6 fun _ bu=>A7 ?_)
  let bw:Nat × SV:=(20,.v (.int .i32 0))
  refine D8 bu.env_ (b:=decide ((((lst (T.at_ 6)).length:Nat):Int) > 0)) kz (fun aX=>?_) (fun aX=>?_)
  ·
   have hn_g171:0 < (lst (T.at_ 6)).length:=by have h_:=of_decide_eq_true aX; omega
   refine D9 [0,1,2,3] kz ?_
   refine L8 [0,1] [2,3] [ac,ab,ae,af,ah,(119,.v (.slice none 0 0)),(120,.v (.int .i32 (((lst (T.at_ 6)).length:Nat):Int)))] bu fun _ d7=>?_
   refine B1 (Gt (A0:=none) (d:=121) (t:=77) (tn:=21) (e:=110) (size:=3) (bytes:=48) (k:=.i32) (kn:=.i32) (q:=(((lst (T.at_ 6)).length:Nat):Int)) (j:=(lst (T.at_ 6)).length) (.agg #[ax,ak,aj]) d7 (fun aG bR _ _ hg_g171 hcap_g171 d8=>?_) rfl hn_g171 (by have:=e26_6; omega))
   let al:Nat × SV:=(18,.v (.slice (some ⟨aG,0,none⟩) ((lst (T.at_ 6)).length) bR))
   refine L8 [3] [] [ac,ab,ae,af,al,ah] d8 fun _ d9=>B4 ?_
   refine A7 (wp_seq (E5 [ac,ab,ae,af,al,ah,bw] d9 fun _ cE=>?_))
   refine A7 (wp_block ?_)
   have bz:=cE.mv
   have ea:=(cE.cast (t:=(lst (T.at_ 6)).flatMap (W1 v) ++ bV) rfl).pk (env':=[ac,ab,ae,af,al,ah,(20,.v (.int .i32 ((0:Nat):Int)))])
   let gi:Value:=.agg #[.string ByteArray.empty,.slice none 0 0,.map none]
   refine Gu (tb:=[aB]) (z:=.agg #[ax,ak,aj]) (cl:=Dn) (ok:=S6) (rel:=(Do v)) (L:=lst (T.at_ 6)) (size:=3) (W1 v) bV (fun k=>[ac,ab,ae,af,al,ah,(20,.v (.int .i32 ((k:Nat):Int)))]) ea U2 (fun aC am _ _ bD eb ec=>?_) (fun _ _ ee=>?_)
   ·
    let aw:Nat × SV:=(20,.v (.int .i32 ((aC:Nat):Int)))
    let aP:C8:=[ac,ab,ae,af,al,ah,aw]
    let gj:Value:=(.agg #[.string ByteArray.empty,.slice none 0 0,.map none])
    obtain ⟨gE,cG,ef⟩:∃ P',(∀ w F,P' w F → (dT w F ∧ U1 aG 3 Dn S6 (Do v) (lst (T.at_ 6)) aC w F)) ∧ RS w (fun b o=>b = bv ∧ o < 9) F 167 bK [aB,J5 aG 3 (.agg #[ax,ak,aj]) ((lst (T.at_ 6)).length) aC] aP P' ((W1 v) am ++ (((lst (T.at_ 6)).drop (aC + 1)).flatMap (W1 v) ++ bV)) _ _:=⟨_,fun _ _ h=>h,ec⟩
    obtain ⟨bE,cH⟩:∃ R,R = ((lst (T.at_ 6)).drop (aC + 1)).flatMap (W1 v) ++ bV:=⟨_,rfl⟩
    have eg:=(e26_6e am (List.mem_of_getElem? bD))
    have e190r:=(IV (FU e26r 6) am (List.mem_of_getElem? bD))
    unfold BC at eg
    obtain ⟨e190_0,e190_1,e190_U,_⟩:=eg
    obtain ⟨f8,cI⟩:∃ R,R = (if (decide (v ≥ 4)) = true then (uv am.U.length) ++ (H0 am.U) else []) ++ bE:=⟨_,rfl⟩
    obtain ⟨f9,cJ⟩:∃ R,R = (if (decide (v ≥ 4)) = true then (uv ((B9 (am.at_ 1)).length + 1) ++ (B9 (am.at_ 1))) else (be 4 (B9 (am.at_ 1)).length ++ (B9 (am.at_ 1)))) ++ f8:=⟨_,rfl⟩
    obtain ⟨ga,cK⟩:∃ R,R = (if (decide (v ≥ 4)) = true then (uv ((am.at_ 0).S.length + 1) ++ (am.at_ 0).S) else (be 2 (am.at_ 0).S.length ++ (am.at_ 0).S)) ++ f9:=⟨_,rfl⟩
    have eh:=ef.cast (t:=ga) (by rw [cK,cJ,cI,← cH]; unfold W1; simp only [List.append_assoc])
    refine wp_seq (wp_seq (E5 [ac,ab,ae,af,al,ah,aw,(124,.v (.bool (decide (((aC:Nat):Int) < (((lst (T.at_ 6)).length:Nat):Int)))))] eh fun _ cL=>A7 ?_))
    refine Q6 cL.env_ (b:=decide (((aC:Nat):Int) < (((lst (T.at_ 6)).length:Nat):Int))) kz (decide_eq_true (by omega)) ?_
    refine wp_skip (A7 (wp_seq (wp_block (wp_seq ?_))))
    let cM:C8:=[ac,ab,ae,af,al,ah,aw,(21,.p 3 0)]
    refine Jy (t:=77) (e:=110) (size:=3) (bytes:=48) (d:=129) (tb:=[aB]) (z:=.agg #[ax,ak,aj]) [ac,ab,ae,af,al,ah,aw,(127,.v (.slice (some ⟨aG,0,none⟩) ((lst (T.at_ 6)).length) bR)),(128,.v (.int .i32 ((aC:Nat):Int)))] cM 2 cL eb rfl kz fun _ ei=>?_
    let aQ:Ob:=J5 aG 3 (.agg #[ax,ak,aj]) ((lst (T.at_ 6)).length) (aC + 1)
    have ej:=ei.tbEq (tb':=[aB,aQ,⟨aG,aC * 3,[ax,ak,aj],true⟩]) rfl
    refine A7 (wp_seq (D9 [0,1] kz ?_))
    refine L8 [0] [1] [ac,ab,ae,af,al,ah,aw,(21,.p 3 0),(130,.p 3 0)] ej fun _ ek=>?_
    refine B1 (Jw (d:=131) (vs:=[.pointer (some ⟨aG,aC * 3,none⟩)]) ek (fun _=>NN _ _ _) Tryz.call104 fun _ em=>?_)
    refine B4 ?_
    have eo:=em.pk (env':=cM)
    refine A7 (wp_seq ?_)
    let aJ:Nat × SV:=(22,.p 3 0)
    let aR:C8:=[ac,ab,ae,af,al,ah,aw,aJ]
    refine E5 aR eo fun _ eu=>?_
    refine A7 (wp_seq (wp_seq (E5 aR eu fun _ ev=>?_)))
    refine A7 (wp_seq (wp_seq (E5 [ac,ab,ae,af,al,ah,aw,aJ,(133,.v (.bool false))] ev fun _ cN=>A7 ?_)))
    refine F6 cN.env_ (b:=false) kz (rfl) ?_
    have ew:=cN.cast cK
    refine Ep (d1:=138) (d2:=139) [ac,ab,ae,af,al,ah,aw,aJ,(137,.v (.bool (decide (v ≥ 4))))] [ac,ab,ae,af,al,ah,aw,aJ,(23,.v (.string (bs (am.at_ 0).S)))] ew (GD (am.at_ 0).S e190_0 _) Tryz.call93 (Ev (am.at_ 0).S e190_0 _) Tryz.call94 fun _ _ ey=>?_
    refine A7 ?_
    let aY:Value:=.string (bs (am.at_ 0).S)
    refine Q0 [aB,aQ,⟨aG,aC * 3,[aY,ak,aj],true⟩] 2 aR ey fun _ _ ez=>?_
    refine A7 (wp_seq (wp_seq (E5 aR ez fun _ eB=>?_)))
    refine A7 (wp_seq ?_)
    have eC:=eB.cast cJ
    refine Jt (d1:=145) (d2:=146) [ac,ab,ae,af,al,ah,aw,aJ,(144,.v (.bool (decide (v ≥ 4))))] (fun bS=>[ac,ab,ae,af,al,ah,aw,aJ,(24,.v (.slice bS ((B9 (am.at_ 1)).length) ((B9 (am.at_ 1)).length)))]) eC (JB (B9 (am.at_ 1)) e190_1 _) Tryz.call105 (JA (B9 (am.at_ 1)) e190_1 _) Tryz.call106 (fun _=>MvF.octs _ _ _) fun bS gb _ _ bF eD=>?_
    refine A7 ?_
    let bG:Value:=.slice bS ((B9 (am.at_ 1)).length) ((B9 (am.at_ 1)).length)
    refine Q0 [aB,aQ,⟨aG,aC * 3,[aY,bG,aj],true⟩] 2 aR eD fun _ _ eE=>?_
    refine A7 ?_
    have eF:=eE.cast cI
    refine R4 (Mid:=fun a_ w_=>∃ (bT:Option Nat) (aU:List (Int × Bs)) (P':I1),(∀ w F,P' w F → gb w F ∧ (MapR w F bT aU ∧ aU.length ≤ 1000000 ∧ ∀ x ∈ aU,x.2.length < 4294967296) ∧ ((decide (v ≥ 4)) = true → aU = am.U) ∧ ((decide (v ≥ 4)) = false → aU = [])) ∧ RS w (fun b o=>b = bv ∧ o < 9) F 167 bK [aB,aQ,⟨aG,aC * 3,[aY,bG,.map bT],true⟩] aP P' bE a_ w_) ?_ ?_
    ·
     refine wp_seq (E5 [ac,ab,ae,af,al,ah,aw,aJ,(151,.v (.bool (decide (v ≥ 4))))] eF fun _ bH=>A7 ?_)
     refine D8 bH.env_ (b:=decide (v ≥ 4)) kz (fun aS=>?_) (fun aS=>?_)
     ·
      have eG:=bH.cast (t:=((uv am.U.length) ++ (H0 am.U)) ++ bE) (by rw [if_pos aS])
      refine D9 [0,1,2,3,4] kz ?_
      refine L8 [0] [1,2,3,4] [ac,ab,ae,af,al,ah,aw,(152,.p 3 0)] eG fun _ eH=>?_
      refine B1 (Eo (d:=153) eH (GG am.U e190_U (Eb e190r) _) (fun _=>MvF.tagsM _ _) Tryz.call107 fun db gF _ _ cO eI=>?_)
      refine L8 [2,3] [4] [ac,ab,ae,af,al,ah,aw,(153,.v (.agg #[.map db])),(155,.p 3 2)] eI fun _ eJ=>?_
      refine B1 (Dd [aB,aQ,⟨aG,aC * 3,[aY,bG,.map db],true⟩] 2 eJ fun _ eK=>?_)
      refine B4 ?_
      have eM:=eK.pk (env':=aP)
      refine A7 ?_
      exact ⟨db,am.U,_,fun w F h_=>⟨(cO _ _ h_).1,⟨(cO _ _ h_).2.1,e190_U.2.1,e190_U.2.2⟩,⟨fun _=>rfl,(fun e_=>by rw [aS] at e_; cases e_)⟩⟩,eM.pk (env':=aP)⟩
     have eN:=bH.cast (t:=[] ++ bE) (by rw [if_neg (by rw [aS]; decide)])
     have eO:=eN.cast (t:=bE) rfl
     refine wp_skip (A7 ?_)
     exact ⟨none,[],_,fun w F h_=>⟨h_,⟨MapR.nil _ _,Nat.zero_le _,fun _ h=>by cases h⟩,⟨(fun e_=>by rw [aS] at e_; cases e_),fun _=>rfl⟩⟩,eO.pk (env':=aP)⟩
    rintro _ _ ⟨bT,aU,gG,aK,eP⟩
    refine G2 (A7 (E5 [ac,ab,ae,af,al,ah,(20,.v (.int .i32 (IntKind.i32.wrap (((aC:Nat):Int) + 1))))] eP fun _ eQ=>?_))
    refine A7 ?_
    let cP:C8:=[ac,ab,ae,af,al,ah,(20,.v (.int .i32 ((aC + 1:Nat):Int)))]
    have eR:=(eQ.envEq (env':=cP) (by rw [Gy (by have:=e26_6; omega)])).pk (env':=cP)
    exact (RS.thing (tb:=[aB]) (z:=.agg #[ax,ak,aj]) (D:=(J8 bT aU [O2 (bs (am.at_ 0).S),O3 bS (B9 (am.at_ 1)) (B9 (am.at_ 1)).length])) (eR.cast cH) hg_g171 bD U2 bz rfl (fun w F h_=>⟨(cG _ _ (bF _ _ (aK _ _ h_).1).1).1,(cG _ _ (bF _ _ (aK _ _ h_).1).1).2,⟨(by show ByteArray.size (bs _) ≤ 1000000; rw [M6]; exact Nat.le_trans e190_0 (by decide)),(⟨(bF _ _ (aK _ _ h_).1).2,Nat.le_trans e190_1 (by decide)⟩),(aK _ _ h_).2.1.1,(aK _ _ h_).2.1.2.1,(aK _ _ h_).2.1.2.2,trivial⟩,⟨(rfl),(rfl),(aK _ _ h_).2.2,trivial⟩⟩) kz)
   refine wp_seq (wp_seq (E5 [ac,ab,ae,af,al,ah,(20,.v (.int .i32 (((lst (T.at_ 6)).length:Nat):Int))),(124,.v (.bool (decide ((((lst (T.at_ 6)).length:Nat):Int) < (((lst (T.at_ 6)).length:Nat):Int)))))] ee fun _ cQ=>A7 ?_))
   refine F6 cQ.env_ (b:=decide ((((lst (T.at_ 6)).length:Nat):Int) < (((lst (T.at_ 6)).length:Nat):Int))) kz (decide_eq_false (by omega)) ?_
   refine wp_exit (E2 (E2 (G3 (A7 ?_))))
   obtain ⟨gc,eS⟩:=RS.listEnd (tb:=[aB]) (c:=bR) (cQ.pk (env':=[ab,ae,af,al])) hg_g171 U2 bz hcap_g171 (by have:=e26_6; omega) hn_g171 kz
   exact ⟨M7 (some ⟨aG,0,none⟩) (lst (T.at_ 6)).length bR gc,_,fun w F h_=>⟨h_.1,⟨h_.2.1,Nat.le_trans e26_6 (by decide),h_.2.2.1⟩,⟨rfl,h_.2.2.2⟩⟩,eS⟩
  refine wp_skip (A7 (wp_seq (E5 [ac,ab,ae,af,aE,ah,bw] bu fun _ eU=>?_)))
  refine A7 (wp_block (Es (wp_seq (wp_seq (E5 [ac,ab,ae,af,aE,ah,bw,(124,.v (.bool (decide (0 < (((lst (T.at_ 6)).length:Nat):Int)))))] eU fun _ cR=>A7 ?_)))))
  refine F6 cR.env_ (b:=decide (0 < (((lst (T.at_ 6)).length:Nat):Int))) kz (decide_eq_false (by have h_:=of_decide_eq_false aX; omega)) ?_
  refine wp_exit (E2 (E2 (G3 (A7 ?_))))
  have hz_:(lst (T.at_ 6)).length = 0:=by have h_:=of_decide_eq_false aX; omega
  exact ⟨M7 none 0 0 (fun _=>S2),_,fun w F h_=>⟨h_,⟨Slots.nil _ _ _ _,Nat.zero_le _,fun _ h=>absurd h (Nat.not_lt_zero _)⟩,⟨hz_.symm,fun _ h=>absurd h (Nat.not_lt_zero _)⟩⟩,(cR.cast (t:=bV) (by rw [List.eq_nil_of_length_eq_zero hz_]; rfl)).pk (env':=[ab,ae,af,aE])⟩
 rintro _ _ ⟨ap,gd,aF,eV⟩
 refine wp_seq (E5 [ab,ae,af,(17,.v (.slice ap.A ap.l ap.c))] eV fun _ eW=>?_)
 refine A7 ?_
 let bI:Value:=.slice ap.A ap.l ap.c
 refine Q0 [⟨bv,0,[ao,au,av,ay,aD,aH,aW,bI,aj],true⟩] 0 [ab,ae,af] eW fun _ _ eX=>?_
 refine A7 (wp_seq ?_)
 have eY:=eX.cast df
 refine R4 (Mid:=fun a_ w_=>∃ (bU:Option Nat) (aV:List (Int × Bs)) (P':I1),(∀ w F,P' w F → gd w F ∧ (MapR w F bU aV ∧ aV.length ≤ 1000000 ∧ ∀ x ∈ aV,x.2.length < 4294967296) ∧ ((decide (v ≥ 4)) = true → aV = T.U) ∧ ((decide (v ≥ 4)) = false → aV = [])) ∧ RS w (fun b o=>b = bv ∧ o < 9) F 167 bK [⟨bv,0,[ao,au,av,ay,aD,aH,aW,bI,.map bU],true⟩] [ab] P' ([]:Bs) a_ w_) ?_ ?_
 ·
  refine wp_seq (E5 [ab,af,(161,.v (.bool (decide (v ≥ 4))))] eY fun _ bJ=>A7 ?_)
  refine D8 bJ.env_ (b:=decide (v ≥ 4)) kz (fun aT=>?_) (fun aT=>?_)
  ·
   have eZ:=bJ.cast (t:=((uv T.U.length) ++ (H0 T.U)) ++ ([]:Bs)) (by rw [if_pos aT])
   refine D9 [0,1,2,3,4] kz ?_
   refine L8 [0] [1,2,3,4] [ab,(162,.p 1 0)] eZ fun _ e9=>?_
   refine B1 (Eo (d:=163) e9 (GG T.U e26_U (Eb e26r) _) (fun _=>MvF.tagsM _ _) Tryz.call107 fun dc gH _ _ cS fa=>?_)
   refine L8 [2,3] [4] [ab,(163,.v (.agg #[.map dc])),(165,.p 1 8)] fa fun _ fb=>?_
   refine B1 (Dd [⟨bv,0,[ao,au,av,ay,aD,aH,aW,bI,.map dc],true⟩] 0 fb fun _ fe=>?_)
   refine B4 ?_
   have ff:=fe.pk (env':=[ab])
   refine A7 ?_
   exact ⟨dc,T.U,_,fun w F h_=>⟨(cS _ _ h_).1,⟨(cS _ _ h_).2.1,e26_U.2.1,e26_U.2.2⟩,⟨fun _=>rfl,(fun e_=>by rw [aT] at e_; cases e_)⟩⟩,ff.pk (env':=[ab])⟩
  have fg:=bJ.cast (t:=[] ++ ([]:Bs)) (by rw [if_neg (by rw [aT]; decide)])
  have fh:=fg.cast (t:=([]:Bs)) rfl
  refine wp_skip (A7 ?_)
  exact ⟨none,[],_,fun w F h_=>⟨h_,⟨MapR.nil _ _,Nat.zero_le _,fun _ h=>by cases h⟩,⟨(fun e_=>by rw [aT] at e_; cases e_),fun _=>rfl⟩⟩,fh.pk (env':=[ab])⟩
 rintro _ _ ⟨bU,aV,gI,aA,fi⟩
 refine A7 (wp_seq (D9 [0,1] kz (B1 (Gs (d:=166) fi Gx Tryz.call103 fun _ fj=>?_))))
 refine L8 [1] [] [(6,.v (.nilIface))] fj fun _ cV=>B4 ?_
 refine A7 (wp_ret ?_)
 obtain ⟨A_,m_,c_,hW_,hr_,hE_,hP_⟩:=cV.open_
 refine D5 hE_ hW_.cells (v:=.nilIface) kz ?_
 have h_:=cV.mv.mono G0 hP_
 refine ⟨(J8 bU aV [O2 (bs (T.at_ 0).S),K7 (IntKind.i32.wrap (T.at_ 1).N),O2 (bs (T.at_ 2).S),bd,bg,aI,ap]),rfl,Str.of hW_ 1 rfl,?_,?_,hW_.step⟩
 ·unfold W0
  exact ⟨(by show ByteArray.size (bs _) ≤ 1000000; rw [M6]; exact Nat.le_trans e26_0 (by decide)),(trivial),(by show ByteArray.size (bs _) ≤ 1000000; rw [M6]; exact Nat.le_trans e26_2 (by decide)),((dw _ _ (bO _ _ (aL _ _ (aF _ _ (aA _ _ h_).1).1).1).1).2.1),((bO _ _ (aL _ _ (aF _ _ (aA _ _ h_).1).1).1).2.1),((aL _ _ (aF _ _ (aA _ _ h_).1).1).2.1),((aF _ _ (aA _ _ h_).1).2.1),(aA _ _ h_).2.1.1,(aA _ _ h_).2.1.2.1,(aA _ _ h_).2.1.2.2,trivial⟩
 unfold BD
 exact ⟨(rfl),(rfl),(rfl),((dw _ _ (bO _ _ (aL _ _ (aF _ _ (aA _ _ h_).1).1).1).1).2.2),((bO _ _ (aL _ _ (aF _ _ (aA _ _ h_).1).1).1).2.2),((aL _ _ (aF _ _ (aA _ _ h_).1).1).2.2),((aF _ _ (aA _ _ h_).1).2.2),(aA _ _ h_).2.2,trivial⟩
theorem JJ:O1 W0:=by
 intro w w' F F' M d hs hM hF h
 unfold W0 at h ⊢
 obtain ⟨g0,g1,g2,⟨g3,g3l⟩,⟨g4,g4l⟩,⟨g5,g5l⟩,⟨g6,g6l,g6e⟩,t1,t2,t3,_⟩:=h
 exact ⟨g0,g1,g2,⟨fun ad hA=>by
  obtain ⟨b,o,h1,h2⟩:=g3 ad hA
  exact ⟨b,o,h1,h2.move hs hM hF⟩,g3l⟩,⟨fun ad hA=>by
  obtain ⟨b,o,h1,h2⟩:=g4 ad hA
  exact ⟨b,o,h1,h2.move hs hM hF⟩,g4l⟩,⟨fun ad hA=>by
  obtain ⟨b,o,h1,h2⟩:=g5 ad hA
  exact ⟨b,o,h1,h2.move hs hM hF⟩,g5l⟩,⟨g6.move hs hM hF,g6l,fun i hi=>U2 _ hs hM hF (g6e i hi)⟩,t1.move hs hM hF,t2,t3,trivial⟩
def BE (D:DV):Tree:=.mk 0 [] false [.mk 0 (sb (D.f 0).s) false [] [],.mk 0 (D.f 1).o (D.f 1).A.isNone [] []] D.u
def BF (D:DV):Tree:=.mk 0 [] false [.mk 0 (sb (D.f 0).s) false [] [],.mk (IntKind.i64.wrap (D.f 1).n) [] false [] [],.mk 0 (sb (D.f 2).s) false [] [],T9 (D.f 3).A (D.f 3).s,T9 (D.f 4).A (D.f 4).s,T9 (D.f 5).A (D.f 5).s,.mk 0 [] (D.f 6).A.isNone ((List.range (D.f 6).l).map fun i=>BE ((D.f 6).f i)) []] D.u
set_option maxHeartbeats 4000000 in
theorem GR (v:Int) (D:DV) (b o:Nat) (w:World) (F:Nat → Nat → Prop) (hat:AtF w F b o [.string ((D.f 0).s),.slice ((D.f 1).A) ((D.f 1).o.length) ((D.f 1).c),.map D.m]) (hok:S6 w F D):Calls Tryz.prog 57 #[.pointer (some ⟨b,o,none⟩)] w (O9 w F (BE D)):=by
 refine enter (n:=32) Tryz.func57 rfl Tryz.ntmps57 kz fun a hE=>?_
 let aD:Value:=.slice ((D.f 1).A) ((D.f 1).o.length) ((D.f 1).c)
 let ag:Ob:=⟨b,o,[.string ((D.f 0).s),aD,.map D.m],false⟩
 have hW:WOk w B5 w [ag] []:=(WOk.start w B5).start1 hat rfl rfl
 unfold S6 at hok
 obtain ⟨g1,⟨g2,g2l⟩,g3,g3l,g3x,_⟩:=hok
 let ak:Nat × SV:=(0,.p 0 0)
 have hE0:=(EnvOk.ptr0 (cs:=[.string ((D.f 0).s),aD,.map D.m]) (r:=false) hE).pk (env':=[ak])
 refine B8 [0] kz ?_
 let ac:Value:=.int .i64 0
 let ab:Value:=.slice none 0 0
 let ae:Value:=.bool false
 refine B1 (D7 hW hE0 (d:=2) (cs:=[ac,ab,ae,ab,ab]) kz fun b4 a5 w6 hb7 hz8 hF9 bI bJ=>?_)
 refine B4 (A7 ?_)
 refine B8 [0,1,2,3] kz ?_
 refine B1 (CV (t:=46) (e:=49) (size:=5) (bytes:=88) (d:=4) (j:=2) (.agg #[ac,ab,ae,ab,ab]) [ac,ab,ae,ab,ab,ac,ab,ae,ab,ab] bI bJ fun aJ du dv cH cI cJ aZ bK=>?_)
 let af:Nat × SV:=(2,.p 1 0)
 let ah:Value:=.slice (some ⟨aJ,0,none⟩) 2 2
 refine B3 [1] [2,3] [ak,af,(5,.v (.agg #[ac,ab,ae,ah,ab]))] aZ bK fun dw bM=>?_
 refine B1 (D7 aZ bM (d:=3) (cs:=[ac,ab,ae,ab,ab]) kz fun bN dx dy cK cL cM bO bP=>?_)
 refine B1 (C7 bO bP (oi:=3) (cs:=[ac,ab,ae,ah,ab]) kz fun dA cN bQ bR=>?_)
 refine B4 (A7 ?_)
 refine J2 9 kz bQ fun dB cO bS bT=>?_
 let ai:Nat × SV:=(3,.p 3 0)
 let aE:Nat × SV:=(7,.v (.slice (some ⟨aJ,0,none⟩) 2 2))
 refine D6 [0,1,2,3,4,5] [ak,af,ai,aE,(11,.v (.string ((D.f 0).s)))] 4 (B2 C6) (fun _ h=>h.cells) bT bR fun dC bU=>?_
 refine C9 (i:=6) kz (Cg (d:=12) (src:=9) (dst:=30) (e:=5) (s:=((D.f 0).s)) bS bU (by omega) fun cP cQ dD dE bV ba bW bX=>?_)
 have bY:=bW F
 have aT:=TT.ofW bV ba
 refine ⟨fun _=>aT,?_⟩
 let au:Value:=.slice (some ⟨cP,0,none⟩) ((sb ((D.f 0).s)).length) cQ
 let aK:Nat × SV:=(13,.v (.agg #[ac,au,ae,ab,ab]))
 refine D6 [7] [ak,af,ai,aE,aK] 2 (B2 C6) (fun _ h=>h.cells) aT bX fun dF bZ=>?_
 refine H9 bZ (i:=8) (t:=46) (A:=(some ⟨aJ,0,none⟩)) (m:=2) (q:=0) (d:=14) kz (e:=49) (size:=5) (bytes:=88) (j:=0) kz (b:=aJ) (o:=0) rfl rfl (by decide) kz kz (B2 C6) aT fun dG cd=>?_
 have ce:=cd.recast 14 (.v (.pointer (some ⟨aJ,0 + 0 * 5,none⟩))) (.p 2 0) rfl rfl (Nat.le_of_ble_eq_true (n:=3) rfl)
 have cg:=ce.pk (env':=[ak,af,ai,aE,aK,(14,.p 2 0)])
 refine C9 (i:=9) kz (C7 ba cg (oi:=2) (cs:=[ac,au,ae,ab,ab,ac,ab,ae,ab,ab]) kz fun dH bd cm cn=>?_)
 refine ⟨fun h=>absurd rfl h,?_⟩
 refine F3 kz ?_ _
 refine A7 (J2 8 kz cm fun dI bf aF cq=>?_)
 let aL:Nat × SV:=(16,.v (.slice (some ⟨aJ,0,none⟩) 2 2))
 let aM:Nat × SV:=(20,.v (.slice ((D.f 1).A) ((D.f 1).o.length) ((D.f 1).c)))
 refine D6 [0,1,2,3,4,5] [ak,af,ai,aL,aM] 3 (B2 C6) (fun _ h=>h.cells) cq cn fun dJ cr=>?_
 refine C9 (i:=6) kz (C3 cr (f:=84) (vs:=[aD]) (d:=21) kz Tryz.call84 (GI _ _ _ _ _ (g2.move aF.step B0 aF.imm)) ?_)
 rintro e_ dK ⟨cR,rfl,cu,aU⟩
 have aV:=cu.move (Step.refl _ B5) B0 (aF.laid (G:=F) aU)
 obtain ⟨cS,cV,bH,cW,cX,cY,cZ,da,db,dc,de,df,dg,aN,dh,di,dL,dM⟩:=aV.open_
 rw [aN] at aV
 have cE:=dh.small
 have cG:=di.small
 rw [aN]
 refine ⟨_,rfl,fun dN cw=>?_⟩
 have bg:=aF.next_nil aU
 have aW:=aF.frN aU
 have bh:=TT.ofW aW bg
 refine ⟨fun _=>bh,?_⟩
 refine H9 cw (i:=7) (t:=46) (A:=(some ⟨aJ,0,none⟩)) (m:=2) (q:=1) (d:=22) kz (e:=49) (size:=5) (bytes:=88) (j:=1) kz (b:=aJ) (o:=0) rfl rfl (by decide) kz kz (B2 C6) bh fun dO cz=>?_
 have cA:=cz.recast 22 (.v (.pointer (some ⟨aJ,0 + 1 * 5,none⟩))) (.p 2 5) rfl rfl (Nat.le_of_ble_eq_true (n:=3) rfl)
 let aw:Value:=.int .i64 cS
 let ax:Value:=.slice cY cV.length cZ
 let ay:Value:=.slice da cW.length db
 let aA:Value:=.slice dc cX.length de
 have cB:=cA.pk (env':=[ak,af,ai,aL,aM,(21,.v (.agg #[aw,ax,.bool bH,ay,aA])),(22,.p 2 5)])
 refine C9 (i:=8) kz (C7 bg cB (oi:=2) (cs:=[ac,au,ae,ab,ab,aw,ax,.bool bH,ay,aA]) kz fun cC aB al bi=>?_)
 refine ⟨fun h=>absurd rfl h,?_⟩
 refine F3 kz ?_ _
 refine A7 (B8 [0,1,2,3,4] kz ?_)
 refine B3 [0,1,2] [3,4] [af,ai,(25,.p 0 2)] al bi fun dj bj=>?_
 let aG:Value:=.pointer (some ⟨bN,0,none⟩)
 refine B1 (BY bj (v:=.func (.func 108) #[] #[aG]) (d:=26) kz fun dl bk=>?_)
 let av:Ob:=⟨b4,0,[ac,ab,ae,ab,ab],true⟩
 let aj:Ob:=⟨aJ,0,[ac,au,ae,ab,ab,aw,ax,.bool bH,ay,aA],true⟩
 let aO:Ob:=⟨bN,0,[ac,ab,ae,ah,ab],true⟩
 refine B1 (C3 bk (f:=58) (vs:=[.pointer (some ⟨b,o + 2,none⟩),.func (.func 108) #[] #[aG]]) (d:=27) kz Tryz.call58 (Gi (F:=(D4 F w cC [ag,av,aj,aO] [])) Tryz.call108 Nt ((hat.one 2 rfl).move al.step B0 al.imm) (g3.move al.step B0 al.imm) (Str.of al 3 rfl) (Cf 3 rfl) g3l) ?_)
 rintro e_ dm ⟨rfl,bn,bp,aX,bq,bt⟩
 let am:Value:=.slice bn D.u.length bp
 let ao:Ob:=⟨bN,0,[ac,ab,ae,ah,am],true⟩
 obtain ⟨aH,aC,bu⟩:=al.wrote 3 [ag,av,aj,ao] rfl bt aX
 have aP:=bq.move (Step.refl _ B5) B0 (fun b_ o_ h_ hb_=>bu (G:=F) b_ o_ (.inr h_) hb_)
 refine ⟨_,rfl,fun dn bw=>?_⟩
 have bz:=(EnvOk.places (tb':=[ag,av,aj,ao]) bw (show Pl [ag,av,aj,aO] [ag,av,aj,ao] from ⟨rfl,rfl,⟨rfl,rfl,⟨rfl,rfl,⟨rfl,rfl,trivial⟩⟩⟩⟩)).pk (env':=[(27,.v (.tuple #[])),af,ai,(25,.p 0 2),(26,.v (.func (.func 108) #[] #[aG]))])
 refine B4 (A7 ?_)
 refine B8 [0,1,2] kz ?_
 refine B3 [0,1] [2] [af,ai,(29,.v (.slice bn D.u.length bp))] aH bz fun dp bD=>?_
 refine B1 (C3 bD (f:=60) (vs:=[am]) (d:=30) kz Tryz.call60 (GH aP g3.sorted) ?_)
 rintro e_ dq ⟨rfl,aQ⟩
 refine ⟨_,rfl,fun dr bE=>?_⟩
 have aR:=aH.next_nil aQ
 have ap:=aH.frN aQ
 refine B4 (A7 ?_)
 refine B8 [0,1] kz ?_
 refine B3 [0] [1] [af,(31,.v (.agg #[ac,ab,ae,ah,am]))] aR bE fun dt bF=>?_
 refine B1 (C7 aR bF (oi:=1) (cs:=[ac,ab,ae,ah,am]) kz fun aY ar aS bG=>?_)
 refine B4 (A7 ?_)
 refine wp_ret (D5 bG aS.cells (v:=.agg #[ac,ab,ae,ah,am]) kz ?_)
 let aI:Ob:=⟨b4,0,[ac,ab,ae,ah,am],true⟩
 exact CX (u:=D.u) (l:=[.mk 0 (sb (D.f 0).s) false [] [],.mk 0 (D.f 1).o (D.f 1).A.isNone [] []]) (css:=[[ac,au,ae,ab,ab],[aw,ax,.bool bH,ay,aA]]) aS 2 rfl ⟨(show TreeR _ (D4 F w aY [ag,aI,aj,ao] []) _ _ from (TreeR.mk (n:=0) (b:=false) (s:=(sb ((D.f 0).s))) (l:=[]) (u:=[]) (fun _=>[]) (bY.move ((((((bd.trans bf).trans aW).trans aB).trans aC).trans ap).trans ar).step immM ((((((bd.trans bf).trans aW).trans aB).trans aC).trans ap).trans ar).to') (Slots.nil _ _ _ _) (fun i_ x_ h_=>by simp at h_) (TagsR.nil _ _))).move (Step.refl _ B5) B0 G0,(show TreeR _ (D4 F w aY [ag,aI,aj,ao] []) _ _ from (aV.move (((aB.trans aC).trans ap).trans ar).step immM (((aB.trans aC).trans ap).trans ar).to')).move (Step.refl _ B5) B0 G0,trivial⟩ ((show TagsR _ (D4 F w aY [ag,aI,aj,ao] []) _ _ _ from (aP.move (ap.trans ar).step immM (ap.trans ar).to')).move (Step.refl _ B5) B0 G0)
set_option maxHeartbeats 4000000 in
theorem NP (v:Int) (D:DV) (b o:Nat) (w:World) (F:Nat → Nat → Prop) (hat:AtF w F b o [.int .i16 v,.string ((D.f 0).s),.int .i32 ((D.f 1).n),.string ((D.f 2).s),.pointer ((D.f 3).A),.pointer ((D.f 4).A),.pointer ((D.f 5).A),.slice ((D.f 6).A) ((D.f 6).l) ((D.f 6).c),.map D.m]) (hok:W0 w F D):Calls Tryz.prog 34 #[.pointer (some ⟨b,o,none⟩)] w (O9 w F (BF D)):=by
 refine enter (n:=123) Tryz.func34 rfl Tryz.ntmps34 kz fun a hE=>?_
 let dl:Value:=.pointer ((D.f 3).A)
 let dm:Value:=.pointer ((D.f 4).A)
 let dn:Value:=.pointer ((D.f 5).A)
 let eC:Value:=.slice ((D.f 6).A) ((D.f 6).l) ((D.f 6).c)
 let aI:Ob:=⟨b,o,[.int .i16 v,.string ((D.f 0).s),.int .i32 ((D.f 1).n),.string ((D.f 2).s),dl,dm,dn,eC,.map D.m],false⟩
 have hW:WOk w B5 w [aI] []:=(WOk.start w B5).start1 hat rfl rfl
 unfold W0 at hok
 obtain ⟨g1,g2,g3,⟨g4,g4l⟩,⟨g5,g5l⟩,⟨g6,g6l⟩,⟨g7,g7l,g7e⟩,g8,g8l,g8x,_⟩:=hok
 let ah:Nat × SV:=(0,.p 0 0)
 have hE0:=(EnvOk.ptr0 (cs:=[.int .i16 v,.string ((D.f 0).s),.int .i32 ((D.f 1).n),.string ((D.f 2).s),dl,dm,dn,eC,.map D.m]) (r:=false) hE).pk (env':=[ah])
 refine B8 [0] kz ?_
 let ae:Value:=.int .i64 0
 let ab:Value:=.slice none 0 0
 let ac:Value:=.bool false
 refine B1 (D7 hW hE0 (d:=2) (cs:=[ae,ab,ac,ab,ab]) kz fun b9 oW oX mD mF mG jS jT=>?_)
 refine B4 (A7 ?_)
 refine B8 [0,1,2,3] kz ?_
 refine B1 (CV (t:=46) (e:=49) (size:=5) (bytes:=88) (d:=5) (j:=7) (.agg #[ae,ab,ac,ab,ab]) (ae :: ab :: ac :: ab :: ab :: ae :: ab :: ac :: ab :: ab :: ae :: ab :: ac :: ab :: ab :: ae :: ab :: ac :: ab :: ab :: ae :: ab :: ac :: ab :: ab :: ae :: ab :: ac :: ab :: ab :: ae :: ab :: ac :: ab :: ab :: []) jS jT fun aH oY oZ mH mI mJ fV jU=>?_)
 let af:Nat × SV:=(2,.p 1 0)
 let bd:Value:=.slice (some ⟨aH,0,none⟩) 7 7
 refine B3 [1] [2,3] [ah,af,(6,.v (.agg #[ae,ab,ac,bd,ab]))] fV jU fun o5 jV=>?_
 refine B1 (D7 fV jV (d:=3) (cs:=[ae,ab,ac,ab,ab]) kz fun jW o6 o7 mK mL mM jX jY=>?_)
 refine B1 (C7 jX jY (oi:=3) (cs:=[ae,ab,ac,bd,ab]) kz fun o8 mN jZ j0=>?_)
 refine B4 (A7 ?_)
 refine J2 9 kz jZ fun o9 mO j1 j2=>?_
 let ag:Nat × SV:=(3,.p 3 0)
 let dp:Nat × SV:=(8,.v (.slice (some ⟨aH,0,none⟩) 7 7))
 refine D6 [0,1,2,3,4,5] [ah,af,ag,dp,(12,.v (.string ((D.f 0).s)))] 4 (B2 C6) (fun _ h=>h.cells) j2 j0 fun pa j3=>?_
 refine C9 (i:=6) kz (Cg (d:=13) (src:=9) (dst:=30) (e:=5) (s:=((D.f 0).s)) j1 j3 (by omega) fun mQ mR pb pc j4 fW j5 j6=>?_)
 have j7:=j5 F
 have fD:=TT.ofW j4 fW
 refine ⟨fun _=>fD,?_⟩
 let ai:Value:=.slice (some ⟨mQ,0,none⟩) ((sb ((D.f 0).s)).length) mR
 let eD:Nat × SV:=(14,.v (.agg #[ae,ai,ac,ab,ab]))
 refine D6 [7] [ah,af,ag,dp,eD] 2 (B2 C6) (fun _ h=>h.cells) fD j6 fun pd j8=>?_
 refine H9 j8 (i:=8) (t:=46) (A:=(some ⟨aH,0,none⟩)) (m:=7) (q:=0) (d:=15) kz (e:=49) (size:=5) (bytes:=88) (j:=0) kz (b:=aH) (o:=0) rfl rfl (by decide) kz kz (B2 C6) fD fun pe j9=>?_
 have ka:=j9.recast 15 (.v (.pointer (some ⟨aH,0 + 0 * 5,none⟩))) (.p 2 0) rfl rfl (Nat.le_of_ble_eq_true (n:=3) rfl)
 have kd:=ka.pk (env':=[ah,af,ag,dp,eD,(15,.p 2 0)])
 refine C9 (i:=9) kz (C7 fW kd (oi:=2) (cs:=(ae :: ai :: ac :: ab :: ab :: ae :: ab :: ac :: ab :: ab :: ae :: ab :: ac :: ab :: ab :: ae :: ab :: ac :: ab :: ab :: ae :: ab :: ac :: ab :: ab :: ae :: ab :: ac :: ab :: ab :: ae :: ab :: ac :: ab :: ab :: [])) kz fun pf fX ke kf=>?_)
 refine ⟨fun h=>absurd rfl h,?_⟩
 refine F3 kz ?_ _
 refine A7 (J2 9 kz ke fun pg fY kg fZ=>?_)
 let eE:Nat × SV:=(17,.v (.slice (some ⟨aH,0,none⟩) 7 7))
 let aj:Value:=.int .i64 (IntKind.i64.wrap ((D.f 1).n))
 let lW:Value:=(.agg #[.int .i64 (IntKind.i64.wrap ((D.f 1).n)),.slice none 0 0,.bool false,.slice none 0 0,.slice none 0 0])
 refine D6 [0,1,2,3,4,5,6,7] [ah,af,ag,eE,(23,.v (.agg #[aj,ab,ac,ab,ab]))] 2 (B2 C6) (fun _ h=>h.cells) fZ kf fun ph kh=>?_
 refine H9 kh (i:=8) (t:=46) (A:=(some ⟨aH,0,none⟩)) (m:=7) (q:=1) (d:=24) kz (e:=49) (size:=5) (bytes:=88) (j:=1) kz (b:=aH) (o:=0) rfl rfl (by decide) kz kz (B2 C6) fZ fun pi ki=>?_
 have kj:=ki.recast 24 (.v (.pointer (some ⟨aH,0 + 1 * 5,none⟩))) (.p 2 5) rfl rfl (Nat.le_of_ble_eq_true (n:=3) rfl)
 have km:=kj.pk (env':=[ah,af,ag,eE,(23,.v (.agg #[aj,ab,ac,ab,ab])),(24,.p 2 5)])
 refine C9 (i:=9) kz (C7 kg km (oi:=2) (cs:=(ae :: ai :: ac :: ab :: ab :: aj :: ab :: ac :: ab :: ab :: ae :: ab :: ac :: ab :: ab :: ae :: ab :: ac :: ab :: ab :: ae :: ab :: ac :: ab :: ab :: ae :: ab :: ac :: ab :: ab :: ae :: ab :: ac :: ab :: ab :: [])) kz fun pj f5 ko kp=>?_)
 refine ⟨fun h=>absurd rfl h,?_⟩
 refine F3 kz ?_ _
 refine A7 (J2 9 kz ko fun pl f7 kq ku=>?_)
 let dq:Nat × SV:=(26,.v (.slice (some ⟨aH,0,none⟩) 7 7))
 refine D6 [0,1,2,3,4,5] [ah,af,ag,dq,(30,.v (.string ((D.f 2).s)))] 4 (B2 C6) (fun _ h=>h.cells) ku kp fun pm kv=>?_
 refine C9 (i:=6) kz (Cg (d:=31) (src:=9) (dst:=30) (e:=5) (s:=((D.f 2).s)) kq kv (by omega) fun mS mT pn po fE f8 kw ky=>?_)
 have kA:=kw F
 have fF:=TT.ofW fE f8
 refine ⟨fun _=>fF,?_⟩
 let ak:Value:=.slice (some ⟨mS,0,none⟩) ((sb ((D.f 2).s)).length) mT
 let eF:Nat × SV:=(32,.v (.agg #[ae,ak,ac,ab,ab]))
 refine D6 [7] [ah,af,ag,dq,eF] 2 (B2 C6) (fun _ h=>h.cells) fF ky fun pp kB=>?_
 refine H9 kB (i:=8) (t:=46) (A:=(some ⟨aH,0,none⟩)) (m:=7) (q:=2) (d:=33) kz (e:=49) (size:=5) (bytes:=88) (j:=2) kz (b:=aH) (o:=0) rfl rfl (by decide) kz kz (B2 C6) fF fun pq kC=>?_
 have kD:=kC.recast 33 (.v (.pointer (some ⟨aH,0 + 2 * 5,none⟩))) (.p 2 10) rfl rfl (Nat.le_of_ble_eq_true (n:=3) rfl)
 have f9:=kD.pk (env':=[ah,af,ag,dq,eF,(33,.p 2 10)])
 refine C9 (i:=9) kz (C7 f8 f9 (oi:=2) (cs:=(ae :: ai :: ac :: ab :: ab :: aj :: ab :: ac :: ab :: ab :: ae :: ak :: ac :: ab :: ab :: ae :: ab :: ac :: ab :: ab :: ae :: ab :: ac :: ab :: ab :: ae :: ab :: ac :: ab :: ab :: ae :: ab :: ac :: ab :: ab :: [])) kz fun mU cI ga gb=>?_)
 refine ⟨fun h=>absurd rfl h,?_⟩
 refine F3 kz ?_ _
 refine A7 (J2 8 kz ga fun kE cJ bR gc=>?_)
 let eG:Nat × SV:=(35,.v (.slice (some ⟨aH,0,none⟩) 7 7))
 refine D6 [0,1,2,3,4,5] [ah,af,ag,eG,(39,.v (.pointer ((D.f 3).A)))] 3 (B2 C6) (fun _ h=>h.cells) gc gb fun mV gd=>?_
 let aN:Ob:=⟨b9,0,[ae,ab,ac,ab,ab],true⟩
 let aR:Ob:=⟨jW,0,[ae,ab,ac,bd,ab],true⟩
 refine C9 (i:=6) kz (C3 gd (f:=56) (vs:=[dl]) (d:=40) kz Tryz.call56 (Dj _ (D.f 3).s _ (D4 F w kE [aI,aN,⟨aH,0,(ae :: ai :: ac :: ab :: ab :: aj :: ab :: ac :: ab :: ab :: ae :: ak :: ac :: ab :: ab :: ae :: ab :: ac :: ab :: ab :: ae :: ab :: ac :: ab :: ab :: ae :: ab :: ac :: ab :: ab :: ae :: ab :: ac :: ab :: ab :: []),true⟩,aR] []) (fun ad h_=>by obtain ⟨b',o',g1,g2⟩:=g4 ad h_; exact ⟨b',o',g1,g2.move bR.step B0 bR.imm⟩) g4l) ?_)
 rintro e_ mW ⟨lX,rfl,ge,dr⟩
 have dt:=ge.move (Step.refl _ B5) B0 (bR.laid (G:=F) dr)
 obtain ⟨kF,kG,kH,kI,kJ,kK,kM,kN,kP,kQ,kR,lY,lZ,du,kS,kU,mX,mY⟩:=dt.open_
 rw [du] at dt
 have kV:=kS.small
 have kW:=kU.small
 rw [du]
 refine ⟨_,rfl,fun mZ gg=>?_⟩
 have eH:=bR.next_nil dr
 have bS:=bR.frN dr
 have eI:=TT.ofW bS eH
 refine ⟨fun _=>eI,?_⟩
 refine H9 gg (i:=7) (t:=46) (A:=(some ⟨aH,0,none⟩)) (m:=7) (q:=3) (d:=41) kz (e:=49) (size:=5) (bytes:=88) (j:=3) kz (b:=aH) (o:=0) rfl rfl (by decide) kz kz (B2 C6) eI fun m4 gh=>?_
 have gi:=gh.recast 41 (.v (.pointer (some ⟨aH,0 + 3 * 5,none⟩))) (.p 2 15) rfl rfl (Nat.le_of_ble_eq_true (n:=3) rfl)
 let al:Value:=.int .i64 kF
 let am:Value:=.slice kK kG.length kM
 let ao:Value:=.bool kH
 let ap:Value:=.slice kN kI.length kP
 let ar:Value:=.slice kQ kJ.length kR
 have gj:=gi.pk (env':=[ah,af,ag,eG,(39,.v (.pointer ((D.f 3).A))),(40,.v (.agg #[al,am,ao,ap,ar])),(41,.p 2 15)])
 refine C9 (i:=8) kz (C7 eH gj (oi:=2) (cs:=(ae :: ai :: ac :: ab :: ab :: aj :: ab :: ac :: ab :: ab :: ae :: ak :: ac :: ab :: ab :: al :: am :: ao :: ap :: ar :: ae :: ab :: ac :: ab :: ab :: ae :: ab :: ac :: ab :: ab :: ae :: ab :: ac :: ab :: ab :: [])) kz fun m5 bK gk gm=>?_)
 refine ⟨fun h=>absurd rfl h,?_⟩
 refine F3 kz ?_ _
 refine A7 (J2 8 kz gk fun kX bM bT gn=>?_)
 let eJ:Nat × SV:=(43,.v (.slice (some ⟨aH,0,none⟩) 7 7))
 refine D6 [0,1,2,3,4,5] [ah,af,ag,eJ,(47,.v (.pointer ((D.f 4).A)))] 3 (B2 C6) (fun _ h=>h.cells) gn gm fun m6 gp=>?_
 refine C9 (i:=6) kz (C3 gp (f:=56) (vs:=[dm]) (d:=48) kz Tryz.call56 (Dj _ (D.f 4).s _ (D4 F w kX [aI,aN,⟨aH,0,(ae :: ai :: ac :: ab :: ab :: aj :: ab :: ac :: ab :: ab :: ae :: ak :: ac :: ab :: ab :: al :: am :: ao :: ap :: ar :: ae :: ab :: ac :: ab :: ab :: ae :: ab :: ac :: ab :: ab :: ae :: ab :: ac :: ab :: ab :: []),true⟩,aR] []) (fun ad h_=>by obtain ⟨b',o',g1,g2⟩:=g5 ad h_; exact ⟨b',o',g1,g2.move bT.step B0 bT.imm⟩) g5l) ?_)
 rintro e_ m7 ⟨l3,rfl,gq,dv⟩
 have dw:=gq.move (Step.refl _ B5) B0 (bT.laid (G:=F) dv)
 obtain ⟨kY,kZ,k7,la,lb,lc,ld,lf,lg,lh,li,l5,l6,dx,lj,lm,m8,m9⟩:=dw.open_
 rw [dx] at dw
 have ln:=lj.small
 have lp:=lm.small
 rw [dx]
 refine ⟨_,rfl,fun nf gt=>?_⟩
 have eK:=bT.next_nil dv
 have bt:=bT.frN dv
 have eM:=TT.ofW bt eK
 refine ⟨fun _=>eM,?_⟩
 refine H9 gt (i:=7) (t:=46) (A:=(some ⟨aH,0,none⟩)) (m:=7) (q:=4) (d:=49) kz (e:=49) (size:=5) (bytes:=88) (j:=4) kz (b:=aH) (o:=0) rfl rfl (by decide) kz kz (B2 C6) eM fun ng gv=>?_
 have gw:=gv.recast 49 (.v (.pointer (some ⟨aH,0 + 4 * 5,none⟩))) (.p 2 20) rfl rfl (Nat.le_of_ble_eq_true (n:=3) rfl)
 let au:Value:=.int .i64 kY
 let av:Value:=.slice lc kZ.length ld
 let aw:Value:=.bool k7
 let ax:Value:=.slice lf la.length lg
 let ay:Value:=.slice lh lb.length li
 have gy:=gw.pk (env':=[ah,af,ag,eJ,(47,.v (.pointer ((D.f 4).A))),(48,.v (.agg #[au,av,aw,ax,ay])),(49,.p 2 20)])
 refine C9 (i:=8) kz (C7 eK gy (oi:=2) (cs:=(ae :: ai :: ac :: ab :: ab :: aj :: ab :: ac :: ab :: ab :: ae :: ak :: ac :: ab :: ab :: al :: am :: ao :: ap :: ar :: au :: av :: aw :: ax :: ay :: ae :: ab :: ac :: ab :: ab :: ae :: ab :: ac :: ab :: ab :: [])) kz fun nh bf gz gA=>?_)
 refine ⟨fun h=>absurd rfl h,?_⟩
 refine F3 kz ?_ _
 refine A7 (J2 8 kz gz fun lq bg bU gB=>?_)
 let eN:Nat × SV:=(51,.v (.slice (some ⟨aH,0,none⟩) 7 7))
 refine D6 [0,1,2,3,4,5] [ah,af,ag,eN,(55,.v (.pointer ((D.f 5).A)))] 3 (B2 C6) (fun _ h=>h.cells) gB gA fun ni gC=>?_
 refine C9 (i:=6) kz (C3 gC (f:=56) (vs:=[dn]) (d:=56) kz Tryz.call56 (Dj _ (D.f 5).s _ (D4 F w lq [aI,aN,⟨aH,0,(ae :: ai :: ac :: ab :: ab :: aj :: ab :: ac :: ab :: ab :: ae :: ak :: ac :: ab :: ab :: al :: am :: ao :: ap :: ar :: au :: av :: aw :: ax :: ay :: ae :: ab :: ac :: ab :: ab :: ae :: ab :: ac :: ab :: ab :: []),true⟩,aR] []) (fun ad h_=>by obtain ⟨b',o',g1,g2⟩:=g6 ad h_; exact ⟨b',o',g1,g2.move bU.step B0 bU.imm⟩) g6l) ?_)
 rintro e_ nj ⟨l7,rfl,gD,dy⟩
 have dA:=gD.move (Step.refl _ B5) B0 (bU.laid (G:=F) dy)
 obtain ⟨lr,ls,lu,lv,lw,lx,ly,lz,lA,lB,lC,l8,l9,dB,lD,lE,nk,nl⟩:=dA.open_
 rw [dB] at dA
 have lF:=lD.small
 have lG:=lE.small
 rw [dB]
 refine ⟨_,rfl,fun nm gE=>?_⟩
 have eO:=bU.next_nil dy
 have aY:=bU.frN dy
 have eP:=TT.ofW aY eO
 refine ⟨fun _=>eP,?_⟩
 refine H9 gE (i:=7) (t:=46) (A:=(some ⟨aH,0,none⟩)) (m:=7) (q:=5) (d:=57) kz (e:=49) (size:=5) (bytes:=88) (j:=5) kz (b:=aH) (o:=0) rfl rfl (by decide) kz kz (B2 C6) eP fun np gF=>?_
 have gG:=gF.recast 57 (.v (.pointer (some ⟨aH,0 + 5 * 5,none⟩))) (.p 2 25) rfl rfl (Nat.le_of_ble_eq_true (n:=3) rfl)
 let aA:Value:=.int .i64 lr
 let aB:Value:=.slice lx ls.length ly
 let aC:Value:=.bool lu
 let aD:Value:=.slice lz lv.length lA
 let aE:Value:=.slice lB lw.length lC
 have gH:=gG.pk (env':=[ah,af,ag,eN,(55,.v (.pointer ((D.f 5).A))),(56,.v (.agg #[aA,aB,aC,aD,aE])),(57,.p 2 25)])
 refine C9 (i:=8) kz (C7 eO gH (oi:=2) (cs:=(ae :: ai :: ac :: ab :: ab :: aj :: ab :: ac :: ab :: ab :: ae :: ak :: ac :: ab :: ab :: al :: am :: ao :: ap :: ar :: au :: av :: aw :: ax :: ay :: aA :: aB :: aC :: aD :: aE :: ae :: ab :: ac :: ab :: ab :: [])) kz fun nr aS gI gJ=>?_)
 refine ⟨fun h=>absurd rfl h,?_⟩
 refine F3 kz ?_ _
 refine A7 (J2 9 kz gI fun ns aT gK dC=>?_)
 let eQ:Nat × SV:=(59,.v (.slice (some ⟨aH,0,none⟩) 7 7))
 let dD:Nat × SV:=(64,.v (.bool (((D.f 6).A).isNone)))
 refine D6 [0,1,2,3,4,5,6] [ah,af,ag,eQ,dD] 3 (B2 C6) (fun _ h=>h.cells) dC gJ fun nt gL=>?_
 refine C9 (i:=7) kz (F2 gL (t:=46) (A:=(some ⟨aH,0,none⟩)) (m:=7) (q:=6) (d:=65) kz (e:=49) (size:=5) (bytes:=88) (j:=6) kz (b:=aH) (o:=0) rfl rfl (by decide) fun nu gM=>?_)
 have gN:=gM.recast 65 (.v (.pointer (some ⟨aH,0 + 6 * 5,none⟩))) (.p 2 30) rfl rfl (Nat.le_of_ble_eq_true (n:=3) rfl)
 have gO:=gN.pk (env':=[ah,af,ag,eQ,dD,(65,.p 2 30)])
 refine ⟨fun _=>dC,?_⟩
 refine D6 [8] [ah,af,ag,dD,(66,.p 2 32)] 1 (B2 C6) (fun _ h=>h.cells) dC gO fun nv gP=>?_
 let aG:Value:=.bool (((D.f 6).A).isNone)
 refine C9 (i:=9) kz (C7 gK gP (oi:=2) (cs:=(ae :: ai :: ac :: ab :: ab :: aj :: ab :: ac :: ab :: ab :: ae :: ak :: ac :: ab :: ab :: al :: am :: ao :: ap :: ar :: au :: av :: aw :: ax :: ay :: aA :: aB :: aC :: aD :: aE :: ae :: ab :: aG :: ab :: ab :: [])) kz fun nw aU dE gQ=>?_)
 refine ⟨fun h=>absurd rfl h,?_⟩
 refine F3 kz ?_ _
 refine A7 (wp_seq ?_)
 let aF:Nat × SV:=(71,.v (.int .i64 (((D.f 6).l:Nat):Int)))
 refine C1 [ah,af,ag,aF,(72,.v (.int .i64 0))] dE gQ fun nx gR=>?_
 refine wp_block ?_
 have eR:=dE.addNil 49 5
 have aV:=dE.frNil 49 5
 refine wp_loop_ghost (fun n_ a_ w_=>∃ (k6_:Nat) (A6_:Option Addr) (c6_:Nat) (xs6_:List Value) (css6_:List (List Value)),n_ = (D.f 6).l - k6_ ∧ k6_ ≤ (D.f 6).l ∧ (Trees w_ (D4 F w w_ [aI,aN,⟨aH,0,(ae :: ai :: ac :: ab :: ab :: aj :: ab :: ac :: ab :: ab :: ae :: ak :: ac :: ab :: ab :: al :: am :: ao :: ap :: ar :: au :: av :: aw :: ax :: ay :: aA :: aB :: aC :: aD :: aE :: ae :: ab :: aG :: .slice A6_ k6_ c6_ :: ab :: []),true⟩,aR] [⟨A6_,c6_,49,5,k6_,xs6_⟩]) xs6_ (((List.range (D.f 6).l).map (fun i=>BE ((D.f 6).f i))).take k6_) css6_) ∧ F1 eR 123 [aI,aN,⟨aH,0,(ae :: ai :: ac :: ab :: ab :: aj :: ab :: ac :: ab :: ab :: ae :: ak :: ac :: ab :: ab :: al :: am :: ao :: ap :: ar :: au :: av :: aw :: ax :: ay :: aA :: aB :: aC :: aD :: aE :: ae :: ab :: aG :: .slice A6_ k6_ c6_ :: ab :: []),true⟩,aR] [⟨A6_,c6_,49,5,k6_,xs6_⟩] [ah,af,ag,aF,(72,.v (.int .i64 ((k6_:Nat):Int)))] a_ w_) ((D.f 6).l) ⟨0,none,0,[],[],by omega,by omega,Trees.nil _ _,gR.pk,eR,Fr.refl _ _ _⟩ ?_
 rintro ny nz lH ⟨k6_,A6_,c6_,xs6_,css6_,ma,mc,hT6_,gS,aW,aO⟩
 let aJ:Nat × SV:=(72,.v (.int .i64 ((k6_:Nat):Int)))
 refine C1 [ah,af,ag,aF,aJ,(73,.v (.bool (decide (((k6_:Nat):Int) < (((D.f 6).l:Nat):Int)))))] aW gS fun nA dF=>?_
 refine wp_seq (D8 dF (b:=decide (((k6_:Nat):Int) < (((D.f 6).l:Nat):Int))) kz (fun dG=>?_) (fun dG=>?_))
 ·
  have md:=of_decide_eq_true dG
  refine wp_skip (A7 (wp_seq (wp_block ?_)))
  let dH:Nat × SV:=(4,.v (.int .i64 ((k6_:Nat):Int)))
  refine C1 [ah,af,ag,dH,aF,aJ] aW dF fun nB gT=>?_
  refine J2 4 kz aW fun nC aZ gU me=>?_
  refine C9 (i:=0) kz (D7 gU gT (d:=75) (cs:=[ac]) kz fun nD nE nF mf mg aK dI eS=>?_)
  have gV:=TT.ofW aK dI
  refine ⟨fun _=>gV,?_⟩
  refine N8 (i:=1) (j:=2) kz ?_ ?_
  ·
   refine (C7 dI eS (oi:=4) (cs:=[.bool true]) kz fun nG bN eU gW=>?_)
   have gX:=TT.ofW (aK.trans bN) eU
   refine ⟨fun _=>gX,?_⟩
   refine C9 (i:=2) kz (C7 eU gW (oi:=4) (cs:=[ac]) kz fun nH bV cK gY=>?_)
   have gZ:=TT.ofW ((aK.trans bN).trans bV) cK
   refine ⟨fun _=>gZ,?_⟩
   refine C9 (i:=3) kz (T5 [0,2,3,4,71,72,76] cK.cells gY (env':=[ah,af,ag,dH,aF,aJ,(76,.v (.bool false))]) kz fun nI eV=>?_)
   have g9:=TT.ofW ((aK.trans bN).trans bV) cK
   refine ⟨fun _=>g9,?_⟩
   refine F3 kz ?_ _
   refine A7 (F6 eV (b:=false) kz rfl ?_)
   refine P5 18 kz cK fun nJ dJ bu cL=>?_
   let cM:Nat × SV:=(96,.v (.slice (some ⟨aH,0,none⟩) 7 7))
   let eW:Nat × SV:=(98,.v (.slice (some ⟨aH,0,none⟩) 7 7))
   let cN:Nat × SV:=(105,.v (.slice ((D.f 6).A) ((D.f 6).l) ((D.f 6).c)))
   let cO:Nat × SV:=(106,.v (.int .i64 ((k6_:Nat):Int)))
   refine D6 [0,1,2,3,7,8,9,10,11] [ah,af,ag,aF,aJ,cM,eW,cN,cO] 10 (C0 (B2 (B2 (C0 (B2 C6))))) (fun _ h=>h.cells) cL eV fun nK hC=>?_
   refine H9 hC (i:=4) (t:=46) (A:=(some ⟨aH,0,none⟩)) (m:=7) (q:=6) (d:=99) kz (e:=49) (size:=5) (bytes:=88) (j:=6) kz (b:=aH) (o:=0) rfl rfl (by decide) kz kz (C0 (B2 (B2 (C0 (B2 C6))))) cL fun nL hJ=>?_
   have hK:=hJ.recast 99 (.v (.pointer (some ⟨aH,0 + 6 * 5,none⟩))) (.p 2 30) rfl rfl (Nat.le_of_ble_eq_true (n:=3) rfl)
   have hY:=hK.pk (env':=[ah,af,ag,aF,aJ,cM,eW,cN,cO,(99,.p 2 30)])
   refine D6 [5,6] [ah,af,ag,aF,aJ,cM,(101,.v (.slice A6_ k6_ c6_)),cN,cO] 7 (C0 (B2 (B2 (C0 (B2 C6))))) (fun _ h=>h.cells) cL hY fun nM hZ=>?_
   obtain ⟨ia,ib,ic,mh,fG⟩:=Slots.get g7 (i:=k6_) (by omega)
   refine H9 hZ (i:=12) (t:=77) (A:=(D.f 6).A) (m:=((D.f 6).l)) (q:=((k6_:Nat):Int)) (d:=107) kz (e:=110) (size:=3) (bytes:=48) kz ic rfl (by omega) kz kz (C0 (B2 (B2 (C0 (B2 C6))))) cL fun nN ig=>?_
   refine C9 (i:=13) kz (C3 ig (f:=57) (vs:=[.pointer (some ⟨ia,ib + k6_ * 3,none⟩)]) (d:=108) kz Tryz.call57 (GR 0 ((D.f 6).f k6_) _ _ _ _ (fG.move bu.step B0 bu.imm) (U2 _ bu.step B0 bu.imm (g7e k6_ (by omega)))) ?_)
   rintro e_ nO ⟨mi,rfl,ii,dK⟩
   have dL:=ii.move (Step.refl _ B5) B0 (bu.laid (G:=F) dK)
   obtain ⟨fH,fI,dj,fJ,fK,fL,fM,fN,fO,fP,fQ,mj,ml,dM,lI,lJ,nP,nQ⟩:=dL.open_
   rw [dM] at dL
   have lK:=lI.small
   have lL:=lJ.small
   rw [dM]
   refine ⟨_,rfl,fun nR ij=>?_⟩
   have eX:=bu.next_nil dK
   have bw:=bu.frN dK
   have ik:=TT.ofW bw eX
   refine ⟨fun _=>ik,?_⟩
   let cP:Value:=.int .i64 fH
   let cQ:Value:=.slice fL fI.length fM
   let cR:Value:=.slice fN fJ.length fO
   let cS:Value:=.slice fP fK.length fQ
   refine C9 (i:=14) kz (G4 eX ij (e:=49) (size:=5) (len:=1) (cs:=[cP,cQ,.bool dj,cR,cS]) (d:=109) kz kz fun il nS nT mn mo bh cV im=>?_)
   have io:=TT.ofW (bw.trans bh) cV
   refine ⟨fun _=>io,?_⟩
   refine C9 (i:=15) kz (I7 cV im (k:=0) (d:=110) (t:=46) (e:=49) (size:=5) (bytes:=88) (A:=A6_) (As:=(some ⟨il,0,none⟩)) (m0:=k6_) (c:=c6_) (m:=1) (cs:=1) (xs:=xs6_) (news:=[cP,cQ,.bool dj,cR,cS]) kz kz rfl (M5 (cV.own 1 _ rfl) (K6 kz)) (N7 (cV.own 1 _ rfl)) (by omega) fun dN dO nU nV bz dP ip=>?_)
   have iq:=TT.ofW ((bw.trans bh).trans bz) dP
   refine ⟨fun _=>iq,?_⟩
   refine C9 (i:=16) kz (F2 ip (t:=46) (A:=(some ⟨aH,0,none⟩)) (m:=7) (q:=6) (d:=111) kz (e:=49) (size:=5) (bytes:=88) (j:=6) kz (b:=aH) (o:=0) rfl rfl (by decide) fun nW ir=>?_)
   have iu:=ir.recast 111 (.v (.pointer (some ⟨aH,0 + 6 * 5,none⟩))) (.p 2 30) rfl rfl (Nat.le_of_ble_eq_true (n:=3) rfl)
   let eY:Nat × SV:=(110,.v (.slice dN (k6_ + 1) dO))
   have iv:=iu.pk (env':=[ah,af,ag,aF,aJ,cM,(101,.v (.slice A6_ k6_ c6_)),cN,cO,(107,.v (.pointer (some ⟨ia,ib + k6_ * 3,none⟩))),(108,.v (.agg #[cP,cQ,.bool dj,cR,cS])),(109,.v (.slice (some ⟨il,0,none⟩) 1 1)),eY,(111,.p 2 30)])
   have eZ:=TT.ofW ((bw.trans bh).trans bz) dP
   refine ⟨fun _=>eZ,?_⟩
   refine D6 [17] [ah,af,ag,aF,aJ,eY,(112,.p 2 33)] 1 (C0 (B2 (B2 (C0 (B2 C6))))) (fun _ h=>h.cells) eZ iv fun nX iw=>?_
   refine C9 (i:=18) kz (C7 dP iw (oi:=2) (cs:=(ae :: ai :: ac :: ab :: ab :: aj :: ab :: ac :: ab :: ab :: ae :: ak :: ac :: ab :: ab :: al :: am :: ao :: ap :: ar :: au :: av :: aw :: ax :: ay :: aA :: aB :: aC :: aD :: aE :: ae :: ab :: aG :: .slice dN (k6_ + 1) dO :: ab :: [])) kz fun nY bW e9 ix=>?_)
   refine ⟨fun h=>absurd rfl h,?_⟩
   refine F3 kz ?_ _
   refine G2 (A7 (D9 [0,1] kz ?_))
   refine B3 [0,1] [] [ah,af,ag,aF,(72,.v (.int .i64 (IntKind.i64.wrap (((k6_:Nat):Int) + 1))))] e9 ix fun nZ iy=>?_
   refine B4 (A7 ?_)
   obtain ⟨fa,iz,bX⟩:=e9.cutB iy 4 [aI,aN,⟨aH,0,(ae :: ai :: ac :: ab :: ab :: aj :: ab :: ac :: ab :: ab :: ae :: ak :: ac :: ab :: ab :: al :: am :: ao :: ap :: ar :: au :: av :: aw :: ax :: ay :: aA :: aB :: aC :: aD :: aE :: ae :: ab :: aG :: .slice dN (k6_ + 1) dO :: ab :: []),true⟩,aR] [ah,af,ag,aF,(72,.v (.int .i64 (IntKind.i64.wrap (((k6_:Nat):Int) + 1))))]
   obtain ⟨iA,bY⟩:=iz.cutR 1 [⟨dN,dO,49,5,k6_ + 1,xs6_ ++ [cP,cQ,.bool dj,cR,cS]⟩]
   have iB:IntKind.i64.wrap (((k6_:Nat):Int) + 1) = ((k6_ + 1:Nat):Int):=H1 (by omega)
   rw [iB] at fa
   exact ⟨(D.f 6).l - (k6_ + 1),by omega,k6_ + 1,dN,dO,xs6_ ++ [Value.int .i64 fH,.slice fL fI.length fM,.bool dj,.slice fN fJ.length fO,.slice fP fK.length fQ],(css6_ ++ [[Value.int .i64 fH,.slice fL fI.length fM,.bool dj,.slice fN fJ.length fO,.slice fP fK.length fQ]]),rfl,by omega,by rw [take_range (by omega)]; exact (hT6_.move ((((((((((aZ.trans aK).trans bN).trans bV).trans dJ).trans bw).trans bh).trans bz).trans bW).trans bX).trans bY).step immM ((((((((((aZ.trans aK).trans bN).trans bV).trans dJ).trans bw).trans bh).trans bz).trans bW).trans bX).trans bY).to').snoc (x:=(fun i=>BE ((D.f 6).f i)) k6_) (dL.move ((((bh.trans bz).trans bW).trans bX).trans bY).step immM ((((bh.trans bz).trans bW).trans bX).trans bY).to'),fa.pk,iA,(((((((((((aO.trans aZ).trans aK).trans bN).trans bV).trans dJ).trans bw).trans bh).trans bz).trans bW).trans bX).trans bY)⟩
  refine (C7 dI eS (oi:=4) (cs:=[ac]) kz fun n0 ba fb iC=>?_)
  have iD:=TT.ofW (aK.trans ba) fb
  refine ⟨fun _=>iD,?_⟩
  refine C9 (i:=1) kz (C7 fb iC (oi:=4) (cs:=[.bool true]) kz fun n4 bi cW iE=>?_)
  have iF:=TT.ofW ((aK.trans ba).trans bi) cW
  refine ⟨fun _=>iF,?_⟩
  refine C9 (i:=3) kz (T5 [0,2,3,4,71,72,76] cW.cells iE (env':=[ah,af,ag,dH,aF,aJ,(76,.v (.bool true))]) kz fun n5 fe=>?_)
  have iG:=TT.ofW ((aK.trans ba).trans bi) cW
  refine ⟨fun _=>iG,?_⟩
  refine F3 kz ?_ _
  refine A7 (Q6 fe (b:=true) kz rfl ?_)
  refine J2 17 kz cW fun n8 bO bj cX=>?_
  let bZ:Nat × SV:=(78,.v (.slice (some ⟨aH,0,none⟩) 7 7))
  let cd:Nat × SV:=(85,.v (.slice ((D.f 6).A) ((D.f 6).l) ((D.f 6).c)))
  let ce:Nat × SV:=(86,.v (.int .i64 ((k6_:Nat):Int)))
  refine D6 [0,1,5,6,7,8,9] [ah,af,ag,aF,aJ,bZ,cd,ce] 11 (B2 (C0 (B2 (B2 (C0 (B2 C6)))))) (fun _ h=>h.cells) cX fe fun n9 iH=>?_
  refine H9 iH (i:=2) (t:=46) (A:=(some ⟨aH,0,none⟩)) (m:=7) (q:=6) (d:=79) kz (e:=49) (size:=5) (bytes:=88) (j:=6) kz (b:=aH) (o:=0) rfl rfl (by decide) kz kz (B2 (C0 (B2 (B2 (C0 (B2 C6)))))) cX fun oa iI=>?_
  have iJ:=iI.recast 79 (.v (.pointer (some ⟨aH,0 + 6 * 5,none⟩))) (.p 2 30) rfl rfl (Nat.le_of_ble_eq_true (n:=3) rfl)
  have iK:=iJ.pk (env':=[ah,af,ag,aF,aJ,bZ,cd,ce,(79,.p 2 30)])
  let dQ:Nat × SV:=(81,.v (.slice A6_ k6_ c6_))
  let cg:Nat × SV:=(89,.v (.int .i64 ((k6_:Nat):Int)))
  refine D6 [3,4,12] [ah,af,ag,aF,aJ,bZ,dQ,cd,ce,cg] 7 (B2 (C0 (B2 (B2 (C0 (B2 C6)))))) (fun _ h=>h.cells) cX iK fun od iL=>?_
  obtain ⟨iM,iN,iO,mp,dR⟩:=Slots.get g7 (i:=k6_) (by omega)
  refine H9 iL (i:=10) (t:=77) (A:=(D.f 6).A) (m:=((D.f 6).l)) (q:=((k6_:Nat):Int)) (d:=87) kz (e:=110) (size:=3) (bytes:=48) kz iO rfl (by omega) kz kz (B2 (C0 (B2 (B2 (C0 (B2 C6)))))) cX fun oe ff=>?_
  let fg:Nat × SV:=(87,.v (.pointer (some ⟨iM,iN + k6_ * 3,none⟩)))
  let fh:Value:=.pointer (some ⟨iM,iN + k6_ * 3,none⟩)
  refine N8 (i:=11) (j:=13) kz ?_ ?_
  ·
   refine (C3 ff (f:=57) (vs:=[fh]) (d:=88) kz Tryz.call57 (GR 0 ((D.f 6).f k6_) _ _ _ _ (dR.move bj.step B0 bj.imm) (U2 _ bj.step B0 bj.imm (g7e k6_ (by omega)))) ?_)
   rintro e_ og ⟨mq,rfl,iP,dS⟩
   have dT:=iP.move (Step.refl _ B5) B0 (bj.laid (G:=F) dS)
   obtain ⟨dU,dV,cm,dW,dX,dY,dZ,d5,d6,d7,d8,mr,mt,d9,lM,lN,oh,ol⟩:=dT.open_
   rw [d9] at dT
   have lO:=lM.small
   have lP:=lN.small
   rw [d9]
   refine ⟨_,rfl,fun om iQ=>?_⟩
   have fi:=bj.next_nil dS
   have bD:=bj.frN dS
   have iR:=TT.ofW bD fi
   refine ⟨fun _=>iR,?_⟩
   refine C9 (i:=13) kz (G4 fi iQ (e:=49) (size:=5) (len:=1) (cs:=[ae,ab,ac,ab,ab]) (d:=90) kz kz fun fR oq ot mu mw bk cY iS=>?_)
   have iT:=TT.ofW (bD.trans bk) cY
   refine ⟨fun _=>iT,?_⟩
   refine C9 (i:=14) kz (I7 cY iS (k:=0) (d:=91) (t:=46) (e:=49) (size:=5) (bytes:=88) (A:=A6_) (As:=(some ⟨fR,0,none⟩)) (m0:=k6_) (c:=c6_) (m:=1) (cs:=1) (xs:=xs6_) (news:=[ae,ab,ac,ab,ab]) kz kz rfl (M5 (cY.own 1 _ rfl) (K6 kz)) (N7 (cY.own 1 _ rfl)) (by omega) fun bp bE ou ov bF ea iU=>?_)
   have iV:=TT.ofW ((bD.trans bk).trans bF) ea
   refine ⟨fun _=>iV,?_⟩
   refine C9 (i:=15) kz (F2 iU (t:=46) (A:=(some ⟨aH,0,none⟩)) (m:=7) (q:=6) (d:=92) kz (e:=49) (size:=5) (bytes:=88) (j:=6) kz (b:=aH) (o:=0) rfl rfl (by decide) fun ow iW=>?_)
   have iX:=iW.recast 92 (.v (.pointer (some ⟨aH,0 + 6 * 5,none⟩))) (.p 2 30) rfl rfl (Nat.le_of_ble_eq_true (n:=3) rfl)
   let cZ:Value:=.int .i64 dU
   let da:Value:=.slice dY dV.length dZ
   let db:Value:=.slice d5 dW.length d6
   let dc:Value:=.slice d7 dX.length d8
   let fj:Nat × SV:=(88,.v (.agg #[cZ,da,.bool cm,db,dc]))
   have iY:=iX.pk (env':=[ah,af,ag,aF,aJ,bZ,dQ,cd,ce,cg,fg,fj,(90,.v (.slice (some ⟨fR,0,none⟩) 1 1)),(91,.v (.slice bp (k6_ + 1) bE)),(92,.p 2 30)])
   have fk:=TT.ofW ((bD.trans bk).trans bF) ea
   refine ⟨fun _=>fk,?_⟩
   refine D6 [16] [ah,af,ag,aF,aJ,fj,cg,(91,.v (.slice bp (k6_ + 1) bE)),(93,.p 2 33)] 1 (B2 (C0 (B2 (B2 (C0 (B2 C6)))))) (fun _ h=>h.cells) fk iY fun ox iZ=>?_
   refine C9 (i:=17) kz (C7 ea iZ (oi:=2) (cs:=(ae :: ai :: ac :: ab :: ab :: aj :: ab :: ac :: ab :: ab :: ae :: ak :: ac :: ab :: ab :: al :: am :: ao :: ap :: ar :: au :: av :: aw :: ax :: ay :: aA :: aB :: aC :: aD :: aE :: ae :: ab :: aG :: .slice bp (k6_ + 1) bE :: ab :: [])) kz fun lQ cn fl i6=>?_)
   refine ⟨fun h=>absurd rfl h,?_⟩
   refine F3 kz ?_ _
   refine A7 (D9 [0,1] kz ?_)
   have i7:World.ownsRow lQ 0 49 5 (.slice bp (k6_ + 1) bE) (k6_ + 1) (xs6_ ++ [ae,ab,ac,ab,ab]):=fl.own 0 _ rfl
   obtain ⟨ja,fm⟩:=Q9 i7 (by omega)
   refine B1 (F2 i6 (t:=46) (A:=bp) (m:=(k6_ + 1)) (q:=((k6_:Nat):Int)) (d:=94) kz (e:=49) (size:=5) (bytes:=88) kz (b:=ja) (o:=0) (j:=k6_) fm (rfl) (by omega) fun oy jb=>?_)
   refine B1 (X0 fl jb (k:=0) (g:=ja) (o:=k6_ * 5) (c:=bE) (m:=(k6_ + 1)) (size:=5) (e:=49) (A:=bp) (xs:=(xs6_ ++ [ae,ab,ac,ab,ab])) (vs:=[cZ,da,.bool cm,db,dc]) kz rfl fm (by simp only [List.length_cons,List.length_nil]; omega) fun oz cq jc jd=>?_)
   have je:(⟨bp,bE,49,5,k6_ + 1,K5 (xs6_ ++ [.int .i64 0,.slice none 0 0,.bool false,.slice none 0 0,.slice none 0 0]) (k6_ * 5) [.int .i64 dU,.slice dY dV.length dZ,.bool cm,.slice d5 dW.length d6,.slice d7 dX.length d8]⟩:Rw) = ⟨bp,bE,49,5,k6_ + 1,xs6_ ++ [.int .i64 dU,.slice dY dV.length dZ,.bool cm,.slice d5 dW.length d6,.slice d7 dX.length d8]⟩:=by rw [CW (by rw [hT6_.xslen,List.length_take,J4]; omega)]
   obtain ⟨fo,cr⟩:=jc.rowEq 0 [⟨bp,bE,49,5,k6_ + 1,xs6_ ++ [cZ,da,.bool cm,db,dc]⟩,⟨some ⟨fR,0,none⟩,1,49,5,1,[ae,ab,ac,ab,ab]⟩] je
   refine B4 (G2 (A7 (D9 [0,1] kz ?_)))
   refine B3 [0,1] [] [ah,af,ag,aF,(72,.v (.int .i64 (IntKind.i64.wrap (((k6_:Nat):Int) + 1))))] fo jd fun oA jf=>?_
   refine B4 (A7 ?_)
   obtain ⟨fq,jg,cu⟩:=fo.cutB jf 4 [aI,aN,⟨aH,0,(ae :: ai :: ac :: ab :: ab :: aj :: ab :: ac :: ab :: ab :: ae :: ak :: ac :: ab :: ab :: al :: am :: ao :: ap :: ar :: au :: av :: aw :: ax :: ay :: aA :: aB :: aC :: aD :: aE :: ae :: ab :: aG :: .slice bp (k6_ + 1) bE :: ab :: []),true⟩,aR] [ah,af,ag,aF,(72,.v (.int .i64 (IntKind.i64.wrap (((k6_:Nat):Int) + 1))))]
   obtain ⟨jh,cw⟩:=jg.cutR 1 [⟨bp,bE,49,5,k6_ + 1,xs6_ ++ [cZ,da,.bool cm,db,dc]⟩]
   have ji:IntKind.i64.wrap (((k6_:Nat):Int) + 1) = ((k6_ + 1:Nat):Int):=H1 (by omega)
   rw [ji] at fq
   exact ⟨(D.f 6).l - (k6_ + 1),by omega,k6_ + 1,bp,bE,xs6_ ++ [Value.int .i64 dU,.slice dY dV.length dZ,.bool cm,.slice d5 dW.length d6,.slice d7 dX.length d8],(css6_ ++ [[Value.int .i64 dU,.slice dY dV.length dZ,.bool cm,.slice d5 dW.length d6,.slice d7 dX.length d8]]),rfl,by omega,by rw [take_range (by omega)]; exact (hT6_.move ((((((((((((aZ.trans aK).trans ba).trans bi).trans bO).trans bD).trans bk).trans bF).trans cn).trans cq).trans cr).trans cu).trans cw).step immM ((((((((((((aZ.trans aK).trans ba).trans bi).trans bO).trans bD).trans bk).trans bF).trans cn).trans cq).trans cr).trans cu).trans cw).to').snoc (x:=(fun i=>BE ((D.f 6).f i)) k6_) (dT.move ((((((bk.trans bF).trans cn).trans cq).trans cr).trans cu).trans cw).step immM ((((((bk.trans bF).trans cn).trans cq).trans cr).trans cu).trans cw).to'),fq.pk,jh,(((((((((((((aO.trans aZ).trans aK).trans ba).trans bi).trans bO).trans bD).trans bk).trans bF).trans cn).trans cq).trans cr).trans cu).trans cw)⟩
  refine (G4 bj ff (e:=49) (size:=5) (len:=1) (cs:=[ae,ab,ac,ab,ab]) (d:=90) kz kz fun fS oB oC mx my bG bn jj=>?_)
  have jk:=TT.ofW bG bn
  refine ⟨fun _=>jk,?_⟩
  refine C9 (i:=11) kz (C3 jj (f:=57) (vs:=[fh]) (d:=88) kz Tryz.call57 (GR 0 ((D.f 6).f k6_) _ _ _ _ (dR.move bn.step B0 bn.imm) (U2 _ bn.step B0 bn.imm (g7e k6_ (by omega)))) ?_)
  rintro e_ oD ⟨mz,rfl,jl,eb⟩
  have ec:=jl.move (Step.refl _ B5) B0 (bn.laid (G:=F) eb)
  obtain ⟨ee,ef,cz,eg,eh,ei,ej,ek,em,eo,eu,mA,mB,ev,lR,lS,oE,oF⟩:=ec.open_
  rw [ev] at ec
  have lT:=lR.small
  have lU:=lS.small
  rw [ev]
  refine ⟨_,rfl,fun oG jm=>?_⟩
  have de:=bn.next_nil eb
  have bP:=bn.frN eb
  have jn:=TT.ofW (bG.trans bP) de
  refine ⟨fun _=>jn,?_⟩
  refine C9 (i:=14) kz (I7 de jm (k:=0) (d:=91) (t:=46) (e:=49) (size:=5) (bytes:=88) (A:=A6_) (As:=(some ⟨fS,0,none⟩)) (m0:=k6_) (c:=c6_) (m:=1) (cs:=1) (xs:=xs6_) (news:=[ae,ab,ac,ab,ab]) kz kz rfl (M5 (de.own 1 _ rfl) (K6 kz)) (N7 (de.own 1 _ rfl)) (by omega) fun bq bH oH oI bI ew jo=>?_)
  have jp:=TT.ofW ((bG.trans bP).trans bI) ew
  refine ⟨fun _=>jp,?_⟩
  refine C9 (i:=15) kz (F2 jo (t:=46) (A:=(some ⟨aH,0,none⟩)) (m:=7) (q:=6) (d:=92) kz (e:=49) (size:=5) (bytes:=88) (j:=6) kz (b:=aH) (o:=0) rfl rfl (by decide) fun oJ jq=>?_)
  have jr:=jq.recast 92 (.v (.pointer (some ⟨aH,0 + 6 * 5,none⟩))) (.p 2 30) rfl rfl (Nat.le_of_ble_eq_true (n:=3) rfl)
  let df:Value:=.int .i64 ee
  let dg:Value:=.slice ei ef.length ej
  let dh:Value:=.slice ek eg.length em
  let di:Value:=.slice eo eh.length eu
  let fr:Nat × SV:=(88,.v (.agg #[df,dg,.bool cz,dh,di]))
  have js:=jr.pk (env':=[ah,af,ag,aF,aJ,bZ,dQ,cd,ce,cg,fg,(90,.v (.slice (some ⟨fS,0,none⟩) 1 1)),fr,(91,.v (.slice bq (k6_ + 1) bH)),(92,.p 2 30)])
  have ft:=TT.ofW ((bG.trans bP).trans bI) ew
  refine ⟨fun _=>ft,?_⟩
  refine D6 [16] [ah,af,ag,aF,aJ,fr,cg,(91,.v (.slice bq (k6_ + 1) bH)),(93,.p 2 33)] 1 (B2 (C0 (B2 (B2 (C0 (B2 C6)))))) (fun _ h=>h.cells) ft js fun oK jt=>?_
  refine C9 (i:=17) kz (C7 ew jt (oi:=2) (cs:=(ae :: ai :: ac :: ab :: ab :: aj :: ab :: ac :: ab :: ab :: ae :: ak :: ac :: ab :: ab :: al :: am :: ao :: ap :: ar :: au :: av :: aw :: ax :: ay :: aA :: aB :: aC :: aD :: aE :: ae :: ab :: aG :: .slice bq (k6_ + 1) bH :: ab :: [])) kz fun lV cA fu ju=>?_)
  refine ⟨fun h=>absurd rfl h,?_⟩
  refine F3 kz ?_ _
  refine A7 (D9 [0,1] kz ?_)
  have jv:World.ownsRow lV 0 49 5 (.slice bq (k6_ + 1) bH) (k6_ + 1) (xs6_ ++ [ae,ab,ac,ab,ab]):=fu.own 0 _ rfl
  obtain ⟨jw,fv⟩:=Q9 jv (by omega)
  refine B1 (F2 ju (t:=46) (A:=bq) (m:=(k6_ + 1)) (q:=((k6_:Nat):Int)) (d:=94) kz (e:=49) (size:=5) (bytes:=88) kz (b:=jw) (o:=0) (j:=k6_) fv (rfl) (by omega) fun oL jx=>?_)
  refine B1 (X0 fu jx (k:=0) (g:=jw) (o:=k6_ * 5) (c:=bH) (m:=(k6_ + 1)) (size:=5) (e:=49) (A:=bq) (xs:=(xs6_ ++ [ae,ab,ac,ab,ab])) (vs:=[df,dg,.bool cz,dh,di]) kz rfl fv (by simp only [List.length_cons,List.length_nil]; omega) fun oM cB jy jz=>?_)
  have jA:(⟨bq,bH,49,5,k6_ + 1,K5 (xs6_ ++ [.int .i64 0,.slice none 0 0,.bool false,.slice none 0 0,.slice none 0 0]) (k6_ * 5) [.int .i64 ee,.slice ei ef.length ej,.bool cz,.slice ek eg.length em,.slice eo eh.length eu]⟩:Rw) = ⟨bq,bH,49,5,k6_ + 1,xs6_ ++ [.int .i64 ee,.slice ei ef.length ej,.bool cz,.slice ek eg.length em,.slice eo eh.length eu]⟩:=by rw [CW (by rw [hT6_.xslen,List.length_take,J4]; omega)]
  obtain ⟨fw,cC⟩:=jy.rowEq 0 [⟨bq,bH,49,5,k6_ + 1,xs6_ ++ [df,dg,.bool cz,dh,di]⟩,⟨some ⟨fS,0,none⟩,1,49,5,1,[ae,ab,ac,ab,ab]⟩] jA
  refine B4 (G2 (A7 (D9 [0,1] kz ?_)))
  refine B3 [0,1] [] [ah,af,ag,aF,(72,.v (.int .i64 (IntKind.i64.wrap (((k6_:Nat):Int) + 1))))] fw jz fun oN jB=>?_
  refine B4 (A7 ?_)
  obtain ⟨fx,jC,cE⟩:=fw.cutB jB 4 [aI,aN,⟨aH,0,(ae :: ai :: ac :: ab :: ab :: aj :: ab :: ac :: ab :: ab :: ae :: ak :: ac :: ab :: ab :: al :: am :: ao :: ap :: ar :: au :: av :: aw :: ax :: ay :: aA :: aB :: aC :: aD :: aE :: ae :: ab :: aG :: .slice bq (k6_ + 1) bH :: ab :: []),true⟩,aR] [ah,af,ag,aF,(72,.v (.int .i64 (IntKind.i64.wrap (((k6_:Nat):Int) + 1))))]
  obtain ⟨jD,cG⟩:=jC.cutR 1 [⟨bq,bH,49,5,k6_ + 1,xs6_ ++ [df,dg,.bool cz,dh,di]⟩]
  have jE:IntKind.i64.wrap (((k6_:Nat):Int) + 1) = ((k6_ + 1:Nat):Int):=H1 (by omega)
  rw [jE] at fx
  exact ⟨(D.f 6).l - (k6_ + 1),by omega,k6_ + 1,bq,bH,xs6_ ++ [Value.int .i64 ee,.slice ei ef.length ej,.bool cz,.slice ek eg.length em,.slice eo eh.length eu],(css6_ ++ [[Value.int .i64 ee,.slice ei ef.length ej,.bool cz,.slice ek eg.length em,.slice eo eh.length eu]]),rfl,by omega,by rw [take_range (by omega)]; exact (hT6_.move ((((((((((((aZ.trans aK).trans ba).trans bi).trans bO).trans bG).trans bP).trans bI).trans cA).trans cB).trans cC).trans cE).trans cG).step immM ((((((((((((aZ.trans aK).trans ba).trans bi).trans bO).trans bG).trans bP).trans bI).trans cA).trans cB).trans cC).trans cE).trans cG).to').snoc (x:=(fun i=>BE ((D.f 6).f i)) k6_) (ec.move (((((bI.trans cA).trans cB).trans cC).trans cE).trans cG).step immM (((((bI.trans cA).trans cB).trans cC).trans cE).trans cG).to'),fx.pk,jD,(((((((((((((aO.trans aZ).trans aK).trans ba).trans bi).trans bO).trans bG).trans bP).trans bI).trans cA).trans cB).trans cC).trans cE).trans cG)⟩
 have mC:=of_decide_eq_false dG
 refine wp_exit (E2 (E2 (G3 (A7 (B8 [0,1,2,3,4] kz ?_)))))
 refine B3 [0,1,2] [3,4] [af,ag,(116,.p 0 8)] aW dF fun oO jF=>?_
 let ey:Value:=.pointer (some ⟨jW,0,none⟩)
 refine B1 (BY jF (v:=.func (.func 59) #[] #[ey]) (d:=117) kz fun oP jG=>?_)
 let aP:Value:=.slice A6_ k6_ c6_
 refine B1 (C3 jG (f:=58) (vs:=[.pointer (some ⟨b,o + 8,none⟩),.func (.func 59) #[] #[ey]]) (d:=118) kz Tryz.call58 (Gi (F:=(D4 F w lH [aI,aN,⟨aH,0,(ae :: ai :: ac :: ab :: ab :: aj :: ab :: ac :: ab :: ab :: ae :: ak :: ac :: ab :: ab :: al :: am :: ao :: ap :: ar :: au :: av :: aw :: ax :: ay :: aA :: aB :: aC :: aD :: aE :: ae :: ab :: aG :: aP :: ab :: []),true⟩,aR] [⟨A6_,c6_,49,5,k6_,xs6_⟩])) Tryz.call59 Ns ((hat.one 8 rfl).move aW.step B0 aW.imm) (g8.move aW.step B0 aW.imm) (Str.of aW 3 rfl) (Cf 3 rfl) g8l) ?_)
 rintro e_ oQ ⟨rfl,jH,jI,fT,jJ,jK⟩
 let bQ:Value:=.slice jH D.u.length jI
 let aX:Ob:=⟨jW,0,[ae,ab,ac,bd,bQ],true⟩
 obtain ⟨ez,aQ,jL⟩:=aW.wrote 3 [aI,aN,⟨aH,0,(ae :: ai :: ac :: ab :: ab :: aj :: ab :: ac :: ab :: ab :: ae :: ak :: ac :: ab :: ab :: al :: am :: ao :: ap :: ar :: au :: av :: aw :: ax :: ay :: aA :: aB :: aC :: aD :: aE :: ae :: ab :: aG :: aP :: ab :: []),true⟩,aX] rfl jK fT
 have fy:=jJ.move (Step.refl _ B5) B0 (fun b_ o_ h_ hb_=>jL (G:=F) b_ o_ (.inr h_) hb_)
 refine ⟨_,rfl,fun oR jM=>?_⟩
 have jN:=(EnvOk.places (tb':=[aI,aN,⟨aH,0,(ae :: ai :: ac :: ab :: ab :: aj :: ab :: ac :: ab :: ab :: ae :: ak :: ac :: ab :: ab :: al :: am :: ao :: ap :: ar :: au :: av :: aw :: ax :: ay :: aA :: aB :: aC :: aD :: aE :: ae :: ab :: aG :: aP :: ab :: []),true⟩,aX]) jM (show Pl [aI,aN,⟨aH,0,(ae :: ai :: ac :: ab :: ab :: aj :: ab :: ac :: ab :: ab :: ae :: ak :: ac :: ab :: ab :: al :: am :: ao :: ap :: ar :: au :: av :: aw :: ax :: ay :: aA :: aB :: aC :: aD :: aE :: ae :: ab :: aG :: aP :: ab :: []),true⟩,aR] [aI,aN,⟨aH,0,(ae :: ai :: ac :: ab :: ab :: aj :: ab :: ac :: ab :: ab :: ae :: ak :: ac :: ab :: ab :: al :: am :: ao :: ap :: ar :: au :: av :: aw :: ax :: ay :: aA :: aB :: aC :: aD :: aE :: ae :: ab :: aG :: aP :: ab :: []),true⟩,aX] from ⟨rfl,rfl,⟨rfl,rfl,⟨rfl,rfl,⟨rfl,rfl,trivial⟩⟩⟩⟩)).pk (env':=[(118,.v (.tuple #[])),af,ag,(116,.p 0 8),(117,.v (.func (.func 59) #[] #[ey]))])
 refine B4 (A7 ?_)
 refine B8 [0,1,2] kz ?_
 refine B3 [0,1] [2] [af,ag,(120,.v (.slice jH D.u.length jI))] ez jN fun oS jO=>?_
 refine B1 (C3 jO (f:=60) (vs:=[bQ]) (d:=121) kz Tryz.call60 (GH fy g8.sorted) ?_)
 rintro e_ oT ⟨rfl,fA⟩
 refine ⟨_,rfl,fun oU jP=>?_⟩
 have fB:=ez.next_nil fA
 have aL:=ez.frN fA
 refine B4 (A7 ?_)
 refine B8 [0,1] kz ?_
 refine B3 [0] [1] [af,(122,.v (.agg #[ae,ab,ac,bd,bQ]))] fB jP fun oV jQ=>?_
 refine B1 (C7 fB jQ (oi:=1) (cs:=[ae,ab,ac,bd,bQ]) kz fun cH aM eB jR=>?_)
 refine B4 (A7 ?_)
 refine wp_ret (D5 jR eB.cells (v:=.agg #[ae,ab,ac,bd,bQ]) kz ?_)
 have fC:=(hT6_.move ((aQ.trans aL).trans aM).step immM ((aQ.trans aL).trans aM).to')
 rw [Ci (by omega)] at fC
 let bJ:Ob:=⟨b9,0,[ae,ab,ac,bd,bQ],true⟩
 exact CX (u:=D.u) (l:=[.mk 0 (sb (D.f 0).s) false [] [],.mk (IntKind.i64.wrap (D.f 1).n) [] false [] [],.mk 0 (sb (D.f 2).s) false [] [],T9 (D.f 3).A (D.f 3).s,T9 (D.f 4).A (D.f 4).s,T9 (D.f 5).A (D.f 5).s,.mk 0 [] (D.f 6).A.isNone ((List.range (D.f 6).l).map fun i=>BE ((D.f 6).f i)) []]) (css:=[[ae,ai,ac,ab,ab],[aj,ab,ac,ab,ab],[ae,ak,ac,ab,ab],[al,am,ao,ap,ar],[au,av,aw,ax,ay],[aA,aB,aC,aD,aE],[ae,ab,aG,aP,ab]]) eB 2 rfl ⟨(show TreeR _ (D4 F w cH [aI,bJ,⟨aH,0,(ae :: ai :: ac :: ab :: ab :: aj :: ab :: ac :: ab :: ab :: ae :: ak :: ac :: ab :: ab :: al :: am :: ao :: ap :: ar :: au :: av :: aw :: ax :: ay :: aA :: aB :: aC :: aD :: aE :: ae :: ab :: aG :: aP :: ab :: []),true⟩,aX] [⟨A6_,c6_,49,5,k6_,xs6_⟩]) _ _ from (TreeR.mk (n:=0) (b:=false) (s:=(sb ((D.f 0).s))) (l:=[]) (u:=[]) (fun _=>[]) (j7.move (((((((((((((((((((((fX.trans fY).trans f5).trans f7).trans fE).trans cI).trans cJ).trans bS).trans bK).trans bM).trans bt).trans bf).trans bg).trans aY).trans aS).trans aT).trans aU).trans aV).trans aO).trans aQ).trans aL).trans aM).step immM (((((((((((((((((((((fX.trans fY).trans f5).trans f7).trans fE).trans cI).trans cJ).trans bS).trans bK).trans bM).trans bt).trans bf).trans bg).trans aY).trans aS).trans aT).trans aU).trans aV).trans aO).trans aQ).trans aL).trans aM).to') (Slots.nil _ _ _ _) (fun i_ x_ h_=>by simp at h_) (TagsR.nil _ _))).move (Step.refl _ B5) B0 G0,(show TreeR _ (D4 F w cH [aI,bJ,⟨aH,0,(ae :: ai :: ac :: ab :: ab :: aj :: ab :: ac :: ab :: ab :: ae :: ak :: ac :: ab :: ab :: al :: am :: ao :: ap :: ar :: au :: av :: aw :: ax :: ay :: aA :: aB :: aC :: aD :: aE :: ae :: ab :: aG :: aP :: ab :: []),true⟩,aX] [⟨A6_,c6_,49,5,k6_,xs6_⟩]) _ _ from (TreeR.mk (n:=IntKind.i64.wrap ((D.f 1).n)) (b:=false) (s:=[]) (l:=[]) (u:=[]) (fun _=>[]) (Octs.nil _ _) (Slots.nil _ _ _ _) (fun i_ x_ h_=>by simp at h_) (TagsR.nil _ _))).move (Step.refl _ B5) B0 G0,(show TreeR _ (D4 F w cH [aI,bJ,⟨aH,0,(ae :: ai :: ac :: ab :: ab :: aj :: ab :: ac :: ab :: ab :: ae :: ak :: ac :: ab :: ab :: al :: am :: ao :: ap :: ar :: au :: av :: aw :: ax :: ay :: aA :: aB :: aC :: aD :: aE :: ae :: ab :: aG :: aP :: ab :: []),true⟩,aX] [⟨A6_,c6_,49,5,k6_,xs6_⟩]) _ _ from (TreeR.mk (n:=0) (b:=false) (s:=(sb ((D.f 2).s))) (l:=[]) (u:=[]) (fun _=>[]) (kA.move ((((((((((((((((cI.trans cJ).trans bS).trans bK).trans bM).trans bt).trans bf).trans bg).trans aY).trans aS).trans aT).trans aU).trans aV).trans aO).trans aQ).trans aL).trans aM).step immM ((((((((((((((((cI.trans cJ).trans bS).trans bK).trans bM).trans bt).trans bf).trans bg).trans aY).trans aS).trans aT).trans aU).trans aV).trans aO).trans aQ).trans aL).trans aM).to') (Slots.nil _ _ _ _) (fun i_ x_ h_=>by simp at h_) (TagsR.nil _ _))).move (Step.refl _ B5) B0 G0,(show TreeR _ (D4 F w cH [aI,bJ,⟨aH,0,(ae :: ai :: ac :: ab :: ab :: aj :: ab :: ac :: ab :: ab :: ae :: ak :: ac :: ab :: ab :: al :: am :: ao :: ap :: ar :: au :: av :: aw :: ax :: ay :: aA :: aB :: aC :: aD :: aE :: ae :: ab :: aG :: aP :: ab :: []),true⟩,aX] [⟨A6_,c6_,49,5,k6_,xs6_⟩]) _ _ from (dt.move (((((((((((((bK.trans bM).trans bt).trans bf).trans bg).trans aY).trans aS).trans aT).trans aU).trans aV).trans aO).trans aQ).trans aL).trans aM).step immM (((((((((((((bK.trans bM).trans bt).trans bf).trans bg).trans aY).trans aS).trans aT).trans aU).trans aV).trans aO).trans aQ).trans aL).trans aM).to')).move (Step.refl _ B5) B0 G0,(show TreeR _ (D4 F w cH [aI,bJ,⟨aH,0,(ae :: ai :: ac :: ab :: ab :: aj :: ab :: ac :: ab :: ab :: ae :: ak :: ac :: ab :: ab :: al :: am :: ao :: ap :: ar :: au :: av :: aw :: ax :: ay :: aA :: aB :: aC :: aD :: aE :: ae :: ab :: aG :: aP :: ab :: []),true⟩,aX] [⟨A6_,c6_,49,5,k6_,xs6_⟩]) _ _ from (dw.move ((((((((((bf.trans bg).trans aY).trans aS).trans aT).trans aU).trans aV).trans aO).trans aQ).trans aL).trans aM).step immM ((((((((((bf.trans bg).trans aY).trans aS).trans aT).trans aU).trans aV).trans aO).trans aQ).trans aL).trans aM).to')).move (Step.refl _ B5) B0 G0,(show TreeR _ (D4 F w cH [aI,bJ,⟨aH,0,(ae :: ai :: ac :: ab :: ab :: aj :: ab :: ac :: ab :: ab :: ae :: ak :: ac :: ab :: ab :: al :: am :: ao :: ap :: ar :: au :: av :: aw :: ax :: ay :: aA :: aB :: aC :: aD :: aE :: ae :: ab :: aG :: aP :: ab :: []),true⟩,aX] [⟨A6_,c6_,49,5,k6_,xs6_⟩]) _ _ from (dA.move (((((((aS.trans aT).trans aU).trans aV).trans aO).trans aQ).trans aL).trans aM).step immM (((((((aS.trans aT).trans aU).trans aV).trans aO).trans aQ).trans aL).trans aM).to')).move (Step.refl _ B5) B0 G0,Gj eB (k:=0) rfl fC (by rw [J4]; omega) (by rw [J4]; omega),trivial⟩ ((show TagsR _ (D4 F w cH [aI,bJ,⟨aH,0,(ae :: ai :: ac :: ab :: ab :: aj :: ab :: ac :: ab :: ab :: ae :: ak :: ac :: ab :: ab :: al :: am :: ao :: ap :: ar :: au :: av :: aw :: ax :: ay :: aA :: aB :: aC :: aD :: aE :: ae :: ab :: aG :: aP :: ab :: []),true⟩,aX] [⟨A6_,c6_,49,5,k6_,xs6_⟩]) _ _ _ from (fy.move (aL.trans aM).step immM (aL.trans aM).to')).move (Step.refl _ B5) B0 G0)
def W2 (w:World) (F:Nat → Nat → Prop) (D:DV):Prop:=(True) ∧ (True) ∧ ((∀ ad,(D.f 2).A = some ad → ∃ b o,ad = ⟨b,o,none⟩ ∧ AtF w F b o [.string (D.f 2).s]) ∧ (D.f 2).s.size ≤ 1000000) ∧ ((∀ ad,(D.f 3).A = some ad → ∃ b o,ad = ⟨b,o,none⟩ ∧ AtF w F b o [.string (D.f 3).s]) ∧ (D.f 3).s.size ≤ 1000000) ∧ (Octs w F (D.f 4).A (D.f 4).c (D.f 4).o ∧ (D.f 4).o.length ≤ 1000000) ∧ MapR w F D.m D.u ∧ D.u.length ≤ 1000000 ∧ (∀ x ∈ D.u,x.2.length < 4294967296) ∧ True
def Y7 (v:Int) (D:DV):Bs:=(if (decide (v ≥ 1)) = true then be 4 ((D.f 0).n) else []) ++ ((be 2 ((D.f 1).n)) ++ ((if (decide (v ≥ 5)) = true then if (decide (v ≥ 4)) = true then (if (D.f 2).A.isNone = true then uv 0 else uv ((D.f 2).s.size + 1) ++ sb (D.f 2).s) else (if (D.f 2).A.isNone = true then be 2 (-1) else be 2 (D.f 2).s.size ++ sb (D.f 2).s) else []) ++ ((if (decide (v ≥ 5)) = true then if (decide (v ≥ 4)) = true then (if (D.f 3).A.isNone = true then uv 0 else uv ((D.f 3).s.size + 1) ++ sb (D.f 3).s) else (if (D.f 3).A.isNone = true then be 2 (-1) else be 2 (D.f 3).s.size ++ sb (D.f 3).s) else []) ++ ((if (decide (v ≥ 4)) = true then (uv ((D.f 4).o.length + 1) ++ (D.f 4).o) else (be 4 (D.f 4).o.length ++ (D.f 4).o)) ++ ((if (decide (v ≥ 4)) = true then (uv D.u.length) ++ (H0 D.u) else []) ++ ([]))))))
theorem NQ (v:Int) (D:DV) (b o:Nat) (A:Option Addr) (cp:Nat) (s:Bs) (w:World) (F:Nat → Nat → Prop) (hat:AtF w F b o [.int .i16 v,.int .i32 ((D.f 0).n),.int .i16 ((D.f 1).n),.pointer ((D.f 2).A),.pointer ((D.f 3).A),.slice ((D.f 4).A) ((D.f 4).o.length) ((D.f 4).c),.map D.m]) (hok:W2 w F D) (hF:∀ b o,F b o → ¬ G1 A b o) (ho:w.ownsRow 0 5 1 (.slice A s.length cp) s.length (bc s)) (hroom:s.length + (Y7 v D).length + 16 ≤ 1099511627776) :
  Calls Tryz.prog 46 [.pointer (some ⟨b,o,none⟩),.slice A s.length cp].toArray w (K9 w 5 A (s ++ Y7 v D)):=by
 unfold W2 at hok
 obtain ⟨ar,au,⟨al,g29l⟩,⟨am,g30l⟩,⟨ao,g31l⟩,ap,g32l,g32x,_⟩:=hok
 refine EZ (n:=88) Tryz.func46 rfl Tryz.ntmps46 kz rfl ho hroom ?_
 unfold Y7
 let ag:Value:=.pointer ((D.f 2).A)
 let ah:Value:=.pointer ((D.f 3).A)
 let ai:Value:=.slice ((D.f 4).A) ((D.f 4).o.length) ((D.f 4).c)
 refine CC b o [.int .i16 v,.int .i32 ((D.f 0).n),.int .i16 ((D.f 1).n),ag,ah,ai,.map D.m] hat hF kz kz ?_
 refine CD 0 0 0 b o (by simp) rfl rfl rfl ?_
 let ab:Nat × SV:=(0,.p 0 0)
 refine L1 (E7 (env':=[ab]) [0] (fun _ _ _=>by kernel_rfl)) ?_
 let ae:Nat × SV:=(5,.v (.int .i16 v))
 refine L1 (E7 (env':=[ab,ae]) [0,5] (fun _ _ _=>by kernel_rfl)) ?_
 refine L1 (E7 (env':=[ab,ae]) [0,5] (fun _ _ _=>by kernel_rfl)) ?_
 let ac:Nat × SV:=(6,.v (.bool (decide (v ≥ 4))))
 let af:C8:=[ab,ae,ac]
 refine L1 (E7 (env':=af) [0,5,6] (fun _ _ _=>by kernel_rfl)) ?_
 refine L1 (E7 (env':=af) [0,5,6] (fun _ _ _=>by kernel_rfl)) ?_
 refine N6 (e1:=af) ?_ ?_
 ·
  refine H3 (E7 (env':=[ab,ae,ac,(21,.v (.bool (decide (v ≥ 1))))]) [0,5,6,21] (fun _ _ _=>by kernel_rfl)) ?_
  refine X7 (b:=decide (v ≥ 1)) (fun _ _ _=>by kernel_rfl) (fun hb=>?_) (fun hb=>?_)
  ·
   refine H3 (E7 (env':=[ab,ae,ac,(7,.v (.int .i32 ((D.f 0).n)))]) [0,5,6,7] (fun _ _ _=>by kernel_rfl)) ?_
   exact I8 (f:=67) (vs:=[.int .i32 ((D.f 0).n)]) 2 [0,5,6] (fun _ _ _ _ _ _=>by kernel_rfl) kz Tryz.call67 (fun A cp s w _ _ ho hr=>BX A cp s ((D.f 0).n) w ho (by omega))
  exact X8 (e1:=af) [0,5,6] (fun _ _ _=>by kernel_rfl) W9
 refine N6 (e1:=af) ?_ ?_
 ·
  refine H3 (E7 (env':=[ab,ae,ac,(8,.v (.int .i16 ((D.f 1).n)))]) [0,5,6,8] (fun _ _ _=>by kernel_rfl)) ?_
  exact I8 (f:=87) (vs:=[.int .i16 ((D.f 1).n)]) 2 [0,5,6] (fun _ _ _ _ _ _=>by kernel_rfl) kz Tryz.call87 (fun A cp s w _ _ ho hr=>DR A cp s ((D.f 1).n) w ho (by omega))
 refine N6 (e1:=af) ?_ ?_
 ·
  refine H3 (E7 (env':=[ab,ae,ac,(37,.v (.bool (decide (v ≥ 5))))]) [0,5,6,37] (fun _ _ _=>by kernel_rfl)) ?_
  refine X7 (b:=decide (v ≥ 5)) (fun _ _ _=>by kernel_rfl) (fun hb=>?_) (fun hb=>?_)
  ·
   refine H3 (E7 (env':=[ab,ae,ac,(9,.v (.pointer ((D.f 2).A)))]) [0,5,6,9] (fun _ _ _=>by kernel_rfl)) ?_
   refine H3 (E7 (env':=[ab,ae,ac,(9,.v (.pointer ((D.f 2).A))),(42,.v (.bool (decide (v ≥ 4))))]) [0,5,6,9,42] (fun _ _ _=>by kernel_rfl)) ?_
   refine T6 (b:=decide (v ≥ 4)) (fun _ _ _=>by kernel_rfl) (fun hb=>?_) (fun hb=>?_)
   ·
    exact I8 (f:=68) (vs:=[ag]) 2 [0,5,6] (fun _ _ _ _ _ _=>by kernel_rfl) kz Tryz.call68 (fun A cp s w hs hA ho hr=>Da (D.f 2).A (D.f 2).s A cp s w ho (Lo F _) (P0 hF hA) (fun ad h=>by obtain ⟨b',o',g1,g2⟩:=al ad h; exact ⟨b',o',g1,g2.move hs (F8 hF) F9⟩) g29l hr)
   exact I8 (f:=69) (vs:=[ag]) 2 [0,5,6] (fun _ _ _ _ _ _=>by kernel_rfl) kz Tryz.call69 (fun A cp s w hs hA ho hr=>CZ (D.f 2).A (D.f 2).s A cp s w ho (Lo F _) (P0 hF hA) (fun ad h=>by obtain ⟨b',o',g1,g2⟩:=al ad h; exact ⟨b',o',g1,g2.move hs (F8 hF) F9⟩) g29l hr)
  exact X8 (e1:=af) [0,5,6] (fun _ _ _=>by kernel_rfl) W9
 let aj:C8:=[ab,ac]
 refine N6 (e1:=aj) ?_ ?_
 ·
  refine H3 (E7 (env':=[ab,ac,(50,.v (.bool (decide (v ≥ 5))))]) [0,6,50] (fun _ _ _=>by kernel_rfl)) ?_
  refine X7 (b:=decide (v ≥ 5)) (fun _ _ _=>by kernel_rfl) (fun hb=>?_) (fun hb=>?_)
  ·
   refine H3 (E7 (env':=[ab,ac,(10,.v (.pointer ((D.f 3).A)))]) [0,6,10] (fun _ _ _=>by kernel_rfl)) ?_
   refine H3 (E7 (env':=[ab,ac,(10,.v (.pointer ((D.f 3).A))),(55,.v (.bool (decide (v ≥ 4))))]) [0,6,10,55] (fun _ _ _=>by kernel_rfl)) ?_
   refine T6 (b:=decide (v ≥ 4)) (fun _ _ _=>by kernel_rfl) (fun hb=>?_) (fun hb=>?_)
   ·
    exact I8 (f:=68) (vs:=[ah]) 2 [0,6] (fun _ _ _ _ _ _=>by kernel_rfl) kz Tryz.call68 (fun A cp s w hs hA ho hr=>Da (D.f 3).A (D.f 3).s A cp s w ho (Lo F _) (P0 hF hA) (fun ad h=>by obtain ⟨b',o',g1,g2⟩:=am ad h; exact ⟨b',o',g1,g2.move hs (F8 hF) F9⟩) g30l hr)
   exact I8 (f:=69) (vs:=[ah]) 2 [0,6] (fun _ _ _ _ _ _=>by kernel_rfl) kz Tryz.call69 (fun A cp s w hs hA ho hr=>CZ (D.f 3).A (D.f 3).s A cp s w ho (Lo F _) (P0 hF hA) (fun ad h=>by obtain ⟨b',o',g1,g2⟩:=am ad h; exact ⟨b',o',g1,g2.move hs (F8 hF) F9⟩) g30l hr)
  exact X8 (e1:=aj) [0,6] (fun _ _ _=>by kernel_rfl) W9
 refine N6 (e1:=aj) ?_ ?_
 ·
  let ak:Nat × SV:=(11,.v (.slice ((D.f 4).A) ((D.f 4).o.length) ((D.f 4).c)))
  refine H3 (E7 (env':=[ab,ac,ak]) [0,6,11] (fun _ _ _=>by kernel_rfl)) ?_
  refine H3 (E7 (env':=[ab,ac,ak,(66,.v (.bool (decide (v ≥ 4))))]) [0,6,11,66] (fun _ _ _=>by kernel_rfl)) ?_
  refine T6 (b:=decide (v ≥ 4)) (fun _ _ _=>by kernel_rfl) (fun hb=>?_) (fun hb=>?_)
  ·
   exact I8 (f:=72) (vs:=[ai]) 2 [0,6] (fun _ _ _ _ _ _=>by kernel_rfl) kz Tryz.call72 (fun A cp s w hs hA ho hr=>HV (D.f 4).o (D.f 4).A (D.f 4).c (Lo F _) A cp s w ho (P0 hF hA) (ao.move hs (F8 hF) F9) g31l hr)
  exact I8 (f:=73) (vs:=[ai]) 2 [0,6] (fun _ _ _ _ _ _=>by kernel_rfl) kz Tryz.call73 (fun A cp s w hs hA ho hr=>Fl (D.f 4).o (D.f 4).A (D.f 4).c (Lo F _) A cp s w ho (P0 hF hA) (ao.move hs (F8 hF) F9) hr)
 refine N6 (e1:=[]) ?_ ?_
 ·
  refine H3 (E7 (env':=[ab,(73,.v (.bool (decide (v ≥ 4))))]) [0,73] (fun _ _ _=>by kernel_rfl)) ?_
  refine X7 (b:=decide (v ≥ 4)) (fun _ _ _=>by kernel_rfl) (fun hb=>?_) (fun hb=>?_)
  ·
   refine U5 (e1:=[ab]) ?_ ?_
   ·
    exact EV (f1:=75) (vs1:=[.pointer (some ⟨b,o + 6,none⟩)]) (r1:=.int .i64 ((D.u.length:Nat):Int)) (f:=74) (vs:=[.int .u32 (IntKind.u32.wrap (0 + (IntKind.u32.wrap ((D.u.length:Nat):Int))))]) 4 7 [0] (fun _ _ _ _ _ _=>by kernel_rfl) kz Tryz.call75 Tryz.call74 (fun w hs=>Fj (F:=Lo F _) ((hat.one 6 rfl).move hs (F8 hF) F9) (ap.move hs (F8 hF) F9)) (fun A cp s w _ _ ho hr=>by rw [show (IntKind.u32.wrap (0 + (IntKind.u32.wrap ((D.u.length:Nat):Int))):Int) = ((D.u.length:Nat):Int) from Ft _ g32l]; exact X6 D.u.length (by have:=g32l; omega) A cp s w ho hr)
   exact Fo (f:=76) 4 [] (fun s=>[.pointer (some ⟨b,o + 6,none⟩),s]) (fun _ _ _ _ _ _=>by kernel_rfl) kz Tryz.call76 (fun A cp s w hs hA ho hr=>Fn (F:=Lo F _) ((hat.one 6 rfl).move hs (F8 hF) F9) (ap.move hs (F8 hF) F9) ho (P0 hF hA) g32x hr)
  exact X8 (e1:=[]) [] (fun _ _ _=>by kernel_rfl) W9
 exact EY (fun _ _ _=>by kernel_rfl)
def Ez (D:DV) (T:Tree):Prop:=((D.f 0).n = IntKind.i32.wrap (T.at_ 0).N) ∧ ((D.f 1).n = IntKind.i16.wrap (T.at_ 1).N) ∧ ((D.f 2).s = bs (B9 (T.at_ 2)) ∧ (D.f 2).A.isNone = (T.at_ 2).null) ∧ ((D.f 3).s = bs (B9 (T.at_ 3)) ∧ (D.f 3).A.isNone = (T.at_ 3).null) ∧ ((D.f 4).o = B9 (T.at_ 4) ∧ (D.f 4).A.isNone = (T.at_ 4).null) ∧ D.u = T.U ∧ True
def H8 (v:Int) (T:Tree):Bs:=(if (decide (v ≥ 1)) = true then be 4 ((IntKind.i32.wrap (T.at_ 0).N)) else []) ++ ((be 2 ((IntKind.i16.wrap (T.at_ 1).N))) ++ ((if (decide (v ≥ 5)) = true then if (decide (v ≥ 4)) = true then (if (T.at_ 2).null = true then uv 0 else uv ((B9 (T.at_ 2)).length + 1) ++ (B9 (T.at_ 2))) else (if (T.at_ 2).null = true then be 2 (-1) else be 2 (B9 (T.at_ 2)).length ++ (B9 (T.at_ 2))) else []) ++ ((if (decide (v ≥ 5)) = true then if (decide (v ≥ 4)) = true then (if (T.at_ 3).null = true then uv 0 else uv ((B9 (T.at_ 3)).length + 1) ++ (B9 (T.at_ 3))) else (if (T.at_ 3).null = true then be 2 (-1) else be 2 (B9 (T.at_ 3)).length ++ (B9 (T.at_ 3))) else []) ++ ((if (decide (v ≥ 4)) = true then (uv ((B9 (T.at_ 4)).length + 1) ++ (B9 (T.at_ 4))) else (be 4 (B9 (T.at_ 4)).length ++ (B9 (T.at_ 4)))) ++ ((if (decide (v ≥ 4)) = true then (uv T.U.length) ++ (H0 T.U) else []) ++ ([]))))))
theorem NR (v:Int) (D:DV) (T:Tree) (h:Ez D T):Y7 v D = H8 v T:=by
 unfold Ez at h
 obtain ⟨ab,ac,⟨ae,r35n⟩,⟨af,r36n⟩,⟨ag,r37n⟩,ah,_⟩:=h
 unfold Y7 H8
 simp only [ab,ac,ae,r35n,af,r36n,ag,r37n,ah,Z7,M6]
def Y8 (T:Tree):Prop:=(True) ∧ (True) ∧ ((B9 (T.at_ 2)).length ≤ 32767) ∧ ((B9 (T.at_ 3)).length ≤ 32767) ∧ ((B9 (T.at_ 4)).length ≤ 32767) ∧ T7 T.U ∧ True
theorem GS (v:Int) (t:Tree):Y8 (C2 v 8 sSyncGroupResponseF t):=by
 unfold Y8
 exact ⟨(trivial),(trivial),(Z8 (d:=7) (show sSyncGroupResponseF[2]? = _ from rfl) (by decide)),(Z8 (d:=7) (show sSyncGroupResponseF[3]? = _ from rfl) (by decide)),(Z8 (d:=7) (show sSyncGroupResponseF[4]? = _ from rfl) (by decide)),(FR),(trivial)⟩
def Y9 (v:Int) (T:Tree):Bs:=H8 (IntKind.i16.wrap v) T
set_option maxHeartbeats 4000000 in
theorem NS (v:Int) (ct:List Value) (t:Tree) (w:World) (F:Nat → Nat → Prop) (ht:TreeR w F ct t) (hc:Y8 t) (hroom:(Y9 v t).length + 16 ≤ 1099511627776) :
  Calls Tryz.prog 23 #[.int .i64 v,.agg ct.toArray] w (BU w 5 (Y9 v t)):=by
 obtain ⟨n1,s2,b3,l4,u5,A6,c7,A8,c9,dj,dl,fr,rfl,rfl,ft,fu,gM,eP⟩:=ht.open_
 have eQ:=ft.small
 have eR:=fu.small
 unfold Y8 at hc
 obtain ⟨cj0,cj1,cj2,cj3,cj4,cU,_⟩:=hc
 replace cj2:=Nat.le_trans cj2 (show 32767 ≤ 1000000 by decide)
 replace cj3:=Nat.le_trans cj3 (show 32767 ≤ 1000000 by decide)
 replace cj4:=Nat.le_trans cj4 (show 32767 ≤ 1000000 by decide)
 have hsort:=cU.1
 replace hsort:P7 u5:=hsort
 have hul:u5.length ≤ 1000000:=cU.2.1
 refine enter (n:=17) Tryz.func23 rfl Tryz.ntmps23 kz fun a hE=>?_
 have hW:=WOk.start w B5
 refine B8 [0,1] kz ?_
 let ab:Value:=.int .i64 n1
 let ac:Value:=.slice A6 s2.length c7
 let ae:Value:=.bool b3
 let af:Value:=.slice A8 l4.length c9
 let ag:Value:=.slice dj u5.length dl
 refine B1 (J1 hW hE (d:=3) (cs:=[ab,ac,ae,af,ag]) kz fun fv gN gO fw fx fy bQ dn=>?_)
 let aY:Nat × SV:=(0,.v (.int .i64 v))
 refine B3 [1] [] [aY,(3,.p 0 0)] bQ dn fun gP dp=>?_
 refine B4 (A7 ?_)
 refine B8 [0,1,2] kz ?_
 let au:Value:=.int .i16 0
 let ah:Value:=.pointer none
 let ak:Value:=.slice none 0 0
 let al:Value:=.map none
 refine B3 [0] [1,2] [aY,(3,.p 0 0),(6,.v (.agg #[au,.int .i32 0,au,ah,ah,ak,al]))] bQ dp fun gQ dq=>?_
 refine B1 (J1 bQ dq (d:=7) (cs:=[au,.int .i32 0,au,ah,ah,ak,al]) kz fun aT gR gS fA fB fC bD dr=>?_)
 refine B3 [2] [] [aY,(3,.p 0 0),(5,.p 1 0)] bD dr fun gT dt=>?_
 refine B4 (A7 ?_)
 refine B8 [0,1,2,3] kz ?_
 refine B3 [0,1,2] [3] [(3,.p 0 0),(5,.p 1 0),(8,.p 1 0),(10,.v (.int .i16 (IntKind.i16.wrap v)))] bD dt fun gU du=>?_
 let aZ:Value:=.pointer (some ⟨aT,0,none⟩)
 let ai:Value:=.int .i16 (IntKind.i16.wrap v)
 refine B1 (L6 du (f:=42) (vs:=[aZ,ai]) (d:=11) (n':=8) kz Tryz.call42 Tryz.func42 rfl Tryz.ntmps42 kz fun gV dv=>?_)
 have dw:=dv.recast 0 (.v (.pointer (some ⟨aT,0,none⟩))) (.p 1 0) rfl rfl (Nat.le_of_ble_eq_true (n:=2) rfl)
 refine D9 [0,1,2,3,4] kz ?_
 refine B3 [0,1,2,3] [4] [(5,.v (.int .i16 (IntKind.i16.wrap v))),(7,.p 1 0)] bD dw fun gW dx=>?_
 refine B1 (C7 bD dx (oi:=1) (cs:=[ai,.int .i32 0,au,ah,ah,ak,al]) kz fun gX fD bR dy=>?_)
 refine B4 (M3 dy bR.cells (v:=.tuple #[]) kz ?_)
 refine ⟨_,rfl,fun gY dA=>?_⟩
 let aM:Ob:=⟨fv,0,[ab,ac,ae,af,ag],true⟩
 have dB:EnvOk 17 [aM,⟨aT,0,[ai,.int .i32 0,au,ah,ah,ak,al],true⟩] [(11,.v (.tuple #[])),(3,.p 0 0),(5,.p 1 0),(8,.p 1 0),(10,.v (.int .i16 (IntKind.i16.wrap v)))] _:=dA.places (⟨rfl,rfl,⟨rfl,rfl,trivial⟩⟩)
 refine B4 (A7 ?_)
 refine B8 [0,1,2] kz ?_
 let eS:Value:=(.agg #[.int .i64 n1,.slice A6 s2.length c7,.bool b3,.slice A8 l4.length c9,.slice dj u5.length dl])
 let bF:Nat × SV:=(13,.v (.agg #[ab,ac,ae,af,ag]))
 refine B3 [0,1] [2] [(5,.p 1 0),(12,.p 1 0),bF] bR dB fun gZ dC=>?_
 let eU:Value:=.agg #[.int .i64 n1,.slice A6 s2.length c7,.bool b3,.slice A8 l4.length c9,.slice dj u5.length dl]
 refine B1 (L6 dC (f:=45) (vs:=[aZ,.agg #[ab,ac,ae,af,ag]]) (d:=14) (n':=54) kz Tryz.call45 Tryz.func45 rfl Tryz.ntmps45 kz fun g9 dD=>?_)
 have dE:=dD.recast 0 (.v (.pointer (some ⟨aT,0,none⟩))) (.p 1 0) rfl rfl (Nat.le_of_ble_eq_true (n:=2) rfl)
 refine B8 [0] kz ?_
 refine B1 (J1 bR dE (d:=3) (cs:=[ab,ac,ae,af,ag]) kz fun dm hC GM fE fF fG aX dF=>?_)
 refine B4 (A7 ?_)
 refine B8 [0,1,2,3,4,5,6,7] kz ?_
 let aj:Nat × SV:=(0,.p 1 0)
 let am:Nat × SV:=(3,.p 2 0)
 refine B3 [0,1] [2,3,4,5,6,7] [aj,am,(6,.p 1 0),(7,.v (.agg #[ab,ac,ae,af,ag]))] aX dF fun hJ dG=>?_
 refine B1 (C3 dG (f:=61) (vs:=[.agg #[ab,ac,ae,af,ag],.int .i64 0]) (d:=8) kz Tryz.call61 (M8 _ _ 0 _ _ (ht.move aX.step B0 aX.imm)) ?_)
 rintro e_ hK ⟨fH,rfl,dH,ba⟩
 have bS:=dH.move ba B0 (fun b o h_ hb_=>aX.laid (G:=F) ba b o (.inl h_) (Nat.lt_of_lt_of_le hb_ ba.size))
 obtain ⟨bE,hY,hZ,ia,ib,ic,ig,ii,ij,ik,il,fI,dI,bG,fJ,fK,im,io⟩:=bS.open_
 rw [bG] at bS
 have eV:=fJ.small
 have eW:=fK.small
 rw [bG]
 refine ⟨_,rfl,fun ip dJ=>?_⟩
 have bT:=aX.next_nil ba
 have eX:=aX.frN ba
 refine B3 [3,4,5,6] [7] [aj,am,(10,.v (.int .i32 (IntKind.i32.wrap bE))),(12,.p 1 1)] bT dJ fun fL bU=>?_
 let ao:Value:=.int .i32 (IntKind.i32.wrap bE)
 refine B1 (C7 bT bU (oi:=1) (cs:=[ai,ao,au,ah,ah,ak,al]) kz fun fM eY aC bV=>?_)
 refine B4 (A7 ?_)
 refine B8 [0,1,2,3,4,5,6,7] kz ?_
 refine B3 [0,1] [2,3,4,5,6,7] [aj,am,(13,.p 1 0),(14,.v (.agg #[ab,ac,ae,af,ag]))] aC bV fun fN bW=>?_
 refine B1 (C3 bW (f:=61) (vs:=[.agg #[ab,ac,ae,af,ag],.int .i64 1]) (d:=15) kz Tryz.call61 (M8 _ _ 1 _ _ (ht.move aC.step B0 aC.imm)) ?_)
 rintro e_ fO ⟨eZ,rfl,bX,aN⟩
 have bH:=bX.move aN B0 (fun b o h_ hb_=>aC.laid (G:=F) aN b o (.inl h_) (Nat.lt_of_lt_of_le hb_ aN.size))
 obtain ⟨aJ,fP,fQ,fR,fS,fT,fV,fW,fX,fY,fZ,e9,bY,bd,dK,dL,f5,f7⟩:=bH.open_
 rw [bd] at bH
 have dM:=dK.small
 have dN:=dL.small
 rw [bd]
 refine ⟨_,rfl,fun f8 bZ=>?_⟩
 have bI:=aC.next_nil aN
 have fa:=aC.frN aN
 refine B3 [3,4,5,6] [7] [aj,am,(17,.v (.int .i16 (IntKind.i16.wrap aJ))),(19,.p 1 2)] bI bZ fun f9 cd=>?_
 let ap:Value:=.int .i16 (IntKind.i16.wrap aJ)
 refine B1 (C7 bI cd (oi:=1) (cs:=[ai,ao,ap,ah,ah,ak,al]) kz fun ga fb aD ce=>?_)
 refine B4 (A7 ?_)
 refine B8 [0,1,2,3,4,5,6] kz ?_
 refine B3 [0,1] [2,3,4,5,6] [aj,am,(20,.p 1 0),(21,.v (.agg #[ab,ac,ae,af,ag]))] aD ce fun gb cg=>?_
 refine B1 (C3 cg (f:=61) (vs:=[.agg #[ab,ac,ae,af,ag],.int .i64 2]) (d:=22) kz Tryz.call61 (M8 _ _ 2 _ _ (ht.move aD.step B0 aD.imm)) ?_)
 rintro e_ gc ⟨fe,rfl,cm,aO⟩
 have bf:=cm.move aO B0 (fun b o h_ hb_=>aD.laid (G:=F) aO b o (.inl h_) (Nat.lt_of_lt_of_le hb_ aO.size))
 obtain ⟨dO,dP,dQ,dR,dS,dT,dU,dV,dW,dX,dY,ff,fg,bg,dZ,d5,gd,ge⟩:=bf.open_
 rw [bg] at bf
 have d6:=dZ.small
 have d7:=d5.small
 rw [bg]
 refine ⟨_,rfl,fun gg cn=>?_⟩
 have bh:=aD.next_nil aO
 have fh:=aD.frN aO
 refine B1 (C3 cn (f:=62) (vs:=[.agg #[.int .i64 dO,.slice dT dP.length dU,.bool dQ,.slice dV dR.length dW,.slice dX dS.length dY]]) (d:=23) kz Tryz.call62 (Db _ (Tree.at_ (Tree.mk n1 s2 b3 l4 u5) 2) _ _ bf) ?_)
 rintro e_ gh ⟨aA,rfl,cq,cr,bi⟩
 have cu:∀ ad,aA = some ad → ∃ b o,ad = ⟨b,o,none⟩ ∧ AtF _ _ b o [.string (bs (B9 (Tree.at_ (Tree.mk n1 s2 b3 l4 u5) 2)))]:=fun ad h=>by
   obtain ⟨b,o,g1,g2⟩:=cq ad h
   exact ⟨b,o,g1,g2.move (Step.refl _ B5) B0 (bh.laid (G:=F) bi)⟩
 refine ⟨_,rfl,fun gi cw=>?_⟩
 have bJ:=bh.next_nil bi
 have fi:=bh.frN bi
 refine B3 [4,5] [6] [aj,am,(23,.v (.pointer aA)),(25,.p 1 3)] bJ cw fun gj cz=>?_
 let ar:Value:=.pointer aA
 refine B1 (C7 bJ cz (oi:=1) (cs:=[ai,ao,ap,ar,ah,ak,al]) kz fun gk bK aE cA=>?_)
 refine B4 (A7 ?_)
 refine B8 [0,1,2,3,4,5,6] kz ?_
 refine B3 [0,1] [2,3,4,5,6] [aj,am,(26,.p 1 0),(27,.v (.agg #[ab,ac,ae,af,ag]))] aE cA fun gm cB=>?_
 refine B1 (C3 cB (f:=61) (vs:=[.agg #[ab,ac,ae,af,ag],.int .i64 3]) (d:=28) kz Tryz.call61 (M8 _ _ 3 _ _ (ht.move aE.step B0 aE.imm)) ?_)
 rintro e_ gn ⟨fj,rfl,cC,aP⟩
 have bj:=cC.move aP B0 (fun b o h_ hb_=>aE.laid (G:=F) aP b o (.inl h_) (Nat.lt_of_lt_of_le hb_ aP.size))
 obtain ⟨d8,d9,ea,eb,ec,ee,ef,eg,eh,ei,ej,fk,fl,bk,ek,em,gp,gq⟩:=bj.open_
 rw [bk] at bj
 have eo:=ek.small
 have eu:=em.small
 rw [bk]
 refine ⟨_,rfl,fun gt cE=>?_⟩
 have bn:=aE.next_nil aP
 have bM:=aE.frN aP
 refine B1 (C3 cE (f:=62) (vs:=[.agg #[.int .i64 d8,.slice ee d9.length ef,.bool ea,.slice eg eb.length eh,.slice ei ec.length ej]]) (d:=29) kz Tryz.call62 (Db _ (Tree.at_ (Tree.mk n1 s2 b3 l4 u5) 3) _ _ bj) ?_)
 rintro e_ gv ⟨aB,rfl,cG,cH,bp⟩
 have cI:∀ ad,aB = some ad → ∃ b o,ad = ⟨b,o,none⟩ ∧ AtF _ _ b o [.string (bs (B9 (Tree.at_ (Tree.mk n1 s2 b3 l4 u5) 3)))]:=fun ad h=>by
   obtain ⟨b,o,g1,g2⟩:=cG ad h
   exact ⟨b,o,g1,g2.move (Step.refl _ B5) B0 (bn.laid (G:=F) bp)⟩
 refine ⟨_,rfl,fun gw cJ=>?_⟩
 have bN:=bn.next_nil bp
 have bO:=bn.frN bp
 refine B3 [4,5] [6] [aj,am,(29,.v (.pointer aB)),(31,.p 1 4)] bN cJ fun gy cK=>?_
 let av:Value:=.pointer aB
 refine B1 (C7 bN cK (oi:=1) (cs:=[ai,ao,ap,ar,av,ak,al]) kz fun gz aU aF cL=>?_)
 refine B4 (A7 ?_)
 refine B8 [0,1,2,3,4,5,6] kz ?_
 refine B3 [0,1] [2,3,4,5,6] [aj,am,(32,.p 1 0),(33,.v (.agg #[ab,ac,ae,af,ag]))] aF cL fun gA cM=>?_
 refine B1 (C3 cM (f:=61) (vs:=[.agg #[ab,ac,ae,af,ag],.int .i64 4]) (d:=34) kz Tryz.call61 (M8 _ _ 4 _ _ (ht.move aF.step B0 aF.imm)) ?_)
 rintro e_ gB ⟨fm,rfl,cN,aQ⟩
 have bq:=cN.move aQ B0 (fun b o h_ hb_=>aF.laid (G:=F) aQ b o (.inl h_) (Nat.lt_of_lt_of_le hb_ aQ.size))
 obtain ⟨ev,ew,ey,ez,eB,eC,eD,eE,eF,eG,eH,fo,fq,bt,eI,eJ,gC,gD⟩:=bq.open_
 rw [bt] at bq
 have eK:=eI.small
 have eM:=eJ.small
 rw [bt]
 refine ⟨_,rfl,fun gE cO=>?_⟩
 have bu:=aF.next_nil aQ
 have aV:=aF.frN aQ
 refine B1 (C3 cO (f:=86) (vs:=[.agg #[.int .i64 ev,.slice eC ew.length eD,.bool ey,.slice eE ez.length eF,.slice eG eB.length eH]]) (d:=35) kz Tryz.call86 (Gq _ (Tree.at_ (Tree.mk n1 s2 b3 l4 u5) 4) _ _ bq) ?_)
 rintro e_ gF ⟨aK,aL,rfl,cP,cQ,bw⟩
 have cR:=cP.move (Step.refl _ B5) B0 (bu.laid (G:=F) bw)
 refine ⟨_,rfl,fun gG cS=>?_⟩
 have bP:=bu.next_nil bw
 have aW:=bu.frN bw
 refine B3 [4,5] [6] [aj,am,(35,.v (.slice aK ((B9 (Tree.at_ (Tree.mk n1 s2 b3 l4 u5) 4)).length) aL)),(37,.p 1 5)] bP cS fun gH cV=>?_
 let aG:Value:=.slice aK ((B9 (Tree.at_ (Tree.mk n1 s2 b3 l4 u5) 4)).length) aL
 refine B1 (C7 bP cV (oi:=1) (cs:=[ai,ao,ap,ar,av,aG,al]) kz fun eN aH aR cW=>?_)
 refine B4 (A7 ?_)
 let aw:Nat × SV:=(39,.v (.slice dj u5.length dl))
 let ax:Nat × SV:=(40,.v (.int .i64 ((u5.length:Nat):Int)))
 refine C1 [aj,aw,ax,(41,.v (.int .i64 0))] aR cW fun gI cX=>?_
 refine wp_block ?_
 have cY:=Fv aR 1 rfl kz
 have cZ:=cX.recast 0 (.p 1 0) (.v (.pointer (some ⟨aT,0,none⟩))) rfl rfl trivial
 let aI:Nat × SV:=(0,.v (.pointer (some ⟨aT,0,none⟩)))
 have da:=(cZ.pick (ks:=[0,39,40,41]) (env':=[aI,aw,ax,(41,.v (.int .i64 0))]) kz).cutTb 0 kz
 refine wp_loop_ghost (fun q a_ w_=>∃ (j:Nat) (m_:Option Nat),q = u5.length - j ∧ j ≤ u5.length ∧ EnvOk 54 [] [aI,aw,ax,(41,.v (.int .i64 ((j:Nat):Int)))] a_ ∧ TL w eN w_ F aT 6 [ai,ao,ap,ar,av,aG,al] m_ (u5.take j)) u5.length
  ⟨0,none,by omega,by omega,da,TL.start aR 1 rfl rfl⟩ ?_
 rintro q aq wq ⟨j,m_,rfl,hj,hE2,hT⟩
 have hWq:=WOk.start wq B5
 let bz:Nat × SV:=(41,.v (.int .i64 ((j:Nat):Int)))
 refine C1 [aI,aw,ax,bz,(42,.v (.bool (decide (((j:Nat):Int) < ((u5.length:Nat):Int)))))] hWq hE2 fun aq2 hE3=>wp_seq ?_
 refine D8 hE3 (b:=decide (((j:Nat):Int) < ((u5.length:Nat):Int))) kz (fun hc=>?_) (fun hc=>?_)
 ·have hlt:j < u5.length:=by have:=of_decide_eq_true hc; omega
  refine wp_skip (A7 (wp_seq (wp_block ?_)))
  obtain ⟨⟨k,x⟩,hu⟩:∃ y,u5[j]? = some y:=⟨_,List.getElem?_eq_getElem hlt⟩
  obtain ⟨bb,bo,xA,xc,hA,hat,hxo,hk⟩:=DU eP hu
  refine B8 [0,1,2,3] kz ?_
  refine B1 (F2 hE3 (t:=47) (e:=88) (size:=2) (bytes:=32) (d:=43) (b:=bb) (o:=bo) (m:=u5.length) (j:=j) kz kz hA rfl hlt fun aq3 hE4=>?_)
  refine B1 (G7 hE4 (t:=88) (d:=44) (cs:=[.int .u32 k,.slice xA x.length xc]) (v:=.agg #[.int .u32 k,.slice xA x.length xc]) kz kz (hat.step_nil hT.step) fun aq4 hE5=>?_)
  refine B1 (D7 hWq hE5 (d:=5) (cs:=[.int .u32 0,ak]) kz fun bx aq5 wq2 hbx hbx0 hFq2 hWq2 hE6=>?_)
  refine B1 (C7 hWq2 hE6 (oi:=0) (cs:=[.int .u32 k,.slice xA x.length xc]) kz fun wq3 hFq3 hWq3 hE7=>B4 (A7 ?_))
  have hWq4:=hWq3.drew
  refine DF (fun wz=>CellsOk wz [⟨bx,0,[.int .u32 k,.slice xA x.length xc],true⟩]) 8 kz ?_
  refine D6 [0,1,2,3,4,5,6] [aI,aw,ax,bz,(47,.v (.pointer (some ⟨aT,6,none⟩))),(49,.v (.int .u32 k)),(51,.v (.slice xA x.length xc))] 1 (C0 (B2 (B2 (C0 C6)))) (fun _ h=>h) hWq4.cells hE7 fun aq6 hE8=>?_
  refine C9 (i:=7) kz (C3 hE8 (f:=64) (vs:=[.pointer (some ⟨aT,6,none⟩),.int .u32 k,.slice xA x.length xc]) (d:=52) kz Tryz.call64 ((hT.move hWq4.step).set cY kz hsort hu hxo hk) ?_)
  rintro e_ wq5 ⟨rfl,hS5,r,hT5⟩
  refine ⟨_,rfl,fun aq7 hE9=>⟨fun _=>hT.keeps (off:=6) kz hS5 hWq4.cells (fun ob hm=>by rw [List.mem_singleton.1 hm]; exact Nat.le_of_eq hbx.symm),F3 kz (G2 (A7 ?_)) _⟩⟩
  have eO:=(hE9.pick (ks:=[0,39,40,41]) (env':=[aI,aw,ax,bz]) kz).cutTb 0 kz
  refine D9 [0,1] kz (B3 [0,1] [] [aI,aw,ax,(41,.v (.int .i64 (IntKind.i64.wrap (((j:Nat):Int) + 1))))] (WOk.start wq5 B5) eO fun aq8 db=>B4 (A7 ?_))
  rw [H1 (by omega)] at db
  exact ⟨u5.length - (j + 1),by omega,j + 1,some r,rfl,by omega,db,hT5⟩
 obtain rfl:j = u5.length:=by have:=of_decide_eq_false hc; omega
 refine wp_exit (E2 (E2 (G3 ?_)))
 rw [List.take_length] at hT
 obtain ⟨aS,ay⟩:=hT.tab aR 1 [aM,⟨aT,0,[ai,ao,ap,ar,av,aG,.map m_],true⟩,⟨dm,0,[ab,ac,ae,af,ag],true⟩] rfl
 have dc:=hT.mapImm aR aS ay hsort (Fu eP)
 have de:EnvOk 54 [aM,⟨aT,0,[ai,ao,ap,ar,av,aG,.map m_],true⟩,⟨dm,0,[ab,ac,ae,af,ag],true⟩] [] _:=(hE3.retable [aM,⟨aT,0,[ai,ao,ap,ar,av,aG,.map m_],true⟩,⟨dm,0,[ab,ac,ae,af,ag],true⟩]).pk
 refine M3 de aS.cells (v:=.tuple #[]) kz ?_
 refine ⟨_,rfl,fun gJ df=>?_⟩
 have dg:EnvOk 17 [aM,⟨aT,0,[ai,ao,ap,ar,av,aG,.map m_],true⟩,⟨dm,0,[ab,ac,ae,af,ag],true⟩] [(14,.v (.tuple #[])),(5,.p 1 0),(12,.p 1 0),bF] _:=df.places (⟨rfl,rfl,⟨rfl,rfl,trivial⟩⟩)
 refine B4 (A7 ?_)
 refine B8 [0,1,2] kz ?_
 refine B3 [0] [1,2] [(15,.p 1 0)] aS dg fun gK dh=>?_
 have hrel_:Ez (J8 m_ u5 [K7 (IntKind.i32.wrap bE),K7 (IntKind.i16.wrap aJ),H4 aA (bs (B9 (Tree.at_ (Tree.mk n1 s2 b3 l4 u5) 2))),H4 aB (bs (B9 (Tree.at_ (Tree.mk n1 s2 b3 l4 u5) 3))),O3 aK (B9 (Tree.at_ (Tree.mk n1 s2 b3 l4 u5) 4)) aL]) (Tree.mk n1 s2 b3 l4 u5):=by
  unfold Ez
  exact ⟨by rw [dI]; rfl,by rw [bY]; rfl,⟨rfl,cr⟩,⟨rfl,cH⟩,⟨rfl,cQ⟩,rfl,trivial⟩
 have he_:Y7 (IntKind.i16.wrap v) (J8 m_ u5 [K7 (IntKind.i32.wrap bE),K7 (IntKind.i16.wrap aJ),H4 aA (bs (B9 (Tree.at_ (Tree.mk n1 s2 b3 l4 u5) 2))),H4 aB (bs (B9 (Tree.at_ (Tree.mk n1 s2 b3 l4 u5) 3))),O3 aK (B9 (Tree.at_ (Tree.mk n1 s2 b3 l4 u5) 4)) aL]) = Y9 v (Tree.mk n1 s2 b3 l4 u5):=NR _ _ _ hrel_
 rw [← he_] at hroom ⊢
 have hok_:W2 wq (fun _ _=>True) (J8 m_ u5 [K7 (IntKind.i32.wrap bE),K7 (IntKind.i16.wrap aJ),H4 aA (bs (B9 (Tree.at_ (Tree.mk n1 s2 b3 l4 u5) 2))),H4 aB (bs (B9 (Tree.at_ (Tree.mk n1 s2 b3 l4 u5) 3))),O3 aK (B9 (Tree.at_ (Tree.mk n1 s2 b3 l4 u5) 4)) aL]):=by
  unfold W2
  exact ⟨trivial,trivial,⟨fun ad h=>by
  obtain ⟨b,o,g1,g2⟩:=cu ad h
  exact ⟨b,o,g1,((g2.move (((((((bK.trans bM).trans bO).trans aU).trans aV).trans aW).trans aH).trans ay).step immM (((((((bK.trans bM).trans bO).trans aU).trans aV).trans aW).trans aH).trans ay).to').move (Step.refl _ B5) B0 (fun _ _ _ _=>trivial))⟩,by show ByteArray.size (bs (B9 (Tree.at_ (Tree.mk n1 s2 b3 l4 u5) 2))) ≤ 1000000; rw [M6]; exact cj2⟩,⟨fun ad h=>by
  obtain ⟨b,o,g1,g2⟩:=cI ad h
  exact ⟨b,o,g1,((g2.move ((((aU.trans aV).trans aW).trans aH).trans ay).step immM ((((aU.trans aV).trans aW).trans aH).trans ay).to').move (Step.refl _ B5) B0 (fun _ _ _ _=>trivial))⟩,by show ByteArray.size (bs (B9 (Tree.at_ (Tree.mk n1 s2 b3 l4 u5) 3))) ≤ 1000000; rw [M6]; exact cj3⟩,⟨((cR.move (aH.trans ay).step immM (aH.trans ay).to').move (Step.refl _ B5) B0 (fun _ _ _ _=>trivial)),cj4⟩,(dc.move (Step.refl _ B5) B0 (fun _ _ _ _=>trivial)),cU.2.1,cU.2.2,trivial⟩
 refine B1 (C3 dh (f:=46) (vs:=[aZ,ak]) (d:=16) kz Tryz.call46 (NQ (IntKind.i16.wrap v) (J8 m_ u5 [K7 (IntKind.i32.wrap bE),K7 (IntKind.i16.wrap aJ),H4 aA (bs (B9 (Tree.at_ (Tree.mk n1 s2 b3 l4 u5) 2))),H4 aB (bs (B9 (Tree.at_ (Tree.mk n1 s2 b3 l4 u5) 3))),O3 aK (B9 (Tree.at_ (Tree.mk n1 s2 b3 l4 u5) 4)) aL]) aT 0 none 0 [] _ _ (fun j v hj=>⟨trivial,aS.cells 1 _ rfl j v hj⟩) hok_ Fw (World.ownsRow_nil _ 0 _ _) (by simpa using hroom)) ?_)
 rintro e_ wz ⟨A',c',rfl,ho,hs,hn⟩
 refine ⟨_,rfl,fun az hEz=>?_⟩
 have hEy:=(hEz.pick (ks:=[16]) (env':=[(16,.v (.slice A' (([] ++ Y7 (IntKind.i16.wrap v) (J8 m_ u5 [K7 (IntKind.i32.wrap bE),K7 (IntKind.i16.wrap aJ),H4 aA (bs (B9 (Tree.at_ (Tree.mk n1 s2 b3 l4 u5) 2))),H4 aB (bs (B9 (Tree.at_ (Tree.mk n1 s2 b3 l4 u5) 3))),O3 aK (B9 (Tree.at_ (Tree.mk n1 s2 b3 l4 u5) 4)) aL])).length) c'))]) kz).cutTb 0 kz
 have hWz:=WOk.start wz B5
 refine B3 [2] [] [(4,.v (.slice A' (([] ++ Y7 (IntKind.i16.wrap v) (J8 m_ u5 [K7 (IntKind.i32.wrap bE),K7 (IntKind.i16.wrap aJ),H4 aA (bs (B9 (Tree.at_ (Tree.mk n1 s2 b3 l4 u5) 2))),H4 aB (bs (B9 (Tree.at_ (Tree.mk n1 s2 b3 l4 u5) 3))),O3 aK (B9 (Tree.at_ (Tree.mk n1 s2 b3 l4 u5) 4)) aL])).length) c'))] hWz hEy fun gL di=>?_
 refine B4 (A7 ?_)
 refine wp_ret (D5 di hWz.cells (v:=.slice A' (([] ++ Y7 (IntKind.i16.wrap v) (J8 m_ u5 [K7 (IntKind.i32.wrap bE),K7 (IntKind.i16.wrap aJ),H4 aA (bs (B9 (Tree.at_ (Tree.mk n1 s2 b3 l4 u5) 2))),H4 aB (bs (B9 (Tree.at_ (Tree.mk n1 s2 b3 l4 u5) 3))),O3 aK (B9 (Tree.at_ (Tree.mk n1 s2 b3 l4 u5) 4)) aL])).length) c') kz ?_)
 exact Fs aS.step ⟨A',c',rfl,ho,hs,hn⟩
theorem NT (w:World):Calls Tryz.prog 6 #[] w (N5 w (.int .i64 5)):=by
 refine enter (n:=4) Tryz.func6 rfl Tryz.ntmps6 kz fun a hE=>?_
 have hW:=WOk.start w B5
 refine C1 [] hW hE fun a1 hE2=>?_
 refine B8 [0,1,2,3] kz ?_
 refine B1 (L6 hE2 (f:=27) (vs:=[]) (d:=1) (n':=3) kz Tryz.call27 Tryz.func27 rfl Tryz.ntmps27 kz fun a3 hE4=>?_)
 refine C1 [] hW hE4 fun a5 hE6=>?_
 refine B8 [0] kz ?_
 let ac:Value:=.pointer none
 refine B1 (D7 hW hE6 (d:=1) (cs:=[.int .i16 0,.int .i32 0,.int .i16 0,ac,ac,.slice none 0 0,.map none]) kz fun b7 a8 w9 aB aC aD ab af=>?_)
 refine B4 (A7 ?_)
 refine B8 [0] kz ?_
 refine B1 (L6 af (f:=51) (vs:=[.pointer (some ⟨b7,0,none⟩)]) (d:=2) (n':=2) kz Tryz.call51 Tryz.func51 rfl Tryz.ntmps51 kz fun aE ag=>?_)
 have ah:=ag.recast 0 (.v (.pointer (some ⟨b7,0,none⟩))) (.p 0 0) rfl rfl (Nat.le_of_ble_eq_true (n:=1) rfl)
 refine wp_skip (M3 ah ab.cells (v:=.tuple #[]) kz ?_)
 refine ⟨_,rfl,fun aF ai=>?_⟩
 let ae:Ob:=⟨b7,0,[.int .i16 0,.int .i32 0,.int .i16 0,ac,ac,.slice none 0 0,.map none],true⟩
 have aj:EnvOk 3 [ae] [(2,.v (.tuple #[])),(1,.p 0 0)] _:=ai.places (⟨rfl,rfl,trivial⟩)
 refine B4 (A7 ?_)
 refine C1 [(0,.p 0 0)] ab aj fun aG ak=>?_
 refine wp_ret (D5 ak ab.cells (v:=.pointer (some ⟨b7,0,none⟩)) kz ?_)
 refine ⟨_,rfl,fun aH al=>?_⟩
 have am:EnvOk 4 [ae] [(1,.v (.pointer (some ⟨b7,0,none⟩)))] _:=al.places (trivial)
 have ao:=am.recast 1 (.v (.pointer (some ⟨b7,0,none⟩))) (.p 0 0) rfl rfl (Nat.le_of_ble_eq_true (n:=1) rfl)
 have ap:=ao.pick (ks:=[1]) (env':=[(1,.p 0 0)]) kz
 refine B1 (L6 ap (f:=28) (vs:=[.pointer (some ⟨b7,0,none⟩)]) (d:=2) (n':=3) kz Tryz.call28 Tryz.func28 rfl Tryz.ntmps28 kz fun aI ar=>?_)
 have au:=ar.recast 0 (.v (.pointer (some ⟨b7,0,none⟩))) (.p 0 0) rfl rfl (Nat.le_of_ble_eq_true (n:=1) rfl)
 refine C1 [] ab au fun aJ av=>?_
 refine C1 [(2,.v (.int .i16 5))] ab av fun aK aw=>?_
 refine wp_ret (D5 aw ab.cells (v:=.int .i16 5) kz ?_)
 refine ⟨_,rfl,fun aL ax=>?_⟩
 have ay:EnvOk 4 [ae] [(2,.v (.int .i16 5)),(1,.p 0 0)] _:=ax.places (⟨rfl,rfl,trivial⟩)
 refine B3 [2,3] [] [(0,.v (.int .i64 5))] ab ay fun aM aA=>?_
 refine B4 (A7 ?_)
 refine wp_ret (D5 aA ab.cells (v:=.int .i64 5) kz ?_)
 exact ⟨rfl,ab.step⟩
def JK (v:Int) (T:Tree):Bs:=(if (decide (v ≥ 1)) = true then be 4 ((IntKind.i32.wrap (T.at_ 0).N)) else []) ++ ((be 2 ((IntKind.i16.wrap (T.at_ 1).N))) ++ ((if (decide (v ≥ 5)) = true then if (decide (v ≥ 4)) = true then (if (T.at_ 2).null = true then uv 0 else uv ((B9 (T.at_ 2)).length + 1) ++ (B9 (T.at_ 2))) else (if (T.at_ 2).null = true then be 2 (-1) else be 2 (B9 (T.at_ 2)).length ++ (B9 (T.at_ 2))) else []) ++ ((if (decide (v ≥ 5)) = true then if (decide (v ≥ 4)) = true then (if (T.at_ 3).null = true then uv 0 else uv ((B9 (T.at_ 3)).length + 1) ++ (B9 (T.at_ 3))) else (if (T.at_ 3).null = true then be 2 (-1) else be 2 (B9 (T.at_ 3)).length ++ (B9 (T.at_ 3))) else []) ++ ((if (decide (v ≥ 4)) = true then (uv ((B9 (T.at_ 4)).length + 1) ++ (B9 (T.at_ 4))) else (be 4 (B9 (T.at_ 4)).length ++ (B9 (T.at_ 4)))) ++ ((if (decide (v ≥ 4)) = true then (uv T.U.length) ++ (H0 T.U) else []) ++ (([]:Bs)))))))
theorem NU (v:Int) (T:Tree):H8 v T = JK v T:=rfl
def BG (v:Int) (D:DV) (T:Tree):Prop:=(((decide (v ≥ 1)) = true → (D.f 0).n = IntKind.i32.wrap (T.at_ 0).N) ∧ ((decide (v ≥ 1)) = false → (D.f 0).n = 0)) ∧ ((D.f 1).n = IntKind.i16.wrap (T.at_ 1).N) ∧ (((decide (v ≥ 5)) = true → ((D.f 2).s = bs (B9 (T.at_ 2)) ∧ (D.f 2).A.isNone = (T.at_ 2).null)) ∧ ((decide (v ≥ 5)) = false → ((D.f 2).s = ByteArray.empty ∧ (D.f 2).A = none))) ∧ (((decide (v ≥ 5)) = true → ((D.f 3).s = bs (B9 (T.at_ 3)) ∧ (D.f 3).A.isNone = (T.at_ 3).null)) ∧ ((decide (v ≥ 5)) = false → ((D.f 3).s = ByteArray.empty ∧ (D.f 3).A = none))) ∧ ((D.f 4).o = B9 (T.at_ 4)) ∧ (((decide (v ≥ 4)) = true → D.u = T.U) ∧ ((decide (v ≥ 4)) = false → D.u = [])) ∧ True
set_option maxHeartbeats 4000000 in
theorem NV (v:Int) (T:Tree) {bv:Nat} {A:Option Addr} {c:Nat} {w:World} {F:Nat → Nat → Prop} (hst:Str w bv [.int .i16 v,.int .i32 0,.int .i16 0,.pointer none,.pointer none,.slice none 0 0,.map none]) (ho:Octs w F A c (H8 v T)) (hFd:∀ b o,F b o → ¬ (b = bv ∧ o < 7)) (hc:Y8 T) (hR:T.ranged) :
  Calls Tryz.prog 83 #[.pointer (some ⟨bv,0,none⟩),.slice A (H8 v T).length c,.bool false] w (fun e w'=>∃ D:DV,e = .returned .nilIface ∧ Str w' bv [.int .i16 v,.int .i32 ((D.f 0).n),.int .i16 ((D.f 1).n),.pointer ((D.f 2).A),.pointer ((D.f 3).A),.slice ((D.f 4).A) ((D.f 4).o.length) ((D.f 4).c),.map D.m] ∧ W2 w' (Fp F w) D ∧ BG v D T ∧ Step w w' (fun b o=>b = bv ∧ o < 7)):=by
 refine enter (n:=80) Tryz.func83 rfl Tryz.ntmps83 kz fun a hE=>?_
 have hW:=WOk.startStr hst
 let ah:Value:=.int .i16 v
 let ai:Value:=.pointer none
 let aj:Value:=.slice none 0 0
 let ak:Value:=.map none
 have hE1:=(hE.grow ⟨bv,0,[ah,.int .i32 0,.int .i16 0,ai,ai,aj,ak],true⟩).recast 0 (.v (.pointer (some ⟨bv,0,none⟩))) (.p 0 0) rfl rfl (Nat.le_of_ble_eq_true (n:=1) rfl)
 let af:Nat × SV:=(2,.v (.bool false))
 refine C1 [(0,.p 0 0),(1,.v (.slice A ((H8 v T).length) c)),af] hW hE1 fun a1 hE2=>?_
 refine B8 [0,1] kz ?_
 refine B3 [0] [1] [(0,.p 0 0),(1,.v (.slice A ((H8 v T).length) c)),af,(16,.p 0 0)] hW hE2 fun a3 hE4=>?_
 refine B1 (L6 hE4 (f:=51) (vs:=[.pointer (some ⟨bv,0,none⟩)]) (d:=17) (n':=2) kz Tryz.call51 Tryz.func51 rfl Tryz.ntmps51 kz fun a5 hE6=>?_)
 have hE7:=hE6.recast 0 (.v (.pointer (some ⟨bv,0,none⟩))) (.p 0 0) rfl rfl (Nat.le_of_ble_eq_true (n:=1) rfl)
 refine wp_skip (M3 hE7 hW.cells (v:=.tuple #[]) kz ?_)
 refine ⟨_,rfl,fun a8 hE9=>?_⟩
 have cE:EnvOk 80 [⟨bv,0,[ah,.int .i32 0,.int .i16 0,ai,ai,aj,ak],true⟩] [(17,.v (.tuple #[])),(0,.p 0 0),(1,.v (.slice A ((H8 v T).length) c)),af,(16,.p 0 0)] _:=hE9.places (⟨rfl,rfl,trivial⟩)
 refine B4 (A7 ?_)
 refine B8 [0,1,2,3] kz ?_
 refine B3 [0,1] [2,3] [(0,.p 0 0),af,(19,.v (.agg #[.slice A ((H8 v T).length) c,.bool false]))] hW cE fun dN cG=>?_
 refine B1 (D7 hW cG (d:=7) (cs:=[aj,.bool false]) kz fun bp dO dP dB dC dD cH cI=>?_)
 refine B1 (C7 cH cI (oi:=1) (cs:=[.slice A ((H8 v T).length) c,.bool false]) kz fun dQ dE bd cJ=>?_)
 refine B4 (A7 ?_)
 let ab:Nat × SV:=(7,.p 0 0)
 have cK:=RS.start (F:=F) (s:=H8 v T) bd cJ (ho.move bd.step (fun b_ o_ h_ _=>hFd b_ o_ h_) (bd.immM hFd)) [(0,.p 1 0),af,ab]
 have dx:=hc
 have e26r:=hR
 unfold Y8 at dx
 obtain ⟨e26_0,e26_1,e26_2,e26_3,e26_4,e26_U,_⟩:=dx
 obtain ⟨dF,bu⟩:∃ R,R = (if (decide (v ≥ 4)) = true then (uv T.U.length) ++ (H0 T.U) else []) ++ ([]:Bs):=⟨_,rfl⟩
 obtain ⟨aQ,bw⟩:∃ R,R = (if (decide (v ≥ 4)) = true then (uv ((B9 (T.at_ 4)).length + 1) ++ (B9 (T.at_ 4))) else (be 4 (B9 (T.at_ 4)).length ++ (B9 (T.at_ 4)))) ++ dF:=⟨_,rfl⟩
 obtain ⟨aR,bz⟩:∃ R,R = (if (decide (v ≥ 5)) = true then if (decide (v ≥ 4)) = true then (if (T.at_ 3).null = true then uv 0 else uv ((B9 (T.at_ 3)).length + 1) ++ (B9 (T.at_ 3))) else (if (T.at_ 3).null = true then be 2 (-1) else be 2 (B9 (T.at_ 3)).length ++ (B9 (T.at_ 3))) else []) ++ aQ:=⟨_,rfl⟩
 obtain ⟨dG,bD⟩:∃ R,R = (if (decide (v ≥ 5)) = true then if (decide (v ≥ 4)) = true then (if (T.at_ 2).null = true then uv 0 else uv ((B9 (T.at_ 2)).length + 1) ++ (B9 (T.at_ 2))) else (if (T.at_ 2).null = true then be 2 (-1) else be 2 (B9 (T.at_ 2)).length ++ (B9 (T.at_ 2))) else []) ++ aR:=⟨_,rfl⟩
 obtain ⟨bE,bF⟩:∃ R,R = (be 2 ((IntKind.i16.wrap (T.at_ 1).N))) ++ dG:=⟨_,rfl⟩
 obtain ⟨dH,bG⟩:∃ R,R = (if (decide (v ≥ 1)) = true then be 4 ((IntKind.i32.wrap (T.at_ 0).N)) else []) ++ bE:=⟨_,rfl⟩
 have cL:=cK.cast (t:=dH) (by rw [NU,bG,bF,bD,bz,bw,bu]; unfold JK; simp only [List.append_assoc])
 refine wp_seq ?_
 let ag:Nat × SV:=(8,.v (.int .i16 v))
 let aS:C8:=[(0,.p 1 0),af,ab,ag]
 refine E5 aS cL fun _ cM=>?_
 refine A7 (wp_seq (E5 aS cM fun _ cN=>?_))
 refine A7 (wp_seq ?_)
 let ac:Nat × SV:=(9,.v (.bool (decide (v ≥ 4))))
 let aT:C8:=[(0,.p 1 0),af,ab,ag,ac]
 refine E5 aT cN fun _ cO=>?_
 refine A7 (wp_seq (E5 aT cO fun _ cP=>?_))
 refine A7 (wp_seq ?_)
 let ae:Nat × SV:=(10,.p 1 0)
 let al:C8:=[af,ab,ag,ac,ae]
 refine E5 al cP fun _ cQ=>?_
 refine A7 (wp_seq ?_)
 have cR:=cQ.cast bG
 refine R4 (Mid:=fun a_ w_=>∃ (bq:DV) (P':I1),(∀ w F,P' w F → Bx w F ∧ (True) ∧ ((decide (v ≥ 1)) = true → bq.n = IntKind.i32.wrap (T.at_ 0).N) ∧ ((decide (v ≥ 1)) = false → bq.n = 0)) ∧ RS w (fun b o=>b = bv ∧ o < 7) F 80 bp [⟨bv,0,[ah,.int .i32 bq.n,.int .i16 0,ai,ai,aj,ak],true⟩] al P' bE a_ w_) ?_ ?_
 ·
  refine wp_seq (E5 [af,ab,ag,ac,ae,(30,.v (.bool (decide (v ≥ 1))))] cR fun _ bf=>A7 ?_)
  refine D8 bf.env_ (b:=decide (v ≥ 1)) kz (fun aC=>?_) (fun aC=>?_)
  ·
   have cS:=bf.cast (t:=(be 4 ((IntKind.i32.wrap (T.at_ 0).N))) ++ bE) (by rw [if_pos aC])
   refine wp_seq (V8 (d:=31) [af,ab,ag,ac,ae,(11,.v (.int .i32 (IntKind.i32.wrap (T.at_ 0).N)))] cS (GC _ _) Tryz.call95 fun _ _ cV=>?_)
   refine A7 (Q0 [⟨bv,0,[ah,.int .i32 (IntKind.i32.wrap (T.at_ 0).N),.int .i16 0,ai,ai,aj,ak],true⟩] 0 al cV fun _ _ cW=>?_)
   refine A7 ?_
   exact ⟨K7 (IntKind.i32.wrap (T.at_ 0).N),_,fun w F h_=>⟨h_,trivial,⟨fun _=>rfl,(fun e_=>by rw [aC] at e_; cases e_)⟩⟩,cW.pk (env':=al)⟩
  have cX:=bf.cast (t:=[] ++ bE) (by rw [if_neg (by rw [aC]; decide)])
  have cY:=cX.cast (t:=bE) rfl
  refine wp_skip (A7 ?_)
  exact ⟨K7 (0),_,fun w F h_=>⟨h_,trivial,⟨(fun e_=>by rw [aC] at e_; cases e_),fun _=>rfl⟩⟩,cY.pk (env':=al)⟩
 rintro _ _ ⟨bq,dy,bH,cZ⟩
 refine A7 (wp_seq (wp_seq ?_))
 have da:=cZ.cast bF
 refine V8 (d:=36) [af,ab,ag,ac,ae,(12,.v (.int .i16 (IntKind.i16.wrap (T.at_ 1).N)))] da (Jz _ _) Tryz.call117 fun _ _ db=>?_
 refine A7 ?_
 let ao:Value:=.int .i32 bq.n
 let ap:Value:=.int .i16 (IntKind.i16.wrap (T.at_ 1).N)
 let aU:Ob:=⟨bv,0,[ah,ao,ap,ai,ai,aj,ak],true⟩
 refine Q0 [aU] 0 al db fun _ _ dc=>?_
 refine A7 (wp_seq ?_)
 have de:=dc.cast bD
 refine R4 (Mid:=fun a_ w_=>∃ (aD:DV) (P':I1),(∀ w F,P' w F → dy w F ∧ ((∀ ad,aD.A = some ad → ∃ b o,ad = ⟨b,o,none⟩ ∧ AtF w F b o [.string aD.s]) ∧ aD.s.size ≤ 1000000) ∧ ((decide (v ≥ 5)) = true → (aD.s = bs (B9 (T.at_ 2)) ∧ aD.A.isNone = (T.at_ 2).null)) ∧ ((decide (v ≥ 5)) = false → (aD.s = ByteArray.empty ∧ aD.A = none))) ∧ RS w (fun b o=>b = bv ∧ o < 7) F 80 bp [⟨bv,0,[ah,ao,ap,.pointer aD.A,ai,aj,ak],true⟩] al P' aR a_ w_) ?_ ?_
 ·
  refine wp_seq (E5 [af,ab,ag,ac,ae,(42,.v (.bool (decide (v ≥ 5))))] de fun _ bg=>A7 ?_)
  refine D8 bg.env_ (b:=decide (v ≥ 5)) kz (fun aE=>?_) (fun aE=>?_)
  ·
   have df:=bg.cast (t:=(if (decide (v ≥ 4)) = true then (if (T.at_ 2).null = true then uv 0 else uv ((B9 (T.at_ 2)).length + 1) ++ (B9 (T.at_ 2))) else (if (T.at_ 2).null = true then be 2 (-1) else be 2 (B9 (T.at_ 2)).length ++ (B9 (T.at_ 2)))) ++ aR) (by rw [if_pos aE])
   refine wp_seq (E5 al df fun _ dg=>?_)
   refine A7 (wp_seq (R4 (Mid:=fun a_ w_=>∃ (bt:Option Addr) (P':I1),(∀ w F,P' w F → dy w F ∧ Be bt (B9 (T.at_ 2)) w F ∧ bt.isNone = (T.at_ 2).null) ∧ RS w (fun b o=>b = bv ∧ o < 7) F 80 bp [aU] [af,ab,ag,ac,ae,(13,.v (.pointer bt))] P' aR a_ w_) ?_ ?_))
   ·
    refine wp_seq (E5 [af,ab,ag,ac,ae,(43,.v (.bool (decide (v ≥ 4))))] dg fun _ bh=>A7 ?_)
    refine D8 bh.env_ (b:=decide (v ≥ 4)) kz (fun bi=>?_) (fun bi=>?_)
    ·
     have dh:=bh.cast (t:=(if (T.at_ 2).null = true then uv 0 else uv ((B9 (T.at_ 2)).length + 1) ++ (B9 (T.at_ 2))) ++ aR) (by rw [if_pos bi])
     refine wp_seq (E5 [af,ab,ag,ac,ae,(44,.v (.bool false))] dh fun _ bI=>A7 ?_)
     refine F6 bI.env_ (b:=false) kz (rfl) ?_
     refine S5 (d:=46) (fun cB=>[af,ab,ag,ac,ae,(13,.v (.pointer cB))]) bI (Dh (T.at_ 2).null (B9 (T.at_ 2)) e26_2 _) (fun _=>(MvF.text _ _).and (MvF.is _)) Tryz.call97 fun cB dR _ _ bJ di=>?_
     refine A7 ?_
     exact ⟨cB,_,fun w F h_=>⟨(bJ _ _ h_).1,(bJ _ _ h_).2⟩,di.pk (env':=[af,ab,ag,ac,ae,(13,.v (.pointer cB))])⟩
    have dj:=bh.cast (t:=(if (T.at_ 2).null = true then be 2 (-1) else be 2 (B9 (T.at_ 2)).length ++ (B9 (T.at_ 2))) ++ aR) (by rw [if_neg (by rw [bi]; decide)])
    refine wp_seq (E5 [af,ab,ag,ac,ae,(47,.v (.bool false))] dj fun _ bK=>A7 ?_)
    refine F6 bK.env_ (b:=false) kz (rfl) ?_
    refine S5 (d:=49) (fun cC=>[af,ab,ag,ac,ae,(13,.v (.pointer cC))]) bK (Dg (T.at_ 2).null (B9 (T.at_ 2)) e26_2 _) (fun _=>(MvF.text _ _).and (MvF.is _)) Tryz.call99 fun cC dS _ _ bM dl=>?_
    refine A7 ?_
    exact ⟨cC,_,fun w F h_=>⟨(bM _ _ h_).1,(bM _ _ h_).2⟩,dl.pk (env':=[af,ab,ag,ac,ae,(13,.v (.pointer cC))])⟩
   rintro _ _ ⟨bt,dT,bj,dm⟩
   refine A7 (Q0 [⟨bv,0,[ah,ao,ap,.pointer bt,ai,aj,ak],true⟩] 0 al dm fun _ _ dn=>?_)
   refine A7 ?_
   exact ⟨H4 bt (bs (B9 (T.at_ 2))),_,fun w F h_=>⟨(bj _ _ h_).1,⟨(bj _ _ h_).2.1,by show ByteArray.size (bs _) ≤ 1000000; rw [M6]; exact Nat.le_trans e26_2 (by decide)⟩,⟨fun _=>⟨rfl,(bj _ _ h_).2.2⟩,(fun e_=>by rw [aE] at e_; cases e_)⟩⟩,dn.pk (env':=al)⟩
  have dp:=bg.cast (t:=[] ++ aR) (by rw [if_neg (by rw [aE]; decide)])
  have dq:=dp.cast (t:=aR) rfl
  refine wp_skip (A7 ?_)
  exact ⟨H4 none ByteArray.empty,_,fun w F h_=>⟨h_,⟨fun _ h=>(by cases h),Nat.zero_le _⟩,⟨(fun e_=>by rw [aE] at e_; cases e_),fun _=>⟨rfl,rfl⟩⟩⟩,dq.pk (env':=al)⟩
 rintro _ _ ⟨aD,dA,aL,dr⟩
 refine A7 (wp_seq ?_)
 have dt:=dr.cast bz
 let au:C8:=[ab,ac,ae]
 let av:Value:=.pointer aD.A
 refine R4 (Mid:=fun a_ w_=>∃ (ay:DV) (P':I1),(∀ w F,P' w F → dA w F ∧ ((∀ ad,ay.A = some ad → ∃ b o,ad = ⟨b,o,none⟩ ∧ AtF w F b o [.string ay.s]) ∧ ay.s.size ≤ 1000000) ∧ ((decide (v ≥ 5)) = true → (ay.s = bs (B9 (T.at_ 3)) ∧ ay.A.isNone = (T.at_ 3).null)) ∧ ((decide (v ≥ 5)) = false → (ay.s = ByteArray.empty ∧ ay.A = none))) ∧ RS w (fun b o=>b = bv ∧ o < 7) F 80 bp [⟨bv,0,[ah,ao,ap,av,.pointer ay.A,aj,ak],true⟩] au P' aQ a_ w_) ?_ ?_
 ·
  refine wp_seq (E5 [af,ab,ac,ae,(55,.v (.bool (decide (v ≥ 5))))] dt fun _ bk=>A7 ?_)
  refine D8 bk.env_ (b:=decide (v ≥ 5)) kz (fun aF=>?_) (fun aF=>?_)
  ·
   have du:=bk.cast (t:=(if (decide (v ≥ 4)) = true then (if (T.at_ 3).null = true then uv 0 else uv ((B9 (T.at_ 3)).length + 1) ++ (B9 (T.at_ 3))) else (if (T.at_ 3).null = true then be 2 (-1) else be 2 (B9 (T.at_ 3)).length ++ (B9 (T.at_ 3)))) ++ aQ) (by rw [if_pos aF])
   refine wp_seq (E5 [af,ab,ac,ae] du fun _ bN=>?_)
   refine A7 (wp_seq (R4 (Mid:=fun a_ w_=>∃ (aA:Option Addr) (P':I1),(∀ w F,P' w F → dA w F ∧ Be aA (B9 (T.at_ 3)) w F ∧ aA.isNone = (T.at_ 3).null) ∧ RS w (fun b o=>b = bv ∧ o < 7) F 80 bp [⟨bv,0,[ah,ao,ap,av,ai,aj,ak],true⟩] [ab,ac,ae,(14,.v (.pointer aA))] P' aQ a_ w_) ?_ ?_))
   ·
    refine wp_seq (E5 [af,ab,ac,ae,(56,.v (.bool (decide (v ≥ 4))))] bN fun _ aG=>A7 ?_)
    refine D8 aG.env_ (b:=decide (v ≥ 4)) kz (fun aH=>?_) (fun aH=>?_)
    ·
     have bO:=aG.cast (t:=(if (T.at_ 3).null = true then uv 0 else uv ((B9 (T.at_ 3)).length + 1) ++ (B9 (T.at_ 3))) ++ aQ) (by rw [if_pos aH])
     refine wp_seq (E5 [ab,ac,ae,(57,.v (.bool false))] bO fun _ aV=>A7 ?_)
     refine F6 aV.env_ (b:=false) kz (rfl) ?_
     refine S5 (d:=59) (fun aM=>[ab,ac,ae,(14,.v (.pointer aM))]) aV (Dh (T.at_ 3).null (B9 (T.at_ 3)) e26_3 _) (fun _=>(MvF.text _ _).and (MvF.is _)) Tryz.call97 fun aM dI _ _ aW bP=>?_
     refine A7 ?_
     exact ⟨aM,_,fun w F h_=>⟨(aW _ _ h_).1,(aW _ _ h_).2⟩,bP.pk (env':=[ab,ac,ae,(14,.v (.pointer aM))])⟩
    have bQ:=aG.cast (t:=(if (T.at_ 3).null = true then be 2 (-1) else be 2 (B9 (T.at_ 3)).length ++ (B9 (T.at_ 3))) ++ aQ) (by rw [if_neg (by rw [aH]; decide)])
    refine wp_seq (E5 [ab,ac,ae,(60,.v (.bool false))] bQ fun _ aX=>A7 ?_)
    refine F6 aX.env_ (b:=false) kz (rfl) ?_
    refine S5 (d:=62) (fun aN=>[ab,ac,ae,(14,.v (.pointer aN))]) aX (Dg (T.at_ 3).null (B9 (T.at_ 3)) e26_3 _) (fun _=>(MvF.text _ _).and (MvF.is _)) Tryz.call99 fun aN dJ _ _ aY bR=>?_
    refine A7 ?_
    exact ⟨aN,_,fun w F h_=>⟨(aY _ _ h_).1,(aY _ _ h_).2⟩,bR.pk (env':=[ab,ac,ae,(14,.v (.pointer aN))])⟩
   rintro _ _ ⟨aA,dK,aI,bS⟩
   refine A7 (Q0 [⟨bv,0,[ah,ao,ap,av,.pointer aA,aj,ak],true⟩] 0 au bS fun _ _ bT=>?_)
   refine A7 ?_
   exact ⟨H4 aA (bs (B9 (T.at_ 3))),_,fun w F h_=>⟨(aI _ _ h_).1,⟨(aI _ _ h_).2.1,by show ByteArray.size (bs _) ≤ 1000000; rw [M6]; exact Nat.le_trans e26_3 (by decide)⟩,⟨fun _=>⟨rfl,(aI _ _ h_).2.2⟩,(fun e_=>by rw [aF] at e_; cases e_)⟩⟩,bT.pk (env':=au)⟩
  have bU:=bk.cast (t:=[] ++ aQ) (by rw [if_neg (by rw [aF]; decide)])
  have bV:=bU.cast (t:=aQ) rfl
  refine wp_skip (A7 ?_)
  exact ⟨H4 none ByteArray.empty,_,fun w F h_=>⟨h_,⟨fun _ h=>(by cases h),Nat.zero_le _⟩,⟨(fun e_=>by rw [aF] at e_; cases e_),fun _=>⟨rfl,rfl⟩⟩⟩,bV.pk (env':=au)⟩
 rintro _ _ ⟨ay,dU,aB,dv⟩
 refine A7 (wp_seq (wp_seq (E5 au dv fun _ bW=>?_)))
 refine A7 (wp_seq ?_)
 have bX:=bW.cast bw
 refine Jt (d1:=68) (d2:=69) [ab,ac,ae,(67,.v (.bool (decide (v ≥ 4))))] (fun aO=>[ab,ac,ae,(15,.v (.slice aO ((B9 (T.at_ 4)).length) ((B9 (T.at_ 4)).length)))]) bX (JB (B9 (T.at_ 4)) e26_4 _) Tryz.call105 (JA (B9 (T.at_ 4)) e26_4 _) Tryz.call106 (fun _=>MvF.octs _ _ _) fun aO dw _ _ ar bY=>?_
 refine A7 ?_
 let aJ:Value:=.slice aO ((B9 (T.at_ 4)).length) ((B9 (T.at_ 4)).length)
 refine Q0 [⟨bv,0,[ah,ao,ap,av,.pointer ay.A,aJ,ak],true⟩] 0 au bY fun _ _ bZ=>?_
 refine A7 (wp_seq ?_)
 have cd:=bZ.cast bu
 refine R4 (Mid:=fun a_ w_=>∃ (aP:Option Nat) (ax:List (Int × Bs)) (P':I1),(∀ w F,P' w F → dw w F ∧ (MapR w F aP ax ∧ ax.length ≤ 1000000 ∧ ∀ x ∈ ax,x.2.length < 4294967296) ∧ ((decide (v ≥ 4)) = true → ax = T.U) ∧ ((decide (v ≥ 4)) = false → ax = [])) ∧ RS w (fun b o=>b = bv ∧ o < 7) F 80 bp [⟨bv,0,[ah,ao,ap,av,.pointer ay.A,aJ,.map aP],true⟩] [ab] P' ([]:Bs) a_ w_) ?_ ?_
 ·
  refine wp_seq (E5 [ab,ae,(74,.v (.bool (decide (v ≥ 4))))] cd fun _ aK=>A7 ?_)
  refine D8 aK.env_ (b:=decide (v ≥ 4)) kz (fun aw=>?_) (fun aw=>?_)
  ·
   have ce:=aK.cast (t:=((uv T.U.length) ++ (H0 T.U)) ++ ([]:Bs)) (by rw [if_pos aw])
   refine D9 [0,1,2,3,4] kz ?_
   refine L8 [0] [1,2,3,4] [ab,(75,.p 1 0)] ce fun _ cg=>?_
   refine B1 (Eo (d:=76) cg (GG T.U e26_U (Eb e26r) _) (fun _=>MvF.tagsM _ _) Tryz.call107 fun bn dL _ _ aZ cm=>?_)
   refine L8 [2,3] [4] [ab,(76,.v (.agg #[.map bn])),(78,.p 1 6)] cm fun _ cn=>?_
   refine B1 (Dd [⟨bv,0,[ah,ao,ap,av,.pointer ay.A,aJ,.map bn],true⟩] 0 cn fun _ cq=>?_)
   refine B4 ?_
   have cr:=cq.pk (env':=[ab])
   refine A7 ?_
   exact ⟨bn,T.U,_,fun w F h_=>⟨(aZ _ _ h_).1,⟨(aZ _ _ h_).2.1,e26_U.2.1,e26_U.2.2⟩,⟨fun _=>rfl,(fun e_=>by rw [aw] at e_; cases e_)⟩⟩,cr.pk (env':=[ab])⟩
  have cu:=aK.cast (t:=[] ++ ([]:Bs)) (by rw [if_neg (by rw [aw]; decide)])
  have cw:=cu.cast (t:=([]:Bs)) rfl
  refine wp_skip (A7 ?_)
  exact ⟨none,[],_,fun w F h_=>⟨h_,⟨MapR.nil _ _,Nat.zero_le _,fun _ h=>by cases h⟩,⟨(fun e_=>by rw [aw] at e_; cases e_),fun _=>rfl⟩⟩,cw.pk (env':=[ab])⟩
 rintro _ _ ⟨aP,ax,dM,am,cz⟩
 refine A7 (wp_seq (D9 [0,1] kz (B1 (Gs (d:=79) cz Gx Tryz.call103 fun _ cA=>?_))))
 refine L8 [1] [] [(6,.v (.nilIface))] cA fun _ ba=>B4 ?_
 refine A7 (wp_ret ?_)
 obtain ⟨A_,m_,c_,hW_,hr_,hE_,hP_⟩:=ba.open_
 refine D5 hE_ hW_.cells (v:=.nilIface) kz ?_
 have h_:=ba.mv.mono G0 hP_
 refine ⟨(J8 aP ax [bq,K7 (IntKind.i16.wrap (T.at_ 1).N),aD,ay,O3 aO (B9 (T.at_ 4)) (B9 (T.at_ 4)).length]),rfl,Str.of hW_ 1 rfl,?_,?_,hW_.step⟩
 ·unfold W2
  exact ⟨((bH _ _ (aL _ _ (aB _ _ (ar _ _ (am _ _ h_).1).1).1).1).2.1),(trivial),((aL _ _ (aB _ _ (ar _ _ (am _ _ h_).1).1).1).2.1),((aB _ _ (ar _ _ (am _ _ h_).1).1).2.1),(⟨(ar _ _ (am _ _ h_).1).2,Nat.le_trans e26_4 (by decide)⟩),(am _ _ h_).2.1.1,(am _ _ h_).2.1.2.1,(am _ _ h_).2.1.2.2,trivial⟩
 unfold BG
 exact ⟨((bH _ _ (aL _ _ (aB _ _ (ar _ _ (am _ _ h_).1).1).1).1).2.2),(rfl),((aL _ _ (aB _ _ (ar _ _ (am _ _ h_).1).1).1).2.2),((aB _ _ (ar _ _ (am _ _ h_).1).1).2.2),(rfl),(am _ _ h_).2.2,trivial⟩
theorem JL:O1 W2:=by
 intro w w' F F' M d hs hM hF h
 unfold W2 at h ⊢
 obtain ⟨g0,g1,⟨g2,g2l⟩,⟨g3,g3l⟩,⟨g4,g4l⟩,t1,t2,t3,_⟩:=h
 exact ⟨g0,g1,⟨fun ad hA=>by
  obtain ⟨b,o,h1,h2⟩:=g2 ad hA
  exact ⟨b,o,h1,h2.move hs hM hF⟩,g2l⟩,⟨fun ad hA=>by
  obtain ⟨b,o,h1,h2⟩:=g3 ad hA
  exact ⟨b,o,h1,h2.move hs hM hF⟩,g3l⟩,⟨Octs.move g4 hs hM hF,g4l⟩,t1.move hs hM hF,t2,t3,trivial⟩
def BH (D:DV):Tree:=.mk 0 [] false [.mk (IntKind.i64.wrap (D.f 0).n) [] false [] [],.mk (IntKind.i64.wrap (D.f 1).n) [] false [] [],T9 (D.f 2).A (D.f 2).s,T9 (D.f 3).A (D.f 3).s,.mk 0 (D.f 4).o (D.f 4).A.isNone [] []] D.u
set_option maxHeartbeats 4000000 in
theorem NW (v:Int) (D:DV) (b o:Nat) (w:World) (F:Nat → Nat → Prop) (hat:AtF w F b o [.int .i16 v,.int .i32 ((D.f 0).n),.int .i16 ((D.f 1).n),.pointer ((D.f 2).A),.pointer ((D.f 3).A),.slice ((D.f 4).A) ((D.f 4).o.length) ((D.f 4).c),.map D.m]) (hok:W2 w F D):Calls Tryz.prog 44 #[.pointer (some ⟨b,o,none⟩)] w (O9 w F (BH D)):=by
 refine enter (n:=57) Tryz.func44 rfl Tryz.ntmps44 kz fun a hE=>?_
 let aW:Value:=.pointer ((D.f 2).A)
 let aX:Value:=.pointer ((D.f 3).A)
 let aY:Value:=.slice ((D.f 4).A) ((D.f 4).o.length) ((D.f 4).c)
 let ag:Ob:=⟨b,o,[.int .i16 v,.int .i32 ((D.f 0).n),.int .i16 ((D.f 1).n),aW,aX,aY,.map D.m],false⟩
 have hW:WOk w B5 w [ag] []:=(WOk.start w B5).start1 hat rfl rfl
 unfold W2 at hok
 obtain ⟨g1,g2,⟨g3,g3l⟩,⟨g4,g4l⟩,⟨g5,g5l⟩,g6,g6l,g6x,_⟩:=hok
 let ai:Nat × SV:=(0,.p 0 0)
 have hE0:=(EnvOk.ptr0 (cs:=[.int .i16 v,.int .i32 ((D.f 0).n),.int .i16 ((D.f 1).n),aW,aX,aY,.map D.m]) (r:=false) hE).pk (env':=[ai])
 refine B8 [0] kz ?_
 let ae:Value:=.int .i64 0
 let ab:Value:=.slice none 0 0
 let ac:Value:=.bool false
 refine B1 (D7 hW hE0 (d:=2) (cs:=[ae,ab,ac,ab,ab]) kz fun b7 a8 w9 eC eD eE dc de=>?_)
 refine B4 (A7 ?_)
 refine B8 [0,1,2,3] kz ?_
 refine B1 (CV (t:=46) (e:=49) (size:=5) (bytes:=88) (d:=4) (j:=5) (.agg #[ae,ab,ac,ab,ab]) [ae,ab,ac,ab,ab,ae,ab,ac,ab,ab,ae,ab,ac,ab,ab,ae,ab,ac,ab,ab,ae,ab,ac,ab,ab] dc de fun au fN fO eF eG eH bV df=>?_)
 let af:Nat × SV:=(2,.p 1 0)
 let ao:Value:=.slice (some ⟨au,0,none⟩) 5 5
 refine B3 [1] [2,3] [ai,af,(5,.v (.agg #[ae,ab,ac,ao,ab]))] bV df fun fP dg=>?_
 refine B1 (D7 bV dg (d:=3) (cs:=[ae,ab,ac,ab,ab]) kz fun dh fQ fR eI eJ eK di dj=>?_)
 refine B1 (C7 di dj (oi:=3) (cs:=[ae,ab,ac,ao,ab]) kz fun fS eM dl dm=>?_)
 refine B4 (A7 ?_)
 refine J2 9 kz dl fun fT eN dn bW=>?_
 let ah:Nat × SV:=(3,.p 3 0)
 let bt:Nat × SV:=(7,.v (.slice (some ⟨au,0,none⟩) 5 5))
 let aj:Value:=.int .i64 (IntKind.i64.wrap ((D.f 0).n))
 let ej:Value:=(.agg #[.int .i64 (IntKind.i64.wrap ((D.f 0).n)),.slice none 0 0,.bool false,.slice none 0 0,.slice none 0 0])
 refine D6 [0,1,2,3,4,5,6,7] [ai,af,ah,bt,(13,.v (.agg #[aj,ab,ac,ab,ab]))] 2 (B2 C6) (fun _ h=>h.cells) bW dm fun fV dp=>?_
 refine H9 dp (i:=8) (t:=46) (A:=(some ⟨au,0,none⟩)) (m:=5) (q:=0) (d:=14) kz (e:=49) (size:=5) (bytes:=88) (j:=0) kz (b:=au) (o:=0) rfl rfl (by decide) kz kz (B2 C6) bW fun fW dq=>?_
 have dr:=dq.recast 14 (.v (.pointer (some ⟨au,0 + 0 * 5,none⟩))) (.p 2 0) rfl rfl (Nat.le_of_ble_eq_true (n:=3) rfl)
 have dt:=dr.pk (env':=[ai,af,ah,bt,(13,.v (.agg #[aj,ab,ac,ab,ab])),(14,.p 2 0)])
 refine C9 (i:=9) kz (C7 dn dt (oi:=2) (cs:=[aj,ab,ac,ab,ab,ae,ab,ac,ab,ab,ae,ab,ac,ab,ab,ae,ab,ac,ab,ab,ae,ab,ac,ab,ab]) kz fun fX eO du dv=>?_)
 refine ⟨fun h=>absurd rfl h,?_⟩
 refine F3 kz ?_ _
 refine A7 (J2 9 kz du fun fY eP dw bX=>?_)
 let bu:Nat × SV:=(16,.v (.slice (some ⟨au,0,none⟩) 5 5))
 let al:Value:=.int .i64 (IntKind.i64.wrap ((D.f 1).n))
 let ek:Value:=(.agg #[.int .i64 (IntKind.i64.wrap ((D.f 1).n)),.slice none 0 0,.bool false,.slice none 0 0,.slice none 0 0])
 refine D6 [0,1,2,3,4,5,6,7] [ai,af,ah,bu,(22,.v (.agg #[al,ab,ac,ab,ab]))] 2 (B2 C6) (fun _ h=>h.cells) bX dv fun fZ dx=>?_
 refine H9 dx (i:=8) (t:=46) (A:=(some ⟨au,0,none⟩)) (m:=5) (q:=1) (d:=23) kz (e:=49) (size:=5) (bytes:=88) (j:=1) kz (b:=au) (o:=0) rfl rfl (by decide) kz kz (B2 C6) bX fun f5 dy=>?_
 have dA:=dy.recast 23 (.v (.pointer (some ⟨au,0 + 1 * 5,none⟩))) (.p 2 5) rfl rfl (Nat.le_of_ble_eq_true (n:=3) rfl)
 have dB:=dA.pk (env':=[ai,af,ah,bu,(22,.v (.agg #[al,ab,ac,ab,ab])),(23,.p 2 5)])
 refine C9 (i:=9) kz (C7 dw dB (oi:=2) (cs:=[aj,ab,ac,ab,ab,al,ab,ac,ab,ab,ae,ab,ac,ab,ab,ae,ab,ac,ab,ab,ae,ab,ac,ab,ab]) kz fun f7 eQ dC dD=>?_)
 refine ⟨fun h=>absurd rfl h,?_⟩
 refine F3 kz ?_ _
 refine A7 (J2 8 kz dC fun eR eS aZ dE=>?_)
 let bw:Nat × SV:=(25,.v (.slice (some ⟨au,0,none⟩) 5 5))
 refine D6 [0,1,2,3,4,5] [ai,af,ah,bw,(29,.v (.pointer ((D.f 2).A)))] 3 (B2 C6) (fun _ h=>h.cells) dE dD fun f8 dF=>?_
 let av:Ob:=⟨b7,0,[ae,ab,ac,ab,ab],true⟩
 let aO:Ob:=⟨dh,0,[ae,ab,ac,ao,ab],true⟩
 refine C9 (i:=6) kz (C3 dF (f:=56) (vs:=[aW]) (d:=30) kz Tryz.call56 (Dj _ (D.f 2).s _ (D4 F w eR [ag,av,⟨au,0,[aj,ab,ac,ab,ab,al,ab,ac,ab,ab,ae,ab,ac,ab,ab,ae,ab,ac,ab,ab,ae,ab,ac,ab,ab],true⟩,aO] []) (fun ad h_=>by obtain ⟨b',o',g1,g2⟩:=g3 ad h_; exact ⟨b',o',g1,g2.move aZ.step B0 aZ.imm⟩) g3l) ?_)
 rintro e_ f9 ⟨eU,rfl,dG,bS⟩
 have bT:=dG.move (Step.refl _ B5) B0 (aZ.laid (G:=F) bS)
 obtain ⟨eV,eW,eX,eY,eZ,e9,fa,fb,fe,ff,fg,fh,fi,bz,fj,fk,ga,gb⟩:=bT.open_
 rw [bz] at bT
 have em:=fj.small
 have eo:=fk.small
 rw [bz]
 refine ⟨_,rfl,fun gc dH=>?_⟩
 have bY:=aZ.next_nil bS
 have dI:=aZ.frN bS
 have bD:=TT.ofW dI bY
 refine ⟨fun _=>bD,?_⟩
 refine H9 dH (i:=7) (t:=46) (A:=(some ⟨au,0,none⟩)) (m:=5) (q:=2) (d:=31) kz (e:=49) (size:=5) (bytes:=88) (j:=2) kz (b:=au) (o:=0) rfl rfl (by decide) kz kz (B2 C6) bD fun fl bZ=>?_
 have cd:=bZ.recast 31 (.v (.pointer (some ⟨au,0 + 2 * 5,none⟩))) (.p 2 10) rfl rfl (Nat.le_of_ble_eq_true (n:=3) rfl)
 let aw:Value:=.int .i64 eV
 let ax:Value:=.slice e9 eW.length fa
 let ay:Value:=.bool eX
 let aA:Value:=.slice fb eY.length fe
 let aB:Value:=.slice ff eZ.length fg
 have ce:=cd.pk (env':=[ai,af,ah,bw,(29,.v (.pointer ((D.f 2).A))),(30,.v (.agg #[aw,ax,ay,aA,aB])),(31,.p 2 10)])
 refine C9 (i:=8) kz (C7 bY ce (oi:=2) (cs:=[aj,ab,ac,ab,ab,al,ab,ac,ab,ab,aw,ax,ay,aA,aB,ae,ab,ac,ab,ab,ae,ab,ac,ab,ab]) kz fun fm bE cg cm=>?_)
 refine ⟨fun h=>absurd rfl h,?_⟩
 refine F3 kz ?_ _
 refine A7 (J2 8 kz cg fun dJ bF aH cn=>?_)
 let bG:Nat × SV:=(33,.v (.slice (some ⟨au,0,none⟩) 5 5))
 refine D6 [0,1,2,3,4,5] [ai,af,ah,bG,(37,.v (.pointer ((D.f 3).A)))] 3 (B2 C6) (fun _ h=>h.cells) cn cm fun fo cq=>?_
 refine C9 (i:=6) kz (C3 cq (f:=56) (vs:=[aX]) (d:=38) kz Tryz.call56 (Dj _ (D.f 3).s _ (D4 F w dJ [ag,av,⟨au,0,[aj,ab,ac,ab,ab,al,ab,ac,ab,ab,aw,ax,ay,aA,aB,ae,ab,ac,ab,ab,ae,ab,ac,ab,ab],true⟩,aO] []) (fun ad h_=>by obtain ⟨b',o',g1,g2⟩:=g4 ad h_; exact ⟨b',o',g1,g2.move aH.step B0 aH.imm⟩) g4l) ?_)
 rintro e_ fq ⟨eu,rfl,cr,ba⟩
 have bd:=cr.move (Step.refl _ B5) B0 (aH.laid (G:=F) ba)
 obtain ⟨dK,dL,bf,dM,dN,dO,dP,dQ,dR,dS,dT,ev,ew,bg,dU,dV,fr,ft⟩:=bd.open_
 rw [bg] at bd
 have dW:=dU.small
 have dX:=dV.small
 rw [bg]
 refine ⟨_,rfl,fun fu cu=>?_⟩
 have bH:=aH.next_nil ba
 have bh:=aH.frN ba
 have bI:=TT.ofW bh bH
 refine ⟨fun _=>bI,?_⟩
 refine H9 cu (i:=7) (t:=46) (A:=(some ⟨au,0,none⟩)) (m:=5) (q:=3) (d:=39) kz (e:=49) (size:=5) (bytes:=88) (j:=3) kz (b:=au) (o:=0) rfl rfl (by decide) kz kz (B2 C6) bI fun fv cw=>?_
 have cz:=cw.recast 39 (.v (.pointer (some ⟨au,0 + 3 * 5,none⟩))) (.p 2 15) rfl rfl (Nat.le_of_ble_eq_true (n:=3) rfl)
 let aI:Value:=.int .i64 dK
 let aJ:Value:=.slice dO dL.length dP
 let aK:Value:=.slice dQ dM.length dR
 let aL:Value:=.slice dS dN.length dT
 have cA:=cz.pk (env':=[ai,af,ah,bG,(37,.v (.pointer ((D.f 3).A))),(38,.v (.agg #[aI,aJ,.bool bf,aK,aL])),(39,.p 2 15)])
 refine C9 (i:=8) kz (C7 bH cA (oi:=2) (cs:=[aj,ab,ac,ab,ab,al,ab,ac,ab,ab,aw,ax,ay,aA,aB,aI,aJ,.bool bf,aK,aL,ae,ab,ac,ab,ab]) kz fun fw aP cB cC=>?_)
 refine ⟨fun h=>absurd rfl h,?_⟩
 refine F3 kz ?_ _
 refine A7 (J2 8 kz cB fun fx aQ aM cE=>?_)
 let bJ:Nat × SV:=(41,.v (.slice (some ⟨au,0,none⟩) 5 5))
 let bK:Nat × SV:=(45,.v (.slice ((D.f 4).A) ((D.f 4).o.length) ((D.f 4).c)))
 refine D6 [0,1,2,3,4,5] [ai,af,ah,bJ,bK] 3 (B2 C6) (fun _ h=>h.cells) cE cC fun fy cG=>?_
 refine C9 (i:=6) kz (C3 cG (f:=84) (vs:=[aY]) (d:=46) kz Tryz.call84 (GI _ _ _ _ _ (g5.move aM.step B0 aM.imm)) ?_)
 rintro e_ fA ⟨ey,rfl,cH,bi⟩
 have bj:=cH.move (Step.refl _ B5) B0 (aM.laid (G:=F) bi)
 obtain ⟨dY,dZ,bq,d5,d6,d7,d8,d9,ea,eb,ec,ez,eB,bk,ee,ef,fB,fC⟩:=bj.open_
 rw [bk] at bj
 have eg:=ee.small
 have eh:=ef.small
 rw [bk]
 refine ⟨_,rfl,fun fD cI=>?_⟩
 have bM:=aM.next_nil bi
 have aN:=aM.frN bi
 have bN:=TT.ofW aN bM
 refine ⟨fun _=>bN,?_⟩
 refine H9 cI (i:=7) (t:=46) (A:=(some ⟨au,0,none⟩)) (m:=5) (q:=4) (d:=47) kz (e:=49) (size:=5) (bytes:=88) (j:=4) kz (b:=au) (o:=0) rfl rfl (by decide) kz kz (B2 C6) bN fun fE cJ=>?_
 have cK:=cJ.recast 47 (.v (.pointer (some ⟨au,0 + 4 * 5,none⟩))) (.p 2 20) rfl rfl (Nat.le_of_ble_eq_true (n:=3) rfl)
 let aR:Value:=.int .i64 dY
 let aS:Value:=.slice d7 dZ.length d8
 let aT:Value:=.slice d9 d5.length ea
 let aU:Value:=.slice eb d6.length ec
 have cL:=cK.pk (env':=[ai,af,ah,bJ,bK,(46,.v (.agg #[aR,aS,.bool bq,aT,aU])),(47,.p 2 20)])
 refine C9 (i:=8) kz (C7 bM cL (oi:=2) (cs:=[aj,ab,ac,ab,ab,al,ab,ac,ab,ab,aw,ax,ay,aA,aB,aI,aJ,.bool bf,aK,aL,aR,aS,.bool bq,aT,aU]) kz fun ei aD aC cM=>?_)
 refine ⟨fun h=>absurd rfl h,?_⟩
 refine F3 kz ?_ _
 refine A7 (B8 [0,1,2,3,4] kz ?_)
 refine B3 [0,1,2] [3,4] [af,ah,(50,.p 0 6)] aC cM fun fF cN=>?_
 let bn:Value:=.pointer (some ⟨dh,0,none⟩)
 refine B1 (BY cN (v:=.func (.func 85) #[] #[bn]) (d:=51) kz fun fG cO=>?_)
 let ak:Ob:=⟨au,0,[aj,ab,ac,ab,ab,al,ab,ac,ab,ab,aw,ax,ay,aA,aB,aI,aJ,.bool bf,aK,aL,aR,aS,.bool bq,aT,aU],true⟩
 refine B1 (C3 cO (f:=58) (vs:=[.pointer (some ⟨b,o + 6,none⟩),.func (.func 85) #[] #[bn]]) (d:=52) kz Tryz.call58 (Gi (F:=(D4 F w ei [ag,av,ak,aO] [])) Tryz.call85 Nu ((hat.one 6 rfl).move aC.step B0 aC.imm) (g6.move aC.step B0 aC.imm) (Str.of aC 3 rfl) (Cf 3 rfl) g6l) ?_)
 rintro e_ fH ⟨rfl,cP,cQ,bU,cR,cS⟩
 let aE:Value:=.slice cP D.u.length cQ
 let am:Ob:=⟨dh,0,[ae,ab,ac,ao,aE],true⟩
 obtain ⟨bp,aF,cV⟩:=aC.wrote 3 [ag,av,ak,am] rfl cS bU
 have bO:=cR.move (Step.refl _ B5) B0 (fun b_ o_ h_ hb_=>cV (G:=F) b_ o_ (.inr h_) hb_)
 refine ⟨_,rfl,fun fI cW=>?_⟩
 have cX:=(EnvOk.places (tb':=[ag,av,ak,am]) cW (show Pl [ag,av,ak,aO] [ag,av,ak,am] from ⟨rfl,rfl,⟨rfl,rfl,⟨rfl,rfl,⟨rfl,rfl,trivial⟩⟩⟩⟩)).pk (env':=[(52,.v (.tuple #[])),af,ah,(50,.p 0 6),(51,.v (.func (.func 85) #[] #[bn]))])
 refine B4 (A7 ?_)
 refine B8 [0,1,2] kz ?_
 refine B3 [0,1] [2] [af,ah,(54,.v (.slice cP D.u.length cQ))] bp cX fun fJ cY=>?_
 refine B1 (C3 cY (f:=60) (vs:=[aE]) (d:=55) kz Tryz.call60 (GH bO g6.sorted) ?_)
 rintro e_ fK ⟨rfl,bP⟩
 refine ⟨_,rfl,fun fL cZ=>?_⟩
 have bQ:=bp.next_nil bP
 have ap:=bp.frN bP
 refine B4 (A7 ?_)
 refine B8 [0,1] kz ?_
 refine B3 [0] [1] [af,(56,.v (.agg #[ae,ab,ac,ao,aE]))] bQ cZ fun fM da=>?_
 refine B1 (C7 bQ da (oi:=1) (cs:=[ae,ab,ac,ao,aE]) kz fun aV ar bR db=>?_)
 refine B4 (A7 ?_)
 refine wp_ret (D5 db bR.cells (v:=.agg #[ae,ab,ac,ao,aE]) kz ?_)
 let aG:Ob:=⟨b7,0,[ae,ab,ac,ao,aE],true⟩
 exact CX (u:=D.u) (l:=[.mk (IntKind.i64.wrap (D.f 0).n) [] false [] [],.mk (IntKind.i64.wrap (D.f 1).n) [] false [] [],T9 (D.f 2).A (D.f 2).s,T9 (D.f 3).A (D.f 3).s,.mk 0 (D.f 4).o (D.f 4).A.isNone [] []]) (css:=[[aj,ab,ac,ab,ab],[al,ab,ac,ab,ab],[aw,ax,ay,aA,aB],[aI,aJ,.bool bf,aK,aL],[aR,aS,.bool bq,aT,aU]]) bR 2 rfl ⟨(show TreeR _ (D4 F w aV [ag,aG,ak,am] []) _ _ from (TreeR.mk (n:=IntKind.i64.wrap ((D.f 0).n)) (b:=false) (s:=[]) (l:=[]) (u:=[]) (fun _=>[]) (Octs.nil _ _) (Slots.nil _ _ _ _) (fun i_ x_ h_=>by simp at h_) (TagsR.nil _ _))).move (Step.refl _ B5) B0 G0,(show TreeR _ (D4 F w aV [ag,aG,ak,am] []) _ _ from (TreeR.mk (n:=IntKind.i64.wrap ((D.f 1).n)) (b:=false) (s:=[]) (l:=[]) (u:=[]) (fun _=>[]) (Octs.nil _ _) (Slots.nil _ _ _ _) (fun i_ x_ h_=>by simp at h_) (TagsR.nil _ _))).move (Step.refl _ B5) B0 G0,(show TreeR _ (D4 F w aV [ag,aG,ak,am] []) _ _ from (bT.move (((((((((bE.trans bF).trans bh).trans aP).trans aQ).trans aN).trans aD).trans aF).trans ap).trans ar).step immM (((((((((bE.trans bF).trans bh).trans aP).trans aQ).trans aN).trans aD).trans aF).trans ap).trans ar).to')).move (Step.refl _ B5) B0 G0,(show TreeR _ (D4 F w aV [ag,aG,ak,am] []) _ _ from (bd.move ((((((aP.trans aQ).trans aN).trans aD).trans aF).trans ap).trans ar).step immM ((((((aP.trans aQ).trans aN).trans aD).trans aF).trans ap).trans ar).to')).move (Step.refl _ B5) B0 G0,(show TreeR _ (D4 F w aV [ag,aG,ak,am] []) _ _ from (bj.move (((aD.trans aF).trans ap).trans ar).step immM (((aD.trans aF).trans ap).trans ar).to')).move (Step.refl _ B5) B0 G0,trivial⟩ ((show TagsR _ (D4 F w aV [ag,aG,ak,am] []) _ _ _ from (bO.move (ap.trans ar).step immM (ap.trans ar).to')).move (Step.refl _ B5) B0 G0)
def K4 (k:Int) (D:DV):Tree:=.mk 0 [] false [.mk 0 (D.f 0).o false [] [],.mk 0 (H5 k D) false [] []] []
def E9 (g y:Bs) (k:Int) (D:DV):Tree:=.mk 0 [] false [.mk 0 g false [] [],.mk 3 [] false [] [],.mk 0 y false [] [],.mk 0 [] true [] [],.mk 0 [] true [] [],.mk 0 [] true [] [],.mk 0 [] false ((List.range D.l).map fun i=>K4 k (D.f i)) []] []
def W3 (B:Bs):Tree:=.mk 0 [] false [.mk 0 [] false [] [],.mk 0 [] false [] [],.mk 0 [] true [] [],.mk 0 [] true [] [],.mk 0 B false [] []] []
def SyncOK (k:Int) (D:DV) (X:Tree):Prop:=(X.at_ 6).L.length = D.l ∧ ∀ i,i < D.l → ∃ y,(X.at_ 6).L[i]? = some y ∧ (y.at_ 0).S = ((D.f i).f 0).o ∧ (y.at_ 1).S = H5 k (D.f i)
theorem NX {v k:Int} {g y:Bs} {D E:DV} (hk:0 ≤ k ∧ k < 3) (hn:D.l ≤ 5) (hs:∀ i,i < D.l → V5 (D.f i)) (h:BD v E (C2 v 8 sSyncGroupRequestF (E9 g y k D))):SyncOK k D (BF E):=by
 unfold BD at h
 obtain ⟨_,_,_,_,_,_,⟨h1,h2⟩,_⟩:=h
 have hL:((E9 g y k D).at_ 6).L.length ≤ 32767:=by show ((List.range D.l).map _).length ≤ _; rw [J4]; omega
 have e1:=Cp (v:=v) (d:=7) (t:=E9 g y k D) (i:=6) (show sSyncGroupRequestF[6]? = _ from rfl) hL
 have e3:((E9 g y k D).at_ 6).L = (List.range D.l).map fun i=>K4 k (D.f i):=rfl
 rw [e1,e3,List.length_map,J4] at h1
 refine ⟨?_,fun i hi=>?_⟩
 ·show ((List.range (E.f 6).l).map _).length = _
  rw [J4,h1]
 have hiE:i < (E.f 6).l:=by omega
 refine ⟨_,GN hiE,?_⟩
 have hv:=h2 i hiE
 rw [e1,e3,List.map_map,GL hi] at hv
 dsimp only [Function.comp] at hv
 obtain ⟨g1,g2⟩:=fit_10 (v:=v) (d:=7) (x1:=0) (x2:=-1) (x5:=0) (x6:=10) (s:=[(Fld.mk 8 0 (-1) (-1) (-1) 0 0 []),(Fld.mk 9 0 (-1) (-1) (-1) 0 0 [])]) (b:=Fld.nul (Fld.mk 10 0 (-1) (-1) (-1) 0 10 [(Fld.mk 8 0 (-1) (-1) (-1) 0 0 []),(Fld.mk 9 0 (-1) (-1) (-1) 0 0 [])]) v (K4 k (D.f i))) (x:=K4 k (D.f i))
 unfold Do at hv
 obtain ⟨v1,v2,_⟩:=hv
 obtain ⟨_,_,t3,_⟩:=hs i hi
 have t4:=Dl hk (hs i hi)
 rw [g1] at v1 v2
 have p1:=GK (v:=v) (d:=6) (t:=K4 k (D.f i)) (i:=0) (l:=[(Fld.mk 8 0 (-1) (-1) (-1) 0 0 []),(Fld.mk 9 0 (-1) (-1) (-1) 0 0 [])]) rfl (.inl rfl) (by show ((D.f i).f 0).o.length ≤ _; omega)
 have p2:=Dk (v:=v) (d:=6) (t:=K4 k (D.f i)) (i:=1) (l:=[(Fld.mk 8 0 (-1) (-1) (-1) 0 0 []),(Fld.mk 9 0 (-1) (-1) (-1) 0 0 [])]) rfl (.inr rfl) (by show (H5 k (D.f i)).length ≤ _; omega)
 refine ⟨?_,?_⟩
 ·show sb (((E.f 6).f i).f 0).s = _
  rw [v1,Z7,p1]; rfl
 show (((E.f 6).f i).f 1).o = _
 rw [v2,p2.1]; rfl
theorem NY {v:Int} {B:Bs} {E:DV} (hB:B.length ≤ 32767) (h:BG v E (C2 v 8 sSyncGroupResponseF (W3 B))):((BH E).at_ 4).S = B:=by
 unfold BG at h
 obtain ⟨_,_,_,_,h1,_⟩:=h
 have p2:=Dk (v:=v) (d:=7) (t:=W3 B) (i:=4) (show sSyncGroupResponseF[4]? = _ from rfl) (.inr rfl) (show B.length ≤ _ from hB)
 show (E.f 4).o = _
 rw [h1,p2.1]; rfl
theorem O5 {A B:Bs} {m n:Nat} (h1:A.length ≤ m) (h2:B.length ≤ n):(A ++ B).length ≤ m + n:=by rw [List.length_append]; exact Nat.add_le_add h1 h2
theorem Bi {c:Prop} [Decidable c] {A B:Bs} {n:Nat} (h1:A.length ≤ n) (h2:B.length ≤ n):(if c then A else B).length ≤ n:=by split <;> assumption
theorem Dp {x:Nat} (h:x < 4294967296):(uv x).length ≤ 5:=by
 rw [Z5 h]
 split
 ·omega
 split
 ·omega
 split
 ·omega
 split <;> omega
theorem BI (n:Nat) (x:Int):(be n x).length ≤ n:=by rw [be_length]; exact Nat.le_refl _
theorem Dq {c:Bool} {m:Nat} {s:Bs} (hm:m ≤ 4) (h:s.length ≤ 32767):(if c = true then (uv (s.length + 1) ++ s) else (be m s.length ++ s)).length ≤ 40000 :=
 Bi (Nat.le_trans (O5 (Dp (by omega)) h) (by omega)) (Nat.le_trans (O5 (BI _ _) h) (by omega))
theorem Dr {c b d:Bool} {s:Bs} (h:s.length ≤ 32767):(if d = true then if c = true then (if b = true then uv 0 else uv (s.length + 1) ++ s) else (if b = true then be 2 (-1) else be 2 s.length ++ s) else []).length ≤ 40000 :=
 Bi (Bi (Bi (Nat.le_trans (Dp (by omega)) (by omega)) (Nat.le_trans (O5 (Dp (by omega)) h) (by omega))) (Bi (Nat.le_trans (BI _ _) (by omega)) (Nat.le_trans (O5 (BI _ _) h) (by omega)))) (by simp)
theorem GT {c:Bool} {u:List (Int × Bs)} (h:u = []):(if c = true then (uv u.length) ++ (H0 u) else []).length ≤ 5:=by
 subst h
 exact Bi (by show (uv 0 ++ []).length ≤ 5; rw [List.append_nil]; exact Dp (by omega)) (by simp)
theorem GU {v:Int} {d:Nat} {l:List Fld} {t:Tree} (h:t.U = []):(C2 v d l t).U = []:=by rw [IG,h]; rfl
theorem NZ {v w k:Int} {g y:Bs} {D:DV} (hn:D.l ≤ 5):(H7 w (C2 v 8 sSyncGroupRequestF (E9 g y k D))).length ≤ 1000000:=by
 have hL:((E9 g y k D).at_ 6).L.length ≤ 32767:=by show ((List.range D.l).map _).length ≤ _; rw [J4]; omega
 have e1:=Cp (v:=v) (d:=7) (t:=E9 g y k D) (i:=6) (show sSyncGroupRequestF[6]? = _ from rfl) hL
 have e3:((E9 g y k D).at_ 6).L = (List.range D.l).map fun i=>K4 k (D.f i):=rfl
 have hc:=GQ v (E9 g y k D)
 have hU:(C2 v 8 sSyncGroupRequestF (E9 g y k D)).U = []:=GU rfl
 have hln:(lst ((C2 v 8 sSyncGroupRequestF (E9 g y k D)).at_ 6)).length ≤ 5:=by rw [e1,e3,List.length_map,J4]; exact hn
 have hm:∀ x ∈ lst ((C2 v 8 sSyncGroupRequestF (E9 g y k D)).at_ 6),x.U = []:=by
  intro x hx
  rw [e1,e3] at hx
  obtain ⟨y',hy,rfl⟩:=List.mem_map.1 hx
  obtain ⟨i,hi,rfl⟩:=List.mem_map.1 hy
  exact fit_10.2.trans (GU rfl)
 generalize C2 v 8 sSyncGroupRequestF (E9 g y k D) = T at hc hU hln hm ⊢
 unfold Y6 at hc
 obtain ⟨c0,_,c2,c3,c4,c5,⟨c6,c6e⟩,_⟩:=hc
 have h9:=Ew (c:=80005) (f:=fun Ek9:Tree=>(if (decide (w ≥ 4)) = true then (uv ((Ek9.at_ 0).S.length + 1) ++ (Ek9.at_ 0).S) else (be 2 (Ek9.at_ 0).S.length ++ (Ek9.at_ 0).S)) ++ ((if (decide (w ≥ 4)) = true then (uv ((B9 (Ek9.at_ 1)).length + 1) ++ (B9 (Ek9.at_ 1))) else (be 4 (B9 (Ek9.at_ 1)).length ++ (B9 (Ek9.at_ 1)))) ++ (if (decide (w ≥ 4)) = true then (uv Ek9.U.length) ++ (H0 Ek9.U) else []))) (L:=lst (T.at_ 6)) fun x hx=>by
  have hx1:=c6e x hx
  unfold BC at hx1
  obtain ⟨x1,x2,_⟩:=hx1
  exact O5 (Dq (by omega) x1) (O5 (Dq (by omega) x2) (GT (hm x hx)))
 have h10:80005 * (lst (T.at_ 6)).length ≤ 400025:=by omega
 have h11:(if (decide (w ≥ 4)) = true then (uv ((lst (T.at_ 6)).length + 1)) else (be 4 (lst (T.at_ 6)).length)).length ≤ 5:=Bi (Dp (by omega)) (Nat.le_trans (BI _ _) (by omega))
 unfold H7
 refine Nat.le_trans (O5 (Dq (by omega) c0) (O5 (BI _ _) (O5 (Dq (by omega) c2) (O5 (Dr c3) (O5 (Dr c4) (O5 (Dr c5) (O5 (O5 h11 (Nat.le_trans h9 h10)) (O5 (GT hU) (Nat.le_of_eq rfl))))))))) (by decide)
theorem Pa {v w:Int} {B:Bs}:(H8 w (C2 v 8 sSyncGroupResponseF (W3 B))).length ≤ 1000000:=by
 have hc:=GS v (W3 B)
 have hU:(C2 v 8 sSyncGroupResponseF (W3 B)).U = []:=GU rfl
 generalize C2 v 8 sSyncGroupResponseF (W3 B) = T at hc hU ⊢
 unfold Y8 at hc
 obtain ⟨_,_,c2,c3,c4,_⟩:=hc
 unfold H8
 refine Nat.le_trans (O5 (Bi (BI _ _) (by simp)) (O5 (BI _ _) (O5 (Dr c2) (O5 (Dr c3) (O5 (Dq (by omega) c4) (O5 (GT hU) (Nat.le_of_eq rfl))))))) (by decide)
theorem SyncOK.thing {k:Int} {D:DV} {X:Tree} (h:SyncOK k D X) {n:Int} {s:Bs} {b:Bool} {l:List Tree} {u:List (Int × Bs)} (e:X.at_ 6 = .mk n s b l u) {i:Nat} {x:Tree} (hx:l[i]? = some x) (hi:i < D.l):(x.at_ 0).S = ((D.f i).f 0).o ∧ (x.at_ 1).S = H5 k (D.f i):=by
 obtain ⟨y,h1,h2⟩:=h.2 i hi
 rw [e] at h1
 obtain rfl:=Option.some.inj (hx.symm.trans h1)
 exact h2
theorem req_told' {v k:Int} {g y:Bs} {D E:DV} (hv:IntKind.i16.wrap v = v) (hk:0 ≤ k ∧ k < 3) (hn:D.l ≤ 5) (hs:∀ i,i < D.l → V5 (D.f i)) (h:BD (IntKind.i16.wrap v) E (C2 v 8 sSyncGroupRequestF (E9 g y k D))):SyncOK k D (BF E):=by
 rw [hv] at h
 exact NX hk hn hs h
theorem back_told' {v:Int} {B:Bs} {E:DV} (hv:IntKind.i16.wrap v = v) (hB:B.length ≤ 32767) (h:BG (IntKind.i16.wrap v) E (C2 v 8 sSyncGroupResponseF (W3 B))):((BH E).at_ 4).S = B:=by
 rw [hv] at h
 exact NY hB h
theorem Pb (k:Int) (D:DV):(K4 k D).ranged:=M9 (Q1 (M9 O4) (Q1 (M9 O4) O4))
theorem Pc (v:Int) (g y:Bs) (k:Int) (D:DV):(C2 v 8 sSyncGroupRequestF (E9 g y k D)).ranged :=
 FV _ _ _ _ (M9 (Q1 (M9 O4) (Q1 (M9 O4) (Q1 (M9 O4) (Q1 (M9 O4) (Q1 (M9 O4) (Q1 (M9 O4) (Q1 (M9 (GP fun i=>Pb k _)) O4))))))))
theorem Pd (v:Int) (B:Bs):(C2 v 8 sSyncGroupResponseF (W3 B)).ranged :=
 FV _ _ _ _ (M9 (Q1 (M9 O4) (Q1 (M9 O4) (Q1 (M9 O4) (Q1 (M9 O4) (Q1 (M9 O4) O4))))))
theorem GV {v k:Int} {g y:Bs} {D:DV} (hn:D.l ≤ 5):(R1 v (C2 v 8 sSyncGroupRequestF (E9 g y k D))).length + 16 ≤ 1099511627776:=Nat.le_trans (Nat.add_le_add_right (NZ hn) 16) (by decide)
theorem GW {v:Int} {B:Bs}:(Y9 v (C2 v 8 sSyncGroupResponseF (W3 B))).length + 16 ≤ 1099511627776:=Nat.le_trans (Nat.add_le_add_right Pa 16) (by decide)
theorem not_true {b:Bool} (h:(!b) = false):b = true:=by cases b <;> simp_all
theorem Pe {z:Int} (h:0 ≤ z):0 ≤ Int.tmod z 3 ∧ Int.tmod z 3 < 3:=⟨Int.tmod_nonneg _ h,Int.tmod_lt_of_pos _ (by decide)⟩
end Go.Proofs.YtipblegipibplaaGreatDoor.ME