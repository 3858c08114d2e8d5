/- Packed. Own work. -/
import Derived.Test.YtoclgihkbmaolacGreatDoorWb0P2
import Derived.Deep.LoopGhost
namespace Go.Proofs.YtoclgihkbmaolacGreatDoor.ME
open Go
open Go.RowKit
set_option linter.unusedVariables false
set_option linter.unusedSimpArgs false
set_option maxRecDepth 20000
def JA (d:Nat):Prop:=∀ (cf:List Value) (f:Fld) (ct:List Value) (t:Tree) (w:World) (F:Nat → Nat → Prop),FldR w F cf f → f.depth ≤ d → TreeR w F ct t →
  Calls Tryz.prog 27 #[.agg cf.toArray,.agg ct.toArray] w (J9 w (.bool (f.usual t)))
theorem NJ {d:Nat} (hu:JA d) (cf:List Value) (f:Fld) (ct:List Value) (t:Tree) (w:World) (F:Nat → Nat → Prop) (hf:FldR w F cf f) (hd:f.depth ≤ d + 1) (ht:TreeR w F ct t) :
  Calls Tryz.prog 27 #[.agg cf.toArray,.agg ct.toArray] w (J9 w (.bool (f.usual t))):=by
 obtain ⟨k1,y2,y3,y4,y5,y6,y7,l8,A9,d6,d7,rfl,rfl,d8,eT⟩:=hf.open_
 have eU:=d8.small
 obtain ⟨aK,al,aT,cv,bQ,d9,eV,fL,fM,eW,eX,fN,rfl,rfl,eY,fO,ir,fP⟩:=ht.open_
 have eZ:=eY.small
 have e9:=fO.small
 refine enter (n:=91) Tryz.func27 rfl Tryz.ntmps27 kz fun a hE=>?_
 have hW:=WOk.start w C7
 refine C1 [0,1,2] kz ?_
 let aU:Value:=.slice A9 l8.length d6
 refine B1 (M2 hW hE (d:=2) (cs:=(z6 k1 y2 y3 y4 y5 y6 y7 aU)) kz fun fQ iu iv fR fS fT ea eb=>?_)
 let aC:Value:=.int .i64 aK
 let aL:Value:=.slice d9 al.length eV
 let aM:Value:=.slice fL cv.length fM
 let aD:Value:=.slice eW bQ.length eX
 refine B1 (M2 ea eb (d:=3) (cs:=[aC,aL,.bool aT,aM,aD]) kz fun fV iw ix fW fX fY ab ec=>?_)
 let ae:Nat × SV:=(2,.p 0 0)
 let ac:Nat × SV:=(3,.p 1 0)
 refine B3 [2] [] [ae,ac] ab ec fun iy ee=>?_
 refine B4 (A4 ?_)
 refine wp_seq ?_
 let ap:Nat × SV:=(10,.v (.int .i64 k1))
 refine B9 [ae,ac,ap] ab ee fun iz ef=>?_
 refine wp_block (B9 [ae,ac,ap,(11,.v (.bool (k1 == 0)))] ab ef fun iA cw=>?_)
 refine E2 cw (b:=k1 == 0) kz (fun cy=>?_) (fun cy=>?_)
 ·
  have fZ:k1 = 0:=by simpa using cy
  refine B9 [(4,.v (.bool ((IntKind.i64.wrap (BitVec.ofInt 64 aK &&& BitVec.ofInt 64 1).toNat) == y6)))] ab cw fun iB eg=>?_
  refine wp_ret (J6 (F5 (D1 eg ab.cells (v:=.bool ((IntKind.i64.wrap (BitVec.ofInt 64 aK &&& BitVec.ofInt 64 1).toNat) == y6)) kz ?_)))
  refine ⟨congrArg (fun b_=>Ending.returned (Value.bool b_)) ?_,ab.step⟩
  first
   | (rw [U8 ‹_›]; simp only [I1]; done)
   | (rw [O3 ‹_› ‹_›]; exact V3 hz (by omega); done)
   | (rw [O3 ‹_› ‹_›]; exact V4 (k:=k) (by omega) (by omega) ‹_›; done)
   | (rw [U9 ‹_› ‹_› (by omega) ‹_›]; done)
   | (rw [V0 ‹_› ‹_› (by omega) ‹_›]; done)
   | (rw [V1 ‹_› ‹_› ‹_› ‹_› ‹_›]; done)
   | (rw [T4 ‹_› ‹_› ‹_› ‹_› ‹_› ‹_›,huu,V5 (by omega),Bool.true_and]; done)
   | (rw [V2 ‹_› ‹_› ‹_› ‹_› ‹_› ‹_›]; done)
 have f5:k1 ≠ 0:=by simpa using cy
 refine B9 [ae,ac,ap,(19,.v (.bool (k1 == 7)))] ab cw fun iC cz=>?_
 let aV:Ob:=⟨fQ,0,(z6 k1 y2 y3 y4 y5 y6 y7 aU),true⟩
 let aW:Ob:=⟨fV,0,[aC,aL,.bool aT,aM,aD],true⟩
 refine E2 cz (b:=k1 == 7) kz (fun cA=>?_) (fun cA=>?_)
 ·
  have f7:k1 = 7:=by simpa using cA
  refine wp_seq ?_
  let ag:Nat × SV:=(22,.v (.slice d9 al.length eV))
  let ah:Nat × SV:=(23,.v (.int .i64 ((al.length:Nat):Int)))
  refine B9 [ag,ah,(24,.v (.int .i64 0))] ab cz fun iD eh=>?_
  refine wp_block (wp_loop_ghost (fun n_ a_ w_=>∃ (k:Nat),n_ = al.length - k ∧ k ≤ al.length ∧ (∀ q,q < k → q < 16 → (((al.getD q 0).toNat:Nat):Int) = 0) ∧ J1 ab 91 [aV,aW] [] [ag,ah,(24,.v (.int .i64 ((k:Nat):Int)))] a_ w_) (al.length) ⟨0,by omega,by omega,fun q h_=>absurd h_ (Nat.not_lt_zero q),eh.pk,ab,Fr.refl _ _ _⟩ ?_)
  rintro iE iF iG ⟨k,f8,f9,hz,ei,ai,cH⟩
  let am:Nat × SV:=(24,.v (.int .i64 ((k:Nat):Int)))
  refine B9 [ag,ah,am,(25,.v (.bool (decide (((k:Nat):Int) < ((al.length:Nat):Int)))))] ai ei fun iH cB=>?_
  refine wp_seq (E2 cB (b:=decide (((k:Nat):Int) < ((al.length:Nat):Int))) kz (fun cC=>?_) (fun cC=>?_))
  ·
   have ga:=of_decide_eq_true cC
   refine wp_skip (A4 (wp_seq (wp_block (C1 [0,1,2,3,4] kz ?_))))
   refine B3 [0] [1,2,3,4] [ag,ah,am,(26,.v (.int .i64 ((k:Nat):Int)))] ai cB fun iI ej=>?_
   obtain ⟨gb,gc,ek,gd,cI⟩:=Slots.get eY (i:=k) (by omega)
   refine B1 (J7 ej (t:=22) (A:=d9) (m:=al.length) (q:=((k:Nat):Int)) (d:=27) kz (e:=5) (size:=1) (bytes:=1) kz ek rfl (by omega) fun iJ em=>?_)
   refine B1 (M7 em (t:=5) (b:=gb) (o:=gc + k * 1) (d:=28) kz (cs:=[.int .u8 ((al.getD k 0).toNat:Int)]) (v:=.int .u8 ((al.getD k 0).toNat:Int)) kz (AtF.move cI ai.step B2 F3).at_ fun iK eo=>?_)
   let aN:Nat × SV:=(6,.v (.int .u8 ((al.getD k 0).toNat:Int)))
   refine B3 [3,4] [] [(5,.v (.int .i64 ((k:Nat):Int))),aN,ag,ah,am] ai eo fun iL eu=>?_
   refine B4 (A4 ?_)
   refine C1 [0,1,2,3,4,5] kz ?_
   refine B3 [0,1,2] [3,4,5] [aN,ag,ah,am,(31,.v (.bool (decide (((k:Nat):Int) < 16))))] ai eu fun iM cJ=>?_
   refine (Bool.eq_false_or_eq_true (decide (((k:Nat):Int) < 16))).elim (fun aX=>?_) (fun aX=>?_)
   ·
    have ge:=of_decide_eq_true aX
    have ev:=cJ
    rw [aX] at ev
    refine B3 [3,4,5] [] [ag,ah,am,(34,.v (.bool (((al.getD k 0).toNat:Int) != 0)))] ai ev fun iN aY=>?_
    refine B4 (A4 ?_)
    refine E2 aY (b:=((al.getD k 0).toNat:Int) != 0) kz (fun aZ=>?_) (fun aZ=>?_)
    ·
     have fa:((al.getD k 0).toNat:Int) ≠ 0:=by simpa using aZ
     refine B9 [(4,.v (.bool false))] ai aY fun gg cK=>?_
     refine wp_ret (J6 (F5 (F5 (J6 (F5 (J6 (F5 (D1 cK ai.cells (v:=.bool false) kz ?_))))))))
     refine ⟨congrArg (fun b_=>Ending.returned (Value.bool b_)) ?_,ai.step⟩
     first
      | (rw [U8 ‹_›]; simp only [I1]; done)
      | (rw [O3 ‹_› ‹_›]; exact V3 hz (by omega); done)
      | (rw [O3 ‹_› ‹_›]; exact V4 (k:=k) (by omega) (by omega) ‹_›; done)
      | (rw [U9 ‹_› ‹_› (by omega) ‹_›]; done)
      | (rw [V0 ‹_› ‹_› (by omega) ‹_›]; done)
      | (rw [V1 ‹_› ‹_› ‹_› ‹_› ‹_›]; done)
      | (rw [T4 ‹_› ‹_› ‹_› ‹_› ‹_› ‹_›,huu,V5 (by omega),Bool.true_and]; done)
      | (rw [V2 ‹_› ‹_› ‹_› ‹_› ‹_› ‹_›]; done)
    have fb:((al.getD k 0).toNat:Int) = 0:=by simpa using aZ
    refine wp_skip (H7 (A4 (E4 [0,1] kz ?_)))
    refine B3 [0,1] [] [ag,ah,(24,.v (.int .i64 (IntKind.i64.wrap (((k:Nat):Int) + 1))))] ai aY fun gh bR=>?_
    refine B4 (A4 ?_)
    have cL:IntKind.i64.wrap (((k:Nat):Int) + 1) = ((k + 1:Nat):Int):=N0 (by omega)
    rw [cL] at bR
    exact ⟨al.length - (k + 1),by omega,k + 1,rfl,by omega,fun q hq cM=>by rcases Nat.lt_succ_iff_lt_or_eq.1 hq with h_ | h_; exact hz q h_ cM; rw [h_] at cM ⊢; first | assumption | omega,bR.pk,ai,cH⟩
   have fc:=of_decide_eq_false aX
   have cN:=cJ
   rw [aX] at cN
   refine B3 [3,4,5] [] [ag,ah,am,(34,.v (.bool false))] ai cN fun gi bS=>?_
   refine B4 (A4 ?_)
   refine G6 bS (b:=false) kz rfl ?_
   refine wp_skip (H7 (A4 (E4 [0,1] kz ?_)))
   refine B3 [0,1] [] [ag,ah,(24,.v (.int .i64 (IntKind.i64.wrap (((k:Nat):Int) + 1))))] ai bS fun gj bT=>?_
   refine B4 (A4 ?_)
   have cO:IntKind.i64.wrap (((k:Nat):Int) + 1) = ((k + 1:Nat):Int):=N0 (by omega)
   rw [cO] at bT
   exact ⟨al.length - (k + 1),by omega,k + 1,rfl,by omega,fun q hq cM=>by rcases Nat.lt_succ_iff_lt_or_eq.1 hq with h_ | h_; exact hz q h_ cM; rw [h_] at cM ⊢; first | assumption | omega,bT.pk,ai,cH⟩
  have fe:=of_decide_eq_false cC
  refine wp_exit (F2 (F2 (I7 (A4 (B9 [(4,.v (.bool true))] ai cB fun gk cP=>?_)))))
  refine wp_ret (J6 (F5 (D1 cP ai.cells (v:=.bool true) kz ?_)))
  refine ⟨congrArg (fun b_=>Ending.returned (Value.bool b_)) ?_,ai.step⟩
  first
   | (rw [U8 ‹_›]; simp only [I1]; done)
   | (rw [O3 ‹_› ‹_›]; exact V3 hz (by omega); done)
   | (rw [O3 ‹_› ‹_›]; exact V4 (k:=k) (by omega) (by omega) ‹_›; done)
   | (rw [U9 ‹_› ‹_› (by omega) ‹_›]; done)
   | (rw [V0 ‹_› ‹_› (by omega) ‹_›]; done)
   | (rw [V1 ‹_› ‹_› ‹_› ‹_› ‹_›]; done)
   | (rw [T4 ‹_› ‹_› ‹_› ‹_› ‹_› ‹_›,huu,V5 (by omega),Bool.true_and]; done)
   | (rw [V2 ‹_› ‹_› ‹_› ‹_› ‹_› ‹_›]; done)
 have ff:k1 ≠ 7:=by simpa using cA
 refine wp_seq (B9 [ae,ac,ap,(36,.v (.bool (k1 == 8)))] ab cz fun gl aO=>?_)
 let bU:B8:=[ac,(41,.v (.bool (decide (y4 ≥ 0))))]
 let bV:B8:=[(4,.v (.bool (((al.length:Nat):Int) == 0)))]
 refine E2 aO (b:=k1 == 8) kz (fun aP=>?_) (fun aP=>?_)
 ·
  have fg:k1 = 8:=by simpa using aP
  refine wp_skip (A4 (N7 aO (b:=k1 == 8) kz (aP) ?_))
  refine wp_seq (B9 bU ab aO fun gm ba=>?_)
  refine E2 ba (b:=decide (y4 ≥ 0)) kz (fun bd=>?_) (fun bd=>?_)
  ·
   have fh:=of_decide_eq_true bd
   refine B9 [(4,.v (.bool aT))] ab ba fun gn cQ=>?_
   refine wp_ret (F5 (J6 (F5 (D1 cQ ab.cells (v:=.bool aT) kz ?_))))
   refine ⟨congrArg (fun b_=>Ending.returned (Value.bool b_)) ?_,ab.step⟩
   first
    | (rw [U8 ‹_›]; simp only [I1]; done)
    | (rw [O3 ‹_› ‹_›]; exact V3 hz (by omega); done)
    | (rw [O3 ‹_› ‹_›]; exact V4 (k:=k) (by omega) (by omega) ‹_›; done)
    | (rw [U9 ‹_› ‹_› (by omega) ‹_›]; done)
    | (rw [V0 ‹_› ‹_› (by omega) ‹_›]; done)
    | (rw [V1 ‹_› ‹_› ‹_› ‹_› ‹_›]; done)
    | (rw [T4 ‹_› ‹_› ‹_› ‹_› ‹_› ‹_›,huu,V5 (by omega),Bool.true_and]; done)
    | (rw [V2 ‹_› ‹_› ‹_› ‹_› ‹_› ‹_›]; done)
  have fi:=of_decide_eq_false bd
  refine wp_skip (A4 (B9 bV ab ba fun gp cR=>?_))
  refine wp_ret (J6 (F5 (D1 cR ab.cells (v:=.bool (((al.length:Nat):Int) == 0)) kz ?_)))
  refine ⟨congrArg (fun b_=>Ending.returned (Value.bool b_)) ?_,ab.step⟩
  first
   | (rw [U8 ‹_›]; simp only [I1]; done)
   | (rw [O3 ‹_› ‹_›]; exact V3 hz (by omega); done)
   | (rw [O3 ‹_› ‹_›]; exact V4 (k:=k) (by omega) (by omega) ‹_›; done)
   | (rw [U9 ‹_› ‹_› (by omega) ‹_›]; done)
   | (rw [V0 ‹_› ‹_› (by omega) ‹_›]; done)
   | (rw [V1 ‹_› ‹_› ‹_› ‹_› ‹_›]; done)
   | (rw [T4 ‹_› ‹_› ‹_› ‹_› ‹_› ‹_›,huu,V5 (by omega),Bool.true_and]; done)
   | (rw [V2 ‹_› ‹_› ‹_› ‹_› ‹_› ‹_›]; done)
 have fj:k1 ≠ 8:=by simpa using aP
 refine E4 [0,1] kz ?_
 refine B3 [0,1] [] [ae,ac,ap,(36,.v (.bool (k1 == 9)))] ab aO fun gq bf=>?_
 refine B4 (A4 ?_)
 refine E2 bf (b:=k1 == 9) kz (fun bg=>?_) (fun bg=>?_)
 ·
  have fk:k1 = 9:=by simpa using bg
  refine wp_seq (B9 bU ab bf fun gt bh=>?_)
  refine E2 bh (b:=decide (y4 ≥ 0)) kz (fun bj=>?_) (fun bj=>?_)
  ·
   have fl:=of_decide_eq_true bj
   refine B9 [(4,.v (.bool aT))] ab bh fun gu cS=>?_
   refine wp_ret (F5 (J6 (F5 (D1 cS ab.cells (v:=.bool aT) kz ?_))))
   refine ⟨congrArg (fun b_=>Ending.returned (Value.bool b_)) ?_,ab.step⟩
   first
    | (rw [U8 ‹_›]; simp only [I1]; done)
    | (rw [O3 ‹_› ‹_›]; exact V3 hz (by omega); done)
    | (rw [O3 ‹_› ‹_›]; exact V4 (k:=k) (by omega) (by omega) ‹_›; done)
    | (rw [U9 ‹_› ‹_› (by omega) ‹_›]; done)
    | (rw [V0 ‹_› ‹_› (by omega) ‹_›]; done)
    | (rw [V1 ‹_› ‹_› ‹_› ‹_› ‹_›]; done)
    | (rw [T4 ‹_› ‹_› ‹_› ‹_› ‹_› ‹_›,huu,V5 (by omega),Bool.true_and]; done)
    | (rw [V2 ‹_› ‹_› ‹_› ‹_› ‹_› ‹_›]; done)
  have fm:=of_decide_eq_false bj
  refine wp_skip (A4 (B9 bV ab bh fun gv cU=>?_))
  refine wp_ret (J6 (F5 (D1 cU ab.cells (v:=.bool (((al.length:Nat):Int) == 0)) kz ?_)))
  refine ⟨congrArg (fun b_=>Ending.returned (Value.bool b_)) ?_,ab.step⟩
  first
   | (rw [U8 ‹_›]; simp only [I1]; done)
   | (rw [O3 ‹_› ‹_›]; exact V3 hz (by omega); done)
   | (rw [O3 ‹_› ‹_›]; exact V4 (k:=k) (by omega) (by omega) ‹_›; done)
   | (rw [U9 ‹_› ‹_› (by omega) ‹_›]; done)
   | (rw [V0 ‹_› ‹_› (by omega) ‹_›]; done)
   | (rw [V1 ‹_› ‹_› ‹_› ‹_› ‹_›]; done)
   | (rw [T4 ‹_› ‹_› ‹_› ‹_› ‹_› ‹_›,huu,V5 (by omega),Bool.true_and]; done)
   | (rw [V2 ‹_› ‹_› ‹_› ‹_› ‹_› ‹_›]; done)
 have fo:k1 ≠ 9:=by simpa using bg
 refine B9 [ae,ac,ap,(48,.v (.bool (k1 == 11)))] ab bf fun gw bk=>?_
 refine E2 bk (b:=k1 == 11) kz (fun bn=>?_) (fun bn=>?_)
 ·
  have fq:k1 = 11:=by simpa using bn
  refine B9 [(4,.v (.bool (((cv.length:Nat):Int) == 0)))] ab bk fun gx cV=>?_
  refine wp_ret (J6 (F5 (D1 cV ab.cells (v:=.bool (((cv.length:Nat):Int) == 0)) kz ?_)))
  refine ⟨congrArg (fun b_=>Ending.returned (Value.bool b_)) ?_,ab.step⟩
  first
   | (rw [U8 ‹_›]; simp only [I1]; done)
   | (rw [O3 ‹_› ‹_›]; exact V3 hz (by omega); done)
   | (rw [O3 ‹_› ‹_›]; exact V4 (k:=k) (by omega) (by omega) ‹_›; done)
   | (rw [U9 ‹_› ‹_› (by omega) ‹_›]; done)
   | (rw [V0 ‹_› ‹_› (by omega) ‹_›]; done)
   | (rw [V1 ‹_› ‹_› ‹_› ‹_› ‹_›]; done)
   | (rw [T4 ‹_› ‹_› ‹_› ‹_› ‹_› ‹_›,huu,V5 (by omega),Bool.true_and]; done)
   | (rw [V2 ‹_› ‹_› ‹_› ‹_› ‹_› ‹_›]; done)
 have fr:k1 ≠ 11:=by simpa using bn
 refine B9 [ae,ac,(54,.v (.bool (k1 == 10)))] ab bk fun gy bo=>?_
 refine E2 bo (b:=k1 == 10) kz (fun bp=>?_) (fun bp=>?_)
 ·
  have ft:k1 = 10:=by simpa using bp
  refine wp_seq ?_
  let aj:Nat × SV:=(57,.v (.slice A9 l8.length d6))
  let ak:Nat × SV:=(58,.v (.int .i64 ((l8.length:Nat):Int)))
  refine B9 [ae,ac,aj,ak,(59,.v (.int .i64 0))] ab bo fun gz cW=>?_
  refine wp_block (wp_loop_ghost (fun n_ a_ w_=>∃ (k:Nat),n_ = l8.length - k ∧ k ≤ l8.length ∧ (usuals l8 (Tree.mk aK al aT cv bQ) 0 = usuals (l8.drop k) (Tree.mk aK al aT cv bQ) k) ∧ J1 ab 91 [aV,aW] [] [ae,ac,aj,ak,(59,.v (.int .i64 ((k:Nat):Int)))] a_ w_) (l8.length) ⟨0,by omega,by omega,rfl,cW.pk,ab,Fr.refl _ _ _⟩ ?_)
  rintro gA gB gC ⟨k,fu,fv,huu,cX,af,cY⟩
  let aE:Nat × SV:=(59,.v (.int .i64 ((k:Nat):Int)))
  refine B9 [ae,ac,aj,ak,aE,(60,.v (.bool (decide (((k:Nat):Int) < ((l8.length:Nat):Int)))))] af cX fun gD bq=>?_
  refine wp_seq (E2 bq (b:=decide (((k:Nat):Int) < ((l8.length:Nat):Int))) kz (fun bt=>?_) (fun bt=>?_))
  ·
   have fw:=of_decide_eq_true bt
   refine wp_skip (A4 (wp_seq (wp_block (C1 [0,1,2,3,4,5] kz ?_))))
   refine B3 [0] [1,2,3,4,5] [ae,ac,aj,ak,aE,(61,.v (.int .i64 ((k:Nat):Int)))] af bq fun gE cZ=>?_
   obtain ⟨ew,ey,da,fx,bu⟩:=Slots.get d8 (i:=k) (by omega)
   obtain ⟨ez,aQ⟩:∃ x,l8[k]? = some x:=⟨_,List.getElem?_eq_getElem (by omega)⟩
   have bw:=eT k ez aQ
   obtain ⟨bx,bz,bA,bB,bC,bD,bE,bF,cE,cG,fy,rfl,bG,eB,gF⟩:=bw.open_
   rw [bG] at bw
   have eC:=eB.small
   rw [bG] at bu
   refine B1 (J7 cZ (t:=29) (A:=A9) (m:=l8.length) (q:=((k:Nat):Int)) (d:=62) kz (e:=46) (size:=8) (bytes:=80) kz da rfl (by omega) fun gG db=>?_)
   let ar:Value:=.int .i64 bx
   let au:Value:=.int .i64 bz
   let av:Value:=.int .i64 bA
   let aw:Value:=.int .i64 bB
   let ax:Value:=.int .i64 bC
   let ay:Value:=.int .i64 bD
   let az:Value:=.int .i64 bE
   let aA:Value:=.slice cE bF.length cG
   let fz:Value:=.agg #[.int .i64 bx,.int .i64 bz,.int .i64 bA,.int .i64 bB,.int .i64 bC,.int .i64 bD,.int .i64 bE,.slice cE bF.length cG]
   refine B1 (M7 db (t:=46) (b:=ew) (o:=ey + k * 8) (d:=63) kz (cs:=[ar,au,av,aw,ax,ay,az,aA]) (v:=.agg #[ar,au,av,aw,ax,ay,az,aA]) kz (AtF.move bu af.step B2 F3).at_ fun gH dc=>?_)
   let ao:Value:=.int .i64 0
   refine B1 (N6 af dc (d:=8) (cs:=[ao,ao,ao,ao,ao,ao,ao,.slice none 0 0]) kz fun gI gJ gK fA fB de bW df=>?_)
   let fC:Value:=(.agg #[.int .i64 bx,.int .i64 bz,.int .i64 bA,.int .i64 bB,.int .i64 bC,.int .i64 bD,.int .i64 bE,.slice cE bF.length cG])
   refine B3 [4] [5] [ae,ac,(7,.v (.int .i64 ((k:Nat):Int))),(8,.p 2 0),aj,ak,aE,(63,.v (.agg #[ar,au,av,aw,ax,ay,az,aA]))] bW df fun gL dg=>?_
   refine B1 (I9 bW dg (oi:=2) (cs:=[ar,au,av,aw,ax,ay,az,aA]) kz fun gM dh di dj=>?_)
   refine B4 (A4 ?_)
   refine X8 6 kz di fun gN dl aF dp=>?_
   refine G4 [0,1,2] [ae,ac,aj,ak,aE,(64,.v (.agg #[ar,au,av,aw,ax,ay,az,aA])),(65,.v (.agg #[aC,aL,.bool aT,aM,aD])),(66,.v (.int .i64 ((k:Nat):Int)))] 3 (B6 (D8 (B6 (B6 (D8 (B6 (D8 (B6 E0)))))))) (fun _ h=>h.cells) dp dj fun gO dq=>?_
   refine H6 (i:=3) kz (D6 dq (f:=25) (vs:=[.agg #[aC,aL,.bool aT,aM,aD],.int .i64 ((k:Nat):Int)]) (d:=67) kz Tryz.call25 (Es _ _ k _ _ (ht.move aF.step B2 aF.imm)) ?_)
   rintro e_ gP ⟨fD,rfl,dr,aG⟩
   have bH:=dr.move aG B2 (fun b o h_ hb_=>aF.laid (G:=F) aG b o (.inl h_) (Nat.lt_of_lt_of_le hb_ aG.size))
   obtain ⟨eD,eE,eF,eG,eH,eI,eJ,eK,eM,eN,eO,fE,fF,bI,eP,eQ,gQ,gR⟩:=bH.open_
   rw [bI] at bH
   have eR:=eP.small
   have eS:=eQ.small
   rw [bI]
   refine ⟨_,rfl,fun gS dt=>?_⟩
   have aH:=aF.next_nil aG
   have bJ:=aF.frN aG
   have du:=TT.ofW bJ aH
   refine ⟨fun _=>du,?_⟩
   refine H6 (i:=4) kz (D6 dt (f:=27) (vs:=[.agg #[ar,au,av,aw,ax,ay,az,aA],.agg #[.int .i64 eD,.slice eI eE.length eJ,.bool eF,.slice eK eG.length eM,.slice eN eH.length eO]]) (d:=68) kz Tryz.call27 ( hu _ _ _ _ _ _ (bw.move aH.step B2 aH.imm) (by have h_:=DY aQ; rw [DZ] at hd; omega) bH) ?_)
   rintro e_ gT ⟨rfl,bX⟩
   refine ⟨_,rfl,fun gU dv=>?_⟩
   have aB:=aH.next_nil bX
   have bY:=aH.frN bX
   have bZ:=TT.ofW (bJ.trans bY) aB
   refine ⟨fun _=>bZ,?_⟩
   refine G4 [5] [ae,ac,aj,ak,aE,(69,.v (.bool (!(Fld.usual (Fld.mk bx bz bA bB bC bD bE bF) (Tree.at_ (Tree.mk aK al aT cv bQ) k)))))] 0 (B6 (D8 (B6 (B6 (D8 (B6 (D8 (B6 E0)))))))) (fun _ h=>h.cells) bZ dv fun gV bK=>?_
   refine L6 kz ?_ _
   refine A4 (E2 bK (b:=!(Fld.usual (Fld.mk bx bz bA bB bC bD bE bF) (Tree.at_ (Tree.mk aK al aT cv bQ) k))) kz (fun bL=>?_) (fun bL=>?_))
   ·
    refine B9 [(4,.v (.bool false))] aB bK fun gW dw=>?_
    refine wp_ret (J6 (F5 (F5 (J6 (F5 (J6 (F5 (D1 dw aB.cells (v:=.bool false) kz ?_))))))))
    refine ⟨congrArg (fun b_=>Ending.returned (Value.bool b_)) ?_,aB.step⟩
    first
     | (rw [U8 ‹_›]; simp only [I1]; done)
     | (rw [O3 ‹_› ‹_›]; exact V3 hz (by omega); done)
     | (rw [O3 ‹_› ‹_›]; exact V4 (k:=k) (by omega) (by omega) ‹_›; done)
     | (rw [U9 ‹_› ‹_› (by omega) ‹_›]; done)
     | (rw [V0 ‹_› ‹_› (by omega) ‹_›]; done)
     | (rw [V1 ‹_› ‹_› ‹_› ‹_› ‹_›]; done)
     | (rw [T4 ‹_› ‹_› ‹_› ‹_› ‹_› ‹_›,huu,V5 (by omega),Bool.true_and]; done)
     | (rw [V2 ‹_› ‹_› ‹_› ‹_› ‹_› ‹_›]; done)
     | (rw [T4 ‹_› ‹_› ‹_› ‹_› ‹_› ‹_›,huu,Mb aQ (by simpa using bL),Bool.false_and]; done)
   refine wp_skip (H7 (A4 (E4 [0,1] kz ?_)))
   refine B3 [0,1] [] [ae,ac,aj,ak,(59,.v (.int .i64 (IntKind.i64.wrap (((k:Nat):Int) + 1))))] aB bK fun gX dx=>?_
   refine B4 (A4 ?_)
   obtain ⟨b8,dy,dA⟩:=aB.cutB dx 2 [aV,aW] [ae,ac,aj,ak,(59,.v (.int .i64 (IntKind.i64.wrap (((k:Nat):Int) + 1))))]
   have dB:IntKind.i64.wrap (((k:Nat):Int) + 1) = ((k + 1:Nat):Int):=N0 (by omega)
   rw [dB] at b8
   exact ⟨l8.length - (k + 1),by omega,k + 1,rfl,by omega,by rw [huu]; exact Ma aQ (by simpa using bL),b8.pk,dy,((((((cY.trans de).trans dh).trans dl).trans bJ).trans bY).trans dA)⟩
  have fG:=of_decide_eq_false bt
  refine wp_exit (F2 (F2 (I7 (A4 (C1 [0,1,2,3,4,5,6,7] kz ?_)))))
  refine B3 [0,1,2,3] [4,5,6,7] [(72,.v (.slice A9 l8.length d6)),(74,.v (.slice eW bQ.length eX))] af bq fun gY dC=>?_
  refine B1 (D6 dC (f:=29) (vs:=[aU,aD]) (d:=75) kz Tryz.call29 (Jz _ _ l8 _ _ bQ _ _ ⟨d7,(d8.move af.step B2 af.imm),(fun i_ x_ h_=>((eT i_ x_ h_).move af.step B2 af.imm))⟩ (fP.move af.step B2 af.imm)) ?_)
  rintro e_ gZ ⟨hC,hJ,rfl,dD,bM⟩
  have fH:=dD.move (Step.refl _ C7) B2 (af.laid (G:=F) bM)
  refine ⟨_,rfl,fun hK dE=>?_⟩
  have bN:=af.next_nil bM
  have fI:=af.frN bM
  refine B3 [5,6,7] [] [(4,.v (.bool ((((C6 l8 bQ).length:Nat):Int) == 0)))] bN dE fun hY dF=>?_
  refine B4 (A4 ?_)
  refine wp_ret (J6 (F5 (D1 dF bN.cells (v:=.bool ((((C6 l8 bQ).length:Nat):Int) == 0)) kz ?_)))
  refine ⟨congrArg (fun b_=>Ending.returned (Value.bool b_)) ?_,bN.step⟩
  first
   | (rw [U8 ‹_›]; simp only [I1]; done)
   | (rw [O3 ‹_› ‹_›]; exact V3 hz (by omega); done)
   | (rw [O3 ‹_› ‹_›]; exact V4 (k:=k) (by omega) (by omega) ‹_›; done)
   | (rw [U9 ‹_› ‹_› (by omega) ‹_›]; done)
   | (rw [V0 ‹_› ‹_› (by omega) ‹_›]; done)
   | (rw [V1 ‹_› ‹_› ‹_› ‹_› ‹_›]; done)
   | (rw [T4 ‹_› ‹_› ‹_› ‹_› ‹_› ‹_›,huu,V5 (by omega),Bool.true_and]; done)
   | (rw [V2 ‹_› ‹_› ‹_› ‹_› ‹_› ‹_›]; done)
 have fJ:k1 ≠ 10:=by simpa using bp
 refine wp_skip (H7 (A4 (X8 13 kz ab fun hZ fK cd dG=>?_)))
 refine G4 [0,1,2,3,6,7,8,9] [(79,.v (.int .i64 aK)),(81,.v (.int .i64 k1)),(85,.v (.int .i64 y6)),(87,.v (.int .i64 k1))] 6 (B6 E0) (fun _ h=>h.cells) dG bo fun ia dH=>?_
 refine H6 (i:=4) kz (D6 dH (f:=55) (vs:=[.int .i64 k1]) (d:=82) kz Tryz.call55 (GK k1 _) ?_)
 rintro e_ ib ⟨rfl,ce⟩
 refine ⟨_,rfl,fun ic dI=>?_⟩
 have cg:=cd.next_nil ce
 have aI:=cd.frN ce
 have dJ:=TT.ofW aI cg
 refine ⟨fun _=>dJ,?_⟩
 refine H6 (i:=5) kz (D6 dI (f:=54) (vs:=[aC,.int .i64 ((H8 k1:Nat):Int)]) (d:=83) kz Tryz.call54 (BN aK (H8 k1) (by first | decide | exact S4 _ | omega) _) ?_)
 rintro e_ ig ⟨dK,dL,rfl,dM,dN⟩
 refine ⟨_,rfl,fun ii dO=>?_⟩
 obtain ⟨bO,aR⟩:=cg.frFresh dN (B0 dK dL 5 (be (H8 k1) aK)) (Nat.le_refl _) dM
 have dP:=TT.ofW (aI.trans aR) bO
 refine ⟨fun _=>dP,?_⟩
 refine H6 (i:=10) kz (D6 dO (f:=55) (vs:=[.int .i64 k1]) (d:=88) kz Tryz.call55 (GK k1 _) ?_)
 rintro e_ ij ⟨rfl,cm⟩
 refine ⟨_,rfl,fun ik dQ=>?_⟩
 have cq:=bO.next_nil cm
 have bP:=bO.frN cm
 have dR:=TT.ofW ((aI.trans aR).trans bP) cq
 refine ⟨fun _=>dR,?_⟩
 refine H6 (i:=11) kz (D6 dQ (f:=54) (vs:=[.int .i64 y6,.int .i64 ((H8 k1:Nat):Int)]) (d:=89) kz Tryz.call54 (BN y6 (H8 k1) (by first | decide | exact S4 _ | omega) _) ?_)
 rintro e_ il ⟨dS,dT,rfl,dU,dV⟩
 refine ⟨_,rfl,fun im dW=>?_⟩
 obtain ⟨aJ,cr⟩:=cq.frFresh dV (B0 dS dT 5 (be (H8 k1) y6)) (Nat.le_refl _) dU
 have dX:=TT.ofW (((aI.trans aR).trans bP).trans cr) aJ
 refine ⟨fun _=>dX,?_⟩
 refine H6 (i:=12) kz (D6 dW (f:=10) (vs:=[.slice dK ((be (H8 k1) aK).length) dL,.slice dS ((be (H8 k1) y6).length) dT]) (d:=90) kz Tryz.call10 (Jx _ _ _ _ (be (H8 k1) aK) (be (H8 k1) y6) _ _ (Ce (aJ.own 0 _ rfl) (by first | omega | (rw [Z5]; decide) | (simp only [be_length]; exact Nat.le_trans (S4 _) (by decide)) | (have:=hroom; omega) | (have:=hmade; omega) | (simp only [List.length_append,List.length_nil]; omega)) (F:=fun _ _=>True) (fun _ _ _=>trivial)) (Ce (aJ.own 1 _ rfl) (by first | omega | (rw [Z5]; decide) | (simp only [be_length]; exact Nat.le_trans (S4 _) (by decide)) | (have:=hroom; omega) | (have:=hmade; omega) | (simp only [List.length_append,List.length_nil]; omega)) (F:=fun _ _=>True) (fun _ _ _=>trivial))) ?_)
 rintro e_ io ⟨rfl,cu⟩
 refine ⟨_,rfl,fun ip dY=>?_⟩
 have aS:=aJ.next_nil cu
 have dZ:=aJ.frN cu
 have d4:=TT.ofW ((((aI.trans aR).trans bP).trans cr).trans dZ) aS
 refine ⟨fun _=>d4,?_⟩
 refine H6 (i:=13) kz (W1 [4] aS.cells dY (env':=[(4,.v (.bool (decide (be (H8 k1) aK = be (H8 k1) y6))))]) kz fun iq d5=>?_)
 refine ⟨fun h=>absurd rfl h,?_⟩
 refine L6 kz ?_ _
 refine A4 (wp_ret (D1 d5 aS.cells (v:=.bool (decide (be (H8 k1) aK = be (H8 k1) y6))) kz ?_))
 refine ⟨congrArg (fun b_=>Ending.returned (Value.bool b_)) ?_,aS.step⟩
 first
  | (rw [U8 ‹_›]; simp only [I1]; done)
  | (rw [O3 ‹_› ‹_›]; exact V3 hz (by omega); done)
  | (rw [O3 ‹_› ‹_›]; exact V4 (k:=k) (by omega) (by omega) ‹_›; done)
  | (rw [U9 ‹_› ‹_› (by omega) ‹_›]; done)
  | (rw [V0 ‹_› ‹_› (by omega) ‹_›]; done)
  | (rw [V1 ‹_› ‹_› ‹_› ‹_› ‹_›]; done)
  | (rw [T4 ‹_› ‹_› ‹_› ‹_› ‹_› ‹_›,huu,V5 (by omega),Bool.true_and]; done)
  | (rw [V2 ‹_› ‹_› ‹_› ‹_› ‹_› ‹_›]; done)
theorem JB:∀ d,JA d
 | 0=>fun cf f ct t w F hf hd ht=>by
  obtain ⟨k,x1,x2,x3,x4,x5,x6,l,A,c,xs,rfl,_⟩:=hf.open_
  rw [DZ] at hd; omega
 | d + 1=>NJ (JB d)
theorem JC (W:Fld → Tree → Bs) (A:Option Addr) (c:Nat) (l:List Fld) (v:Int) (flex:Bool) (ct:List Value) (t:Tree) (w:World) (F:Nat → Nat → Prop) (hW_:∀ cf f ct t w F,f ∈ l → FldR w F cf f → TreeR w F ct t → (W f t).length ≤ 1099511627776 → Calls Tryz.prog 24 #[.agg cf.toArray,.int .i64 v,.bool flex,.agg ct.toArray] w (W2 w 5 (W f t))) (hl:FldsR w F A c l) (ht:TreeR w F ct t) (hroom:(N1 W l v flex t).length ≤ 1099511627776) :
  Calls Tryz.prog 16 #[.slice A l.length c,.int .i64 v,.bool flex,.agg ct.toArray] w (W2 w 5 (N1 W l v flex t)):=by
 obtain ⟨xfs,h1,h2⟩:=hl.ex
 have hsm:=h1.small
 obtain ⟨n1,s2,b3,l4,u5,A6,c7,A8,c9,li,lj,nB,rfl,rfl,nC,nD,qu,nE⟩:=ht.open_
 have my:=nC.small
 have mz:=nD.small
 have hkr:=FD l
 refine enter (n:=132) Tryz.func16 rfl Tryz.ntmps16 kz fun a hE=>?_
 have hW:=WOk.start w C7
 refine C1 [0,1] kz ?_
 let aX:Value:=.int .i64 n1
 let aY:Value:=.slice A6 s2.length c7
 let aZ:Value:=.bool b3
 let ba:Value:=.slice A8 l4.length c9
 let aR:Value:=.slice li u5.length lj
 refine B1 (M2 hW hE (d:=7) (cs:=[aX,aY,aZ,ba,aR]) kz fun nF qv qw nG nH nI du lm=>?_)
 let ab:Nat × SV:=(0,.v (.slice A l.length c))
 let ac:Nat × SV:=(1,.v (.int .i64 v))
 let ae:Nat × SV:=(2,.v (.bool flex))
 let af:Nat × SV:=(7,.p 0 0)
 refine B3 [1] [] [ab,ac,ae,af] du lm fun qx ln=>?_
 refine B4 (A4 ?_)
 let dE:Nat × SV:=(9,.v (.slice none 0 0))
 let ay:Nat × SV:=(10,.v (.slice none 0 0))
 refine B9 [ab,ac,ae,af,dE,ay] du ln fun qy lp=>?_
 let az:Nat × SV:=(11,.v (.int .i64 0))
 refine B9 [ab,ac,ae,af,dE,ay,az] du lp fun qz lq=>?_
 refine wp_seq ?_
 let aB:Nat × SV:=(21,.v (.slice A l.length c))
 let aC:Nat × SV:=(22,.v (.int .i64 ((l.length:Nat):Int)))
 refine B9 [ab,ac,ae,af,dE,ay,az,aB,aC,(23,.v (.int .i64 0))] du lq fun qA lr=>?_
 refine wp_block ?_
 have fK:=du.addNil 5 1
 have nJ:=du.frNil 5 1
 have htot:(D0 W l v (Tree.mk n1 s2 b3 l4 u5) 0).length ≤ 1099511627776:=by have h_:=hroom; rw [N1,List.length_append] at h_; omega
 let aL:Ob:=⟨nF,0,[aX,aY,aZ,ba,aR],true⟩
 refine wp_loop_ghost (fun n_ a_ w_=>∃ (k:Nat) (A_:Option Addr) (c_:Nat) (dn:Bs),n_ = l.length - k ∧ k ≤ l.length ∧ (dn ++ D0 W (l.drop k) v (Tree.mk n1 s2 b3 l4 u5) k = D0 W l v (Tree.mk n1 s2 b3 l4 u5) 0) ∧ J1 fK 132 [aL] [B0 A_ c_ 5 dn] [ab,ac,ae,af,(9,.v (.slice A_ dn.length c_)),ay,az,aB,aC,(23,.v (.int .i64 ((k:Nat):Int)))] a_ w_) (l.length) ⟨0,none,0,[],by omega,by omega,rfl,lr.pk,fK,Fr.refl _ _ _⟩ ?_
 rintro qB qC qD ⟨k,A_,c_,dn,nK,nL,hB,ls,aQ,fB⟩
 let aD:Nat × SV:=(9,.v (.slice A_ dn.length c_))
 let aJ:Nat × SV:=(23,.v (.int .i64 ((k:Nat):Int)))
 refine B9 [ab,ac,ae,af,aD,ay,az,aB,aC,aJ,(24,.v (.bool (decide (((k:Nat):Int) < ((l.length:Nat):Int)))))] aQ ls fun qE fC=>?_
 refine wp_seq ?_
 let aH:Value:=.int .i64 0
 let mA:Value:=(.agg #[.int .i64 n1,.slice A6 s2.length c7,.bool b3,.slice A8 l4.length c9,.slice li u5.length lj])
 let mB:Value:=.agg #[.int .i64 n1,.slice A6 s2.length c7,.bool b3,.slice A8 l4.length c9,.slice li u5.length lj]
 refine E2 fC (b:=decide (((k:Nat):Int) < ((l.length:Nat):Int))) kz (fun fD=>?_) (fun fD=>?_)
 ·
  have nM:=of_decide_eq_true fD
  refine wp_skip (A4 (wp_seq (wp_block (C1 [0,1,2,3,4,5] kz ?_))))
  refine B3 [0] [1,2,3,4,5] [ab,ac,ae,af,aD,ay,az,aB,aC,aJ,(25,.v (.int .i64 ((k:Nat):Int)))] aQ fC fun qF lu=>?_
  obtain ⟨nN,nO,lv,nP,eG⟩:=Slots.get h1 (i:=k) (by omega)
  obtain ⟨nQ,ce⟩:∃ x,l[k]? = some x:=⟨_,List.getElem?_eq_getElem (by omega)⟩
  have fE:=h2 k nQ ce
  obtain ⟨bO,bP,bQ,bR,bC,bS,bT,bU,lw,lx,nR,rfl,eH,nS,qG⟩:=fE.open_
  rw [eH] at fE
  have mC:=nS.small
  rw [eH] at eG
  refine B1 (J7 lu (t:=29) (A:=A) (m:=l.length) (q:=((k:Nat):Int)) (d:=26) kz (e:=46) (size:=8) (bytes:=80) kz lv rfl (by omega) fun qH ly=>?_)
  let bd:Value:=.int .i64 bO
  let bf:Value:=.int .i64 bP
  let bg:Value:=.int .i64 bQ
  let bh:Value:=.int .i64 bR
  let bj:Value:=.int .i64 bC
  let bk:Value:=.int .i64 bS
  let bn:Value:=.int .i64 bT
  let bo:Value:=.slice lw bU.length lx
  let mD:Value:=.agg #[.int .i64 bO,.int .i64 bP,.int .i64 bQ,.int .i64 bR,.int .i64 bC,.int .i64 bS,.int .i64 bT,.slice lw bU.length lx]
  refine B1 (M7 ly (t:=46) (b:=nN) (o:=nO + k * 8) (d:=27) kz (cs:=[bd,bf,bg,bh,bj,bk,bn,bo]) (v:=.agg #[bd,bf,bg,bh,bj,bk,bn,bo]) kz (AtF.move eG aQ.step B2 F3).at_ fun qI lz=>?_)
  refine B1 (N6 aQ lz (d:=13) (cs:=[aH,aH,aH,aH,aH,aH,aH,.slice none 0 0]) kz fun qJ qK qL nT nU fF fL lA=>?_)
  let bD:Nat × SV:=(12,.v (.int .i64 ((k:Nat):Int)))
  let bE:Nat × SV:=(13,.p 1 0)
  let mF:Value:=(.agg #[.int .i64 bO,.int .i64 bP,.int .i64 bQ,.int .i64 bR,.int .i64 bC,.int .i64 bS,.int .i64 bT,.slice lw bU.length lx])
  refine B3 [4] [5] [ab,ac,ae,af,aD,ay,az,bD,bE,aB,aC,aJ,(27,.v (.agg #[bd,bf,bg,bh,bj,bk,bn,bo]))] fL lA fun qM lB=>?_
  refine B1 (I9 fL lB (oi:=1) (cs:=[bd,bf,bg,bh,bj,bk,bn,bo]) kz fun qN fG cK lC=>?_)
  refine B4 (A4 ?_)
  refine C1 [0,1,2,3,4,5,6,7] kz ?_
  refine B3 [0,1,2,3] [4,5,6,7] [ab,ac,ae,af,aD,ay,az,bD,bE,aB,aC,aJ,(31,.v (.bool (decide (bC < 0))))] cK lC fun qO fM=>?_
  refine (Bool.eq_false_or_eq_true (decide (bC < 0))).elim (fun dF=>?_) (fun dF=>?_)
  ·
   have nV:=of_decide_eq_true dF
   have lD:=fM
   rw [dF] at lD
   refine B3 [4,5] [6,7] [ab,ac,ae,af,aD,ay,az,bD,bE,aB,aC,aJ,(31,.v (.bool true)),(32,.v (.agg #[bd,bf,bg,bh,bj,bk,bn,bo])),(33,.v (.int .i64 v))] cK lD fun qP fN=>?_
   refine B1 (D6 fN (f:=23) (vs:=[.agg #[bd,bf,bg,bh,bj,bk,bn,bo],.int .i64 v]) (d:=34) kz Tryz.call23 (GJ bO bP bQ bR bC bS bT bU _ _ v _) ?_)
   rintro e_ nW ⟨rfl,eI⟩
   refine ⟨_,rfl,fun nX fO=>?_⟩
   have cP:=cK.next_nil eI
   have eJ:=cK.frN eI
   refine B3 [7] [] [ab,ac,ae,af,aD,ay,az,bD,bE,aB,aC,aJ,(35,.v (.bool (Fld.has (Fld.mk bO bP bQ bR bC bS bT bU) v)))] cP fO fun nY dG=>?_
   refine B4 (A4 ?_)
   refine E2 dG (b:=Fld.has (Fld.mk bO bP bQ bR bC bS bT bU) v) kz (fun fP=>?_) (fun fP=>?_)
   ·
    refine DB 9 kz cP fun nZ fQ cg fR=>?_
    let dH:Nat × SV:=(36,.v (.slice A_ dn.length c_))
    let dI:Nat × SV:=(37,.v (.agg #[bd,bf,bg,bh,bj,bk,bn,bo]))
    let dJ:Nat × SV:=(38,.v (.int .i64 v))
    let dK:Nat × SV:=(39,.v (.bool flex))
    let dL:Nat × SV:=(40,.v (.agg #[aX,aY,aZ,ba,aR]))
    let dM:Nat × SV:=(41,.v (.int .i64 ((k:Nat):Int)))
    refine G4 [0,1,2,3,4,5] [ab,ac,ae,af,aD,ay,az,aB,aC,aJ,dH,dI,dJ,dK,dL,dM] 4 (D8 (B6 (B6 (D8 (B6 E0))))) (fun _ h=>h.cells) fR dG fun n4 fS=>?_
    refine H6 (i:=6) kz (D6 fS (f:=25) (vs:=[.agg #[aX,aY,aZ,ba,aR],.int .i64 ((k:Nat):Int)]) (d:=42) kz Tryz.call25 (Es _ _ k _ _ (ht.move cg.step B2 cg.imm)) ?_)
    rintro e_ n5 ⟨mG,rfl,fT,cm⟩
    have dN:=fT.move cm B2 (fun b o h_ hb_=>cg.laid (G:=F) cm b o (.inl h_) (Nat.lt_of_lt_of_le hb_ cm.size))
    obtain ⟨fV,fW,fX,fY,fZ,f5,f7,f8,f9,ga,gb,mH,mI,dO,lE,lF,n8,oa⟩:=dN.open_
    rw [dO] at dN
    have lG:=lE.small
    have lH:=lF.small
    rw [dO]
    refine ⟨_,rfl,fun od gc=>?_⟩
    have cQ:=cg.next_nil cm
    have cR:=cg.frN cm
    have gd:=TT.ofW cR cQ
    refine ⟨fun _=>gd,?_⟩
    refine H6 (i:=7) kz (D6 gc (f:=24) (vs:=[.agg #[bd,bf,bg,bh,bj,bk,bn,bo],.int .i64 v,.bool flex,.agg #[.int .i64 fV,.slice f5 fW.length f7,.bool fX,.slice f8 fY.length f9,.slice ga fZ.length gb]]) (d:=43) kz Tryz.call24 ( hW_ _ _ _ _ _ _ (List.mem_of_getElem? ce) (fE.move cQ.step B2 cQ.imm) dN (by have h_:=congrArg List.length hB; rw [Ea ce ‹_› ‹_›] at h_; simp only [List.length_append] at h_; omega)) ?_)
    rintro e_ oe ⟨eE,eF,rfl,ge,gg⟩
    refine ⟨_,rfl,fun og gh=>?_⟩
    obtain ⟨cS,dP⟩:=cQ.frFresh gg (B0 eE eF 5 (W (Fld.mk bO bP bQ bR bC bS bT bU) (Tree.at_ (Tree.mk n1 s2 b3 l4 u5) k))) (Nat.le_refl _) ge
    have lI:(W (Fld.mk bO bP bQ bR bC bS bT bU) (Tree.at_ (Tree.mk n1 s2 b3 l4 u5) k)).length ≤ 1099511627776:=by have h_:=congrArg List.length hB; rw [Ea ce ‹_› ‹_›] at h_; simp only [List.length_append] at h_; omega
    have gi:=TT.ofW (cR.trans dP) cS
    refine ⟨fun _=>gi,?_⟩
    refine H6 (i:=8) kz (N8 cS gh (k:=0) (d:=44) (t:=22) (e:=5) (size:=1) (bytes:=1) (A:=A_) (As:=eE) (m0:=dn.length) (c:=c_) (m:=((W (Fld.mk bO bP bQ bR bC bS bT bU) (Tree.at_ (Tree.mk n1 s2 b3 l4 u5) k)).length)) (cs:=eF) (xs:=(bc dn)) (news:=bc (W (Fld.mk bO bP bQ bR bC bS bT bU) (Tree.at_ (Tree.mk n1 s2 b3 l4 u5) k))) kz kz rfl (S3 (cS.own 1 _ rfl) (Q8 _)) (U5 (cS.own 1 _ rfl)) (by have h_:=congrArg List.length hB; rw [Ea ce ‹_› ‹_›] at h_; simp only [List.length_append] at h_ ⊢; omega) fun cq cr oh ol eK gj gk=>?_)
    have gl:(⟨cq,cr,5,1,dn.length + (W (Fld.mk bO bP bQ bR bC bS bT bU) (Tree.at_ (Tree.mk n1 s2 b3 l4 u5) k)).length,bc dn ++ bc (W (Fld.mk bO bP bQ bR bC bS bT bU) (Tree.at_ (Tree.mk n1 s2 b3 l4 u5) k))⟩:Rw) = B0 cq cr 5 (dn ++ (W (Fld.mk bO bP bQ bR bC bS bT bU) (Tree.at_ (Tree.mk n1 s2 b3 l4 u5) k))):=K9 (rfl) rfl
    obtain ⟨cU,eM⟩:=gj.rowEq 0 [B0 cq cr 5 (dn ++ (W (Fld.mk bO bP bQ bR bC bS bT bU) (Tree.at_ (Tree.mk n1 s2 b3 l4 u5) k))),B0 eE eF 5 (W (Fld.mk bO bP bQ bR bC bS bT bU) (Tree.at_ (Tree.mk n1 s2 b3 l4 u5) k))] gl
    let eN:Nat × SV:=(42,.v (.agg #[.int .i64 fV,.slice f5 fW.length f7,.bool fX,.slice f8 fY.length f9,.slice ga fZ.length gb]))
    let eO:Nat × SV:=(43,.v (.slice eE ((W (Fld.mk bO bP bQ bR bC bS bT bU) (Tree.at_ (Tree.mk n1 s2 b3 l4 u5) k)).length) eF))
    have gm:=EnvOk.pick gk (ks:=[0,1,2,7,9,10,11,21,22,23,36,37,38,39,40,41,42,43,44]) (env':=[ab,ac,ae,af,aD,ay,az,aB,aC,aJ,dH,dI,dJ,dK,dL,dM,eN,eO,(44,.v (.slice cq (dn.length + (W (Fld.mk bO bP bQ bR bC bS bT bU) (Tree.at_ (Tree.mk n1 s2 b3 l4 u5) k)).length) cr))]) kz
    have gn:=gm.cast (env':=[ab,ac,ae,af,aD,ay,az,aB,aC,aJ,dH,dI,dJ,dK,dL,dM,eN,eO,(44,.v (.slice cq ((dn ++ (W (Fld.mk bO bP bQ bR bC bS bT bU) (Tree.at_ (Tree.mk n1 s2 b3 l4 u5) k))).length) cr))]) (by simp only [List.length_append,List.length_cons,List.length_nil,Nat.zero_add])
    have gp:=TT.ofW (((cR.trans dP).trans eK).trans eM) cU
    refine ⟨fun _=>gp,?_⟩
    let dQ:Nat × SV:=(9,.v (.slice cq ((dn ++ (W (Fld.mk bO bP bQ bR bC bS bT bU) (Tree.at_ (Tree.mk n1 s2 b3 l4 u5) k))).length) cr))
    refine H6 (i:=9) kz (W1 [0,1,2,7,9,10,11,21,22,23] cU.cells gn (env':=[ab,ac,ae,af,dQ,ay,az,aB,aC,aJ]) kz fun om gq=>?_)
    refine ⟨fun h=>absurd rfl h,?_⟩
    refine L6 kz ?_ _
    refine H7 (A4 (E4 [0,1] kz ?_))
    refine B3 [0,1] [] [ab,ac,ae,af,dQ,ay,az,aB,aC,(23,.v (.int .i64 (IntKind.i64.wrap (((k:Nat):Int) + 1))))] cU gq fun oq gt=>?_
    refine B4 (A4 ?_)
    obtain ⟨eP,gu,gv⟩:=cU.cutB gt 1 [aL] [ab,ac,ae,af,dQ,ay,az,aB,aC,(23,.v (.int .i64 (IntKind.i64.wrap (((k:Nat):Int) + 1))))]
    obtain ⟨gw,gx⟩:=gu.cutR 1 [B0 cq cr 5 (dn ++ (W (Fld.mk bO bP bQ bR bC bS bT bU) (Tree.at_ (Tree.mk n1 s2 b3 l4 u5) k)))]
    have gy:IntKind.i64.wrap (((k:Nat):Int) + 1) = ((k + 1:Nat):Int):=N0 (by omega)
    rw [gy] at eP
    exact ⟨l.length - (k + 1),by omega,k + 1,cq,cr,dn ++ (W (Fld.mk bO bP bQ bR bC bS bT bU) (Tree.at_ (Tree.mk n1 s2 b3 l4 u5) k)),rfl,by omega,by rw [List.append_assoc,← Ea ce ‹_› ‹_›]; exact hB,eP.pk,gw,((((((((((fB.trans fF).trans fG).trans eJ).trans fQ).trans cR).trans dP).trans eK).trans eM).trans gv).trans gx)⟩
   refine wp_skip (H7 (A4 (E4 [0,1] kz ?_)))
   refine B3 [0,1] [] [ab,ac,ae,af,aD,ay,az,aB,aC,(23,.v (.int .i64 (IntKind.i64.wrap (((k:Nat):Int) + 1))))] cP dG fun ot gz=>?_
   refine B4 (A4 ?_)
   obtain ⟨eQ,gA,gB⟩:=cP.cutB gz 1 [aL] [ab,ac,ae,af,aD,ay,az,aB,aC,(23,.v (.int .i64 (IntKind.i64.wrap (((k:Nat):Int) + 1))))]
   have gC:IntKind.i64.wrap (((k:Nat):Int) + 1) = ((k + 1:Nat):Int):=N0 (by omega)
   rw [gC] at eQ
   exact ⟨l.length - (k + 1),by omega,k + 1,A_,c_,dn,rfl,by omega,by rw [← Md ce ‹_›]; exact hB,eQ.pk,gA,((((fB.trans fF).trans fG).trans eJ).trans gB)⟩
  have mJ:=of_decide_eq_false dF
  have gD:=fM.cast (env':=[ab,ac,ae,af,aD,ay,az,bD,bE,aB,aC,aJ,(31,.v (.bool false))]) (by rw [dF])
  refine B3 [4,5,6,7] [] [ab,ac,ae,af,aD,ay,az,bD,bE,aB,aC,aJ,(35,.v (.bool false))] cK gD fun ou eR=>?_
  refine B4 (A4 ?_)
  refine G6 eR (b:=false) kz rfl ?_
  refine wp_skip (H7 (A4 (E4 [0,1] kz ?_)))
  refine B3 [0,1] [] [ab,ac,ae,af,aD,ay,az,aB,aC,(23,.v (.int .i64 (IntKind.i64.wrap (((k:Nat):Int) + 1))))] cK eR fun ov gE=>?_
  refine B4 (A4 ?_)
  obtain ⟨eS,gF,gG⟩:=cK.cutB gE 1 [aL] [ab,ac,ae,af,aD,ay,az,aB,aC,(23,.v (.int .i64 (IntKind.i64.wrap (((k:Nat):Int) + 1))))]
  have gH:IntKind.i64.wrap (((k:Nat):Int) + 1) = ((k + 1:Nat):Int):=N0 (by omega)
  rw [gH] at eS
  exact ⟨l.length - (k + 1),by omega,k + 1,A_,c_,dn,rfl,by omega,by rw [← Mc ce ‹_›]; exact hB,eS.pk,gF,(((fB.trans fF).trans fG).trans gG)⟩
 have mK:=of_decide_eq_false fD
 refine wp_exit (F2 (F2 (I7 (A4 (wp_seq (B9 [ab,ac,ae,af,aD,ay,az,(47,.v (.bool (!flex)))] aQ fC fun ow dR=>?_))))))
 refine E2 dR (b:=!flex) kz (fun cV=>?_) (fun cV=>?_)
 ·
  refine B9 [(8,.v (.slice A_ dn.length c_))] aQ dR fun ox gI=>?_
  refine wp_ret (F5 (D1 gI aQ.cells (v:=.slice A_ dn.length c_) kz ?_))
  exact N3 aQ (k:=0) rfl (by rw [show flex = false by simpa using cV,Mm,← hB,In (by omega),List.append_nil])
 refine wp_skip (A4 (wp_seq (C1 [0,1,2,3] kz ?_)))
 refine B3 [0] [1,2,3] [ab,ac,ae,af,aD,ay,az,(49,.v (.slice A l.length c))] aQ dR fun oy gJ=>?_
 refine B1 (D6 gJ (f:=26) (vs:=[.slice A l.length c]) (d:=50) kz Tryz.call26 (Jy _ _ l _ _ ⟨xfs,(h1.move aQ.step B2 aQ.imm),(fun i_ x_ h_=>((h2 i_ x_ h_).move aQ.step B2 aQ.imm))⟩) ?_)
 rintro e_ oz ⟨rfl,eT⟩
 refine ⟨_,rfl,fun oA gK=>?_⟩
 have eU:=aQ.next_nil eT
 have mL:=aQ.frN eT
 let dS:Nat × SV:=(52,.v (.int .i64 0))
 refine B3 [2,3] [] [ab,ac,ae,af,aD,ay,az,(51,.v (.int .i64 (IntKind.i64.wrap (C2 l)))),dS] eU gK fun oB eV=>?_
 refine B4 (A4 ?_)
 refine wp_block ?_
 have hdn:dn = D0 W l v (Tree.mk n1 s2 b3 l4 u5) 0:=by rw [← hB,In (by omega),List.append_nil]
 have eW:dn = (D0 W l v (Tree.mk n1 s2 b3 l4 u5) 0):=hdn
 have gL:=congrArg (B0 A_ c_ 5) eW
 obtain ⟨eX,mM⟩:=eU.rowEq 0 [B0 A_ c_ 5 (D0 W l v (Tree.mk n1 s2 b3 l4 u5) 0)] gL
 simp only [aD,eW] at eV
 have hfx:flex = true:=by simpa using cV
 have htot2:(D0 W l v (Tree.mk n1 s2 b3 l4 u5) 0).length + (uv (D3 W l (Tree.mk n1 s2 b3 l4 u5) (C2 l).toNat + (C6 l u5).length)).length + ((C3 W l (Tree.mk n1 s2 b3 l4 u5) (C2 l).toNat).length + (E5 (C6 l u5)).length) ≤ 1099511627776:=by have h_:=hroom; rw [hfx,Iq] at h_; simpa only [List.length_append] using h_
 have hmono:=fun i (h_:i ≤ (C2 l).toNat)=>Ml W l (Tree.mk n1 s2 b3 l4 u5) h_
 have hcnt:=Ip W l (Tree.mk n1 s2 b3 l4 u5)
 have hknn:=Mn l
 have gM:=EnvOk.pick eV (ks:=[0,1,2,7,9,10,11,51,52]) (env':=[ab,ac,ae,af,(9,.v (.slice A_ ((D0 W l v (Tree.mk n1 s2 b3 l4 u5) 0).length) c_)),ay,az,(51,.v (.int .i64 (IntKind.i64.wrap (C2 l)))),dS]) kz
 have gN:=gM.cast (env':=[ab,ac,ae,af,(9,.v (.slice A_ ((D0 W l v (Tree.mk n1 s2 b3 l4 u5) 0).length) c_)),ay,az,(51,.v (.int .i64 (((C2 l).toNat:Nat):Int))),dS]) (by rw [hknn])
 have eY:=eX.addNil 5 1
 have mN:=eX.frNil 5 1
 refine wp_loop_ghost (fun n_ a_ w_=>∃ (k2:Nat) (A2_:Option Addr) (c2_:Nat),n_ = (C2 l).toNat - k2 ∧ k2 ≤ (C2 l).toNat ∧ J1 eY 132 [aL] [B0 A_ c_ 5 (D0 W l v (Tree.mk n1 s2 b3 l4 u5) 0),B0 A2_ c2_ 5 (C3 W l (Tree.mk n1 s2 b3 l4 u5) k2)] [ab,ac,ae,af,(9,.v (.slice A_ ((D0 W l v (Tree.mk n1 s2 b3 l4 u5) 0).length) c_)),(10,.v (.slice A2_ ((C3 W l (Tree.mk n1 s2 b3 l4 u5) k2).length) c2_)),(11,.v (.int .i64 ((D3 W l (Tree.mk n1 s2 b3 l4 u5) k2:Nat):Int))),(51,.v (.int .i64 (((C2 l).toNat:Nat):Int))),(52,.v (.int .i64 ((k2:Nat):Int)))] a_ w_) ((C2 l).toNat) ⟨0,none,0,by omega,by omega,gN.pk,eY,Fr.refl _ _ _⟩ ?_
 rintro oC oD oE ⟨k2,A2_,c2_,mO,mQ,gO,aI,gP⟩
 let ar:Nat × SV:=(52,.v (.int .i64 ((k2:Nat):Int)))
 refine B9 [ab,ac,ae,af,(9,.v (.slice A_ ((D0 W l v (Tree.mk n1 s2 b3 l4 u5) 0).length) c_)),(10,.v (.slice A2_ ((C3 W l (Tree.mk n1 s2 b3 l4 u5) k2).length) c2_)),(11,.v (.int .i64 ((D3 W l (Tree.mk n1 s2 b3 l4 u5) k2:Nat):Int))),(51,.v (.int .i64 (((C2 l).toNat:Nat):Int))),ar,(53,.v (.bool (decide (((k2:Nat):Int) < (((C2 l).toNat:Nat):Int)))))] aI gO fun oF dT=>?_
 refine wp_seq (E2 dT (b:=decide (((k2:Nat):Int) < (((C2 l).toNat:Nat):Int))) kz (fun dU=>?_) (fun dU=>?_))
 ·
  have mR:=of_decide_eq_true dU
  refine wp_skip (A4 (wp_seq (wp_block ?_)))
  let au:Nat × SV:=(14,.v (.int .i64 ((k2:Nat):Int)))
  refine B9 [ab,ac,ae,af,(9,.v (.slice A_ ((D0 W l v (Tree.mk n1 s2 b3 l4 u5) 0).length) c_)),(10,.v (.slice A2_ ((C3 W l (Tree.mk n1 s2 b3 l4 u5) k2).length) c2_)),(11,.v (.int .i64 ((D3 W l (Tree.mk n1 s2 b3 l4 u5) k2:Nat):Int))),au,(51,.v (.int .i64 (((C2 l).toNat:Nat):Int))),ar] aI dT fun oG gQ=>?_
  let aw:Nat × SV:=(55,.v (.slice A l.length c))
  let ax:Nat × SV:=(56,.v (.int .i64 ((l.length:Nat):Int)))
  refine B9 [ab,ac,ae,af,(9,.v (.slice A_ ((D0 W l v (Tree.mk n1 s2 b3 l4 u5) 0).length) c_)),(10,.v (.slice A2_ ((C3 W l (Tree.mk n1 s2 b3 l4 u5) k2).length) c2_)),(11,.v (.int .i64 ((D3 W l (Tree.mk n1 s2 b3 l4 u5) k2:Nat):Int))),au,(51,.v (.int .i64 (((C2 l).toNat:Nat):Int))),ar,aw,ax,(57,.v (.int .i64 0))] aI gQ fun oH eZ=>?_
  refine wp_block ?_
  have e9:(C3 W l (Tree.mk n1 s2 b3 l4 u5) k2) = (C3 W l (Tree.mk n1 s2 b3 l4 u5) k2 ++ []):=(List.append_nil _).symm
  have gR:=congrArg (B0 A2_ c2_ 5) e9
  obtain ⟨fa,gS⟩:=aI.rowEq 1 [B0 A_ c_ 5 (D0 W l v (Tree.mk n1 s2 b3 l4 u5) 0),B0 A2_ c2_ 5 (C3 W l (Tree.mk n1 s2 b3 l4 u5) k2 ++ [])] gR
  rw [e9] at eZ
  have hm2:=hmono (k2 + 1) (by omega)
  rw [C3,List.length_append] at hm2
  have hc2:=hcnt (k2 + 1)
  rw [D3,C3,List.length_append] at hc2
  have hc3:=FU W k2 (Tree.mk n1 s2 b3 l4 u5) l 0
  refine wp_loop_ghost (fun n_ a_ w_=>∃ (q:Nat) (A3_:Option Addr) (c3_:Nat) (dm:Bs) (cn:Nat),n_ = l.length - q ∧ q ≤ l.length ∧ (dm ++ H4 W (l.drop q) k2 (Tree.mk n1 s2 b3 l4 u5) q = H4 W l k2 (Tree.mk n1 s2 b3 l4 u5) 0) ∧ (cn + H3 W (l.drop q) k2 (Tree.mk n1 s2 b3 l4 u5) q = H3 W l k2 (Tree.mk n1 s2 b3 l4 u5) 0) ∧ J1 fa 132 [aL] [B0 A_ c_ 5 (D0 W l v (Tree.mk n1 s2 b3 l4 u5) 0),B0 A3_ c3_ 5 (C3 W l (Tree.mk n1 s2 b3 l4 u5) k2 ++ dm)] [ab,ac,ae,af,(9,.v (.slice A_ ((D0 W l v (Tree.mk n1 s2 b3 l4 u5) 0).length) c_)),(10,.v (.slice A3_ ((C3 W l (Tree.mk n1 s2 b3 l4 u5) k2 ++ dm).length) c3_)),(11,.v (.int .i64 ((D3 W l (Tree.mk n1 s2 b3 l4 u5) k2 + cn:Nat):Int))),au,(51,.v (.int .i64 (((C2 l).toNat:Nat):Int))),ar,aw,ax,(57,.v (.int .i64 ((q:Nat):Int)))] a_ w_) (l.length) ⟨0,A2_,c2_,[],0,by omega,by omega,rfl,Nat.zero_add _,eZ.pk,fa,Fr.refl _ _ _⟩ ?_
  rintro oI oJ oK ⟨q,A3_,c3_,dm,cn,mS,mT,hB2,hN2,gT,bV,cW⟩
  let aA:Nat × SV:=(57,.v (.int .i64 ((q:Nat):Int)))
  refine B9 [ab,ac,ae,af,(9,.v (.slice A_ ((D0 W l v (Tree.mk n1 s2 b3 l4 u5) 0).length) c_)),(10,.v (.slice A3_ ((C3 W l (Tree.mk n1 s2 b3 l4 u5) k2 ++ dm).length) c3_)),(11,.v (.int .i64 ((D3 W l (Tree.mk n1 s2 b3 l4 u5) k2 + cn:Nat):Int))),au,(51,.v (.int .i64 (((C2 l).toNat:Nat):Int))),ar,aw,ax,aA,(58,.v (.bool (decide (((q:Nat):Int) < ((l.length:Nat):Int)))))] bV gT fun oL dV=>?_
  refine wp_seq (E2 dV (b:=decide (((q:Nat):Int) < ((l.length:Nat):Int))) kz (fun dW=>?_) (fun dW=>?_))
  ·
   have mU:=of_decide_eq_true dW
   refine wp_skip (A4 (wp_seq (wp_block (C1 [0,1,2,3,4,5] kz ?_))))
   refine B3 [0] [1,2,3,4,5] [ab,ac,ae,af,(9,.v (.slice A_ ((D0 W l v (Tree.mk n1 s2 b3 l4 u5) 0).length) c_)),(10,.v (.slice A3_ ((C3 W l (Tree.mk n1 s2 b3 l4 u5) k2 ++ dm).length) c3_)),(11,.v (.int .i64 ((D3 W l (Tree.mk n1 s2 b3 l4 u5) k2 + cn:Nat):Int))),au,(51,.v (.int .i64 (((C2 l).toNat:Nat):Int))),ar,aw,ax,aA,(59,.v (.int .i64 ((q:Nat):Int)))] bV dV fun oM gU=>?_
   obtain ⟨lJ,lK,gV,mV,dX⟩:=Slots.get h1 (i:=q) (by omega)
   obtain ⟨lL,aK⟩:∃ x,l[q]? = some x:=⟨_,List.getElem?_eq_getElem (by omega)⟩
   have cX:=h2 q lL aK
   obtain ⟨ai,aj,ak,al,ag,am,ao,ap,fH,fI,mW,rfl,dY,lM,oN⟩:=cX.open_
   rw [dY] at cX
   have lN:=lM.small
   rw [dY] at dX
   refine B1 (J7 gU (t:=29) (A:=A) (m:=l.length) (q:=((q:Nat):Int)) (d:=60) kz (e:=46) (size:=8) (bytes:=80) kz gV rfl (by omega) fun oO gW=>?_)
   let bp:Value:=.int .i64 ai
   let bq:Value:=.int .i64 aj
   let bt:Value:=.int .i64 ak
   let bu:Value:=.int .i64 al
   let bw:Value:=.int .i64 ag
   let bx:Value:=.int .i64 am
   let bz:Value:=.int .i64 ao
   let bA:Value:=.slice fH ap.length fI
   let mX:Value:=.agg #[.int .i64 ai,.int .i64 aj,.int .i64 ak,.int .i64 al,.int .i64 ag,.int .i64 am,.int .i64 ao,.slice fH ap.length fI]
   refine B1 (M7 gW (t:=46) (b:=lJ) (o:=lK + q * 8) (d:=61) kz (cs:=[bp,bq,bt,bu,bw,bx,bz,bA]) (v:=.agg #[bp,bq,bt,bu,bw,bx,bz,bA]) kz (AtF.move dX bV.step B2 F3).at_ fun oP gX=>?_)
   refine B1 (N6 bV gX (d:=16) (cs:=[aH,aH,aH,aH,aH,aH,aH,.slice none 0 0]) kz fun oQ oR oS mY mZ dZ fb gY=>?_)
   let bF:Nat × SV:=(15,.v (.int .i64 ((q:Nat):Int)))
   let bG:Nat × SV:=(16,.p 1 0)
   let m4:Value:=(.agg #[.int .i64 ai,.int .i64 aj,.int .i64 ak,.int .i64 al,.int .i64 ag,.int .i64 am,.int .i64 ao,.slice fH ap.length fI])
   refine B3 [4] [5] [ab,ac,ae,af,(9,.v (.slice A_ ((D0 W l v (Tree.mk n1 s2 b3 l4 u5) 0).length) c_)),(10,.v (.slice A3_ ((C3 W l (Tree.mk n1 s2 b3 l4 u5) k2 ++ dm).length) c3_)),(11,.v (.int .i64 ((D3 W l (Tree.mk n1 s2 b3 l4 u5) k2 + cn:Nat):Int))),au,bF,bG,(51,.v (.int .i64 (((C2 l).toNat:Nat):Int))),ar,aw,ax,aA,(61,.v (.agg #[bp,bq,bt,bu,bw,bx,bz,bA]))] fb gY fun oT gZ=>?_
   refine B1 (I9 fb gZ (oi:=1) (cs:=[bp,bq,bt,bu,bw,bx,bz,bA]) kz fun oU d4 hC hJ=>?_)
   refine B4 (A4 ?_)
   refine X8 12 kz hC fun oV d5 bH d6=>?_
   refine G4 [0,1,2,3,4] [ab,ac,ae,af,(9,.v (.slice A_ ((D0 W l v (Tree.mk n1 s2 b3 l4 u5) 0).length) c_)),(10,.v (.slice A3_ ((C3 W l (Tree.mk n1 s2 b3 l4 u5) k2 ++ dm).length) c3_)),(11,.v (.int .i64 ((D3 W l (Tree.mk n1 s2 b3 l4 u5) k2 + cn:Nat):Int))),au,bF,bG,(51,.v (.int .i64 (((C2 l).toNat:Nat):Int))),ar,aw,ax,aA,(66,.v (.bool (ag == ((k2:Nat):Int))))] 7 (B6 (D8 (B6 (B6 (D8 (D8 (B6 (B6 (D8 (B6 E0)))))))))) (fun _ h=>h.cells) d6 hJ fun oW fc=>?_
   refine (Bool.eq_false_or_eq_true (ag == ((k2:Nat):Int))).elim (fun cu=>?_) (fun cu=>?_)
   ·
    have m5:ag = ((k2:Nat):Int):=by simpa using cu
    have hK:=fc
    rw [cu] at hK
    refine G4 [5,6,7] [ab,ac,ae,af,(9,.v (.slice A_ ((D0 W l v (Tree.mk n1 s2 b3 l4 u5) 0).length) c_)),(10,.v (.slice A3_ ((C3 W l (Tree.mk n1 s2 b3 l4 u5) k2 ++ dm).length) c3_)),(11,.v (.int .i64 ((D3 W l (Tree.mk n1 s2 b3 l4 u5) k2 + cn:Nat):Int))),au,bF,bG,(51,.v (.int .i64 (((C2 l).toNat:Nat):Int))),ar,aw,ax,aA,(66,.v (.bool true)),(67,.v (.agg #[bp,bq,bt,bu,bw,bx,bz,bA])),(68,.v (.agg #[aX,aY,aZ,ba,aR])),(69,.v (.int .i64 ((q:Nat):Int)))] 4 (B6 (D8 (B6 (B6 (D8 (D8 (B6 (B6 (D8 (B6 E0)))))))))) (fun _ h=>h.cells) d6 hK fun oX hY=>?_
    refine H6 (i:=8) kz (D6 hY (f:=25) (vs:=[.agg #[aX,aY,aZ,ba,aR],.int .i64 ((q:Nat):Int)]) (d:=70) kz Tryz.call25 (Es _ _ q _ _ (ht.move bH.step B2 bH.imm)) ?_)
    rintro e_ oY ⟨m6,rfl,hZ,cv⟩
    have d7:=hZ.move cv B2 (fun b o h_ hb_=>bH.laid (G:=F) cv b o (.inl h_) (Nat.lt_of_lt_of_le hb_ cv.size))
    obtain ⟨lO,lP,lQ,lR,lS,lT,lU,lV,lW,lX,lY,m7,m8,d8,lZ,l0,oZ,o5⟩:=d7.open_
    rw [d8] at d7
    have l3:=lZ.small
    have l5:=l0.small
    rw [d8]
    refine ⟨_,rfl,fun o6 ia=>?_⟩
    have cw:=bH.next_nil cv
    have cY:=bH.frN cv
    have ib:=TT.ofW cY cw
    refine ⟨fun _=>ib,?_⟩
    refine H6 (i:=9) kz (D6 ia (f:=27) (vs:=[.agg #[bp,bq,bt,bu,bw,bx,bz,bA],.agg #[.int .i64 lO,.slice lT lP.length lU,.bool lQ,.slice lV lR.length lW,.slice lX lS.length lY]]) (d:=71) kz Tryz.call27 (JB _ _ _ _ _ _ _ (cX.move cw.step B2 cw.imm) (Nat.le_refl _) d7) ?_)
    rintro e_ o7 ⟨rfl,fe⟩
    refine ⟨_,rfl,fun o8 ic=>?_⟩
    have cZ:=cw.next_nil fe
    have d9:=cw.frN fe
    have ff:=TT.ofW (cY.trans d9) cZ
    refine ⟨fun _=>ff,?_⟩
    refine G4 [10,11] [ab,ac,ae,af,(9,.v (.slice A_ ((D0 W l v (Tree.mk n1 s2 b3 l4 u5) 0).length) c_)),(10,.v (.slice A3_ ((C3 W l (Tree.mk n1 s2 b3 l4 u5) k2 ++ dm).length) c3_)),(11,.v (.int .i64 ((D3 W l (Tree.mk n1 s2 b3 l4 u5) k2 + cn:Nat):Int))),au,bF,bG,(51,.v (.int .i64 (((C2 l).toNat:Nat):Int))),ar,aw,ax,aA,(73,.v (.bool (!(Fld.usual (Fld.mk ai aj ak al ag am ao ap) (Tree.at_ (Tree.mk n1 s2 b3 l4 u5) q)))))] 0 (B6 (D8 (B6 (B6 (D8 (D8 (B6 (B6 (D8 (B6 E0)))))))))) (fun _ h=>h.cells) ff ic fun o9 ea=>?_
    refine L6 kz ?_ _
    refine A4 (E2 ea (b:=!(Fld.usual (Fld.mk ai aj ak al ag am ao ap) (Tree.at_ (Tree.mk n1 s2 b3 l4 u5) q))) kz (fun aP=>?_) (fun aP=>?_))
    ·
     refine X8 7 kz cZ fun pa ig cy ii=>?_
     refine G4 [0,1,2,3,4] [ab,ac,ae,af,(9,.v (.slice A_ ((D0 W l v (Tree.mk n1 s2 b3 l4 u5) 0).length) c_)),(10,.v (.slice A3_ ((C3 W l (Tree.mk n1 s2 b3 l4 u5) k2 ++ dm).length) c3_)),(11,.v (.int .i64 ((D3 W l (Tree.mk n1 s2 b3 l4 u5) k2 + cn:Nat):Int))),au,(51,.v (.int .i64 (((C2 l).toNat:Nat):Int))),ar,aw,ax,aA,(74,.v (.agg #[bp,bq,bt,bu,bw,bx,bz,bA])),(75,.v (.int .i64 v)),(76,.v (.bool flex)),(77,.v (.agg #[aX,aY,aZ,ba,aR])),(78,.v (.int .i64 ((q:Nat):Int)))] 3 (B6 (D8 (B6 (B6 (D8 (D8 (B6 (B6 (D8 (B6 E0)))))))))) (fun _ h=>h.cells) ii ea fun pb ij=>?_
     refine H6 (i:=5) kz (D6 ij (f:=25) (vs:=[.agg #[aX,aY,aZ,ba,aR],.int .i64 ((q:Nat):Int)]) (d:=79) kz Tryz.call25 (Es _ _ q _ _ (ht.move cy.step B2 cy.imm)) ?_)
     rintro e_ pc ⟨m9,rfl,ik,cz⟩
     have eb:=ik.move cz B2 (fun b o h_ hb_=>cy.laid (G:=F) cz b o (.inl h_) (Nat.lt_of_lt_of_le hb_ cz.size))
     obtain ⟨l6,l7,l9,ma,mc,md,me,mf,mg,mh,mj,nf,ng,ec,ml,mn,pd,pe⟩:=eb.open_
     rw [ec] at eb
     have mo:=ml.small
     have mp:=mn.small
     rw [ec]
     refine ⟨_,rfl,fun pf il=>?_⟩
     have da:=cy.next_nil cz
     have ee:=cy.frN cz
     have im:=TT.ofW ee da
     refine ⟨fun _=>im,?_⟩
     refine H6 (i:=6) kz (D6 il (f:=24) (vs:=[.agg #[bp,bq,bt,bu,bw,bx,bz,bA],.int .i64 v,.bool flex,.agg #[.int .i64 l6,.slice md l7.length me,.bool l9,.slice mf ma.length mg,.slice mh mc.length mj]]) (d:=80) kz Tryz.call24 ( hW_ _ _ _ _ _ _ (List.mem_of_getElem? aK) (cX.move da.step B2 da.imm) eb (by have h_:=congrArg List.length hB2; rw [Cr aK (by omega) (by simpa using aP)] at h_; simp only [List.length_append] at h_; omega)) ?_)
     rintro e_ pg ⟨cL,cM,rfl,io,ip⟩
     refine ⟨_,rfl,fun ph iq=>?_⟩
     obtain ⟨db,fg⟩:=da.frFresh ip (B0 cL cM 5 (W (Fld.mk ai aj ak al ag am ao ap) (Tree.at_ (Tree.mk n1 s2 b3 l4 u5) q))) (Nat.le_refl _) io
     have mq:(W (Fld.mk ai aj ak al ag am ao ap) (Tree.at_ (Tree.mk n1 s2 b3 l4 u5) q)).length ≤ 1099511627776:=by have h_:=congrArg List.length hB2; rw [Cr aK (by omega) (by simpa using aP)] at h_; simp only [List.length_append] at h_; omega
     have ir:=TT.ofW (ee.trans fg) db
     refine ⟨fun _=>ir,?_⟩
     let aM:Nat × SV:=(17,.v (.slice cL ((W (Fld.mk ai aj ak al ag am ao ap) (Tree.at_ (Tree.mk n1 s2 b3 l4 u5) q)).length) cM))
     refine H6 (i:=7) kz (W1 [0,1,2,7,9,10,11,14,17,51,52,55,56,57] db.cells iq (env':=[ab,ac,ae,af,(9,.v (.slice A_ ((D0 W l v (Tree.mk n1 s2 b3 l4 u5) 0).length) c_)),(10,.v (.slice A3_ ((C3 W l (Tree.mk n1 s2 b3 l4 u5) k2 ++ dm).length) c3_)),(11,.v (.int .i64 ((D3 W l (Tree.mk n1 s2 b3 l4 u5) k2 + cn:Nat):Int))),au,aM,(51,.v (.int .i64 (((C2 l).toNat:Nat):Int))),ar,aw,ax,aA]) kz fun pi iu=>?_)
     refine ⟨fun h=>absurd rfl h,?_⟩
     refine L6 kz ?_ _
     refine A4 (C1 [0,1,2,3,4,5,6,7,8,9,10,11,12] kz ?_)
     refine B3 [0,1,2] [3,4,5,6,7,8,9,10,11,12] [ab,ac,ae,af,(9,.v (.slice A_ ((D0 W l v (Tree.mk n1 s2 b3 l4 u5) 0).length) c_)),(11,.v (.int .i64 ((D3 W l (Tree.mk n1 s2 b3 l4 u5) k2 + cn:Nat):Int))),au,aM,(51,.v (.int .i64 (((C2 l).toNat:Nat):Int))),ar,aw,ax,aA,(81,.v (.slice A3_ ((C3 W l (Tree.mk n1 s2 b3 l4 u5) k2 ++ dm).length) c3_)),(83,.v (.int .u64 (IntKind.u64.wrap ((k2:Nat):Int))))] db iu fun pj iv=>?_
     have iw:IntKind.u64.wrap ((k2:Nat):Int) = ((k2:Nat):Int):=by simp only [G1,D5,P9,IntKind.wrap_i64,IntKind.wrap_i32]; omega
     have ix:=EnvOk.pick iv (ks:=[0,1,2,7,9,11,14,17,51,52,55,56,57,81,83]) (env':=[ab,ac,ae,af,(9,.v (.slice A_ ((D0 W l v (Tree.mk n1 s2 b3 l4 u5) 0).length) c_)),(11,.v (.int .i64 ((D3 W l (Tree.mk n1 s2 b3 l4 u5) k2 + cn:Nat):Int))),au,aM,(51,.v (.int .i64 (((C2 l).toNat:Nat):Int))),ar,aw,ax,aA,(81,.v (.slice A3_ ((C3 W l (Tree.mk n1 s2 b3 l4 u5) k2 ++ dm).length) c3_)),(83,.v (.int .u64 (IntKind.u64.wrap ((k2:Nat):Int))))]) kz
     let dc:Nat × SV:=(83,.v (.int .u64 ((k2:Nat):Int)))
     have iy:=ix.cast (env':=[ab,ac,ae,af,(9,.v (.slice A_ ((D0 W l v (Tree.mk n1 s2 b3 l4 u5) 0).length) c_)),(11,.v (.int .i64 ((D3 W l (Tree.mk n1 s2 b3 l4 u5) k2 + cn:Nat):Int))),au,aM,(51,.v (.int .i64 (((C2 l).toNat:Nat):Int))),ar,aw,ax,aA,(81,.v (.slice A3_ ((C3 W l (Tree.mk n1 s2 b3 l4 u5) k2 ++ dm).length) c3_)),dc]) (by simp only [ar,au,dc,iw]; try rfl)
     refine B1 (D6 iy (f:=28) (vs:=[.int .u64 ((k2:Nat):Int)]) (d:=84) kz Tryz.call28 (CD k2 (by omega) _) ?_)
     rintro e_ pl ⟨dv,dw,rfl,iz,iA⟩
     refine ⟨_,rfl,fun pm iB=>?_⟩
     obtain ⟨ef,iC⟩:=db.frFresh iA (B0 dv dw 5 (uv k2)) (Nat.le_refl _) iz
     refine B1 (N8 ef iB (k:=1) (d:=85) (t:=22) (e:=5) (size:=1) (bytes:=1) (A:=A3_) (As:=dv) (m0:=((C3 W l (Tree.mk n1 s2 b3 l4 u5) k2 ++ dm).length)) (c:=c3_) (m:=((uv k2).length)) (cs:=dw) (xs:=(bc (C3 W l (Tree.mk n1 s2 b3 l4 u5) k2 ++ dm))) (news:=bc (uv k2)) kz kz rfl (S3 (ef.own 3 _ rfl) (Q8 _)) (U5 (ef.own 3 _ rfl)) (by have h_:=congrArg List.length hB2; rw [Cr aK (by omega) (by simpa using aP)] at h_; simp only [List.length_append] at h_ ⊢; omega) fun bI bJ pn po iD iE iF=>?_)
     have iG:(⟨bI,bJ,5,1,(C3 W l (Tree.mk n1 s2 b3 l4 u5) k2 ++ dm).length + (uv k2).length,bc (C3 W l (Tree.mk n1 s2 b3 l4 u5) k2 ++ dm) ++ bc (uv k2)⟩:Rw) = B0 bI bJ 5 (C3 W l (Tree.mk n1 s2 b3 l4 u5) k2 ++ dm ++ (uv k2)):=K9 (rfl) rfl
     obtain ⟨fh,iH⟩:=iE.rowEq 1 [B0 A_ c_ 5 (D0 W l v (Tree.mk n1 s2 b3 l4 u5) 0),B0 bI bJ 5 (C3 W l (Tree.mk n1 s2 b3 l4 u5) k2 ++ dm ++ (uv k2)),B0 cL cM 5 (W (Fld.mk ai aj ak al ag am ao ap) (Tree.at_ (Tree.mk n1 s2 b3 l4 u5) q)),B0 dv dw 5 (uv k2)] iG
     let fi:Nat × SV:=(84,.v (.slice dv ((uv k2).length) dw))
     have iI:=EnvOk.pick iF (ks:=[0,1,2,7,9,11,14,17,51,52,55,56,57,81,83,84,85]) (env':=[ab,ac,ae,af,(9,.v (.slice A_ ((D0 W l v (Tree.mk n1 s2 b3 l4 u5) 0).length) c_)),(11,.v (.int .i64 ((D3 W l (Tree.mk n1 s2 b3 l4 u5) k2 + cn:Nat):Int))),au,aM,(51,.v (.int .i64 (((C2 l).toNat:Nat):Int))),ar,aw,ax,aA,(81,.v (.slice A3_ ((C3 W l (Tree.mk n1 s2 b3 l4 u5) k2 ++ dm).length) c3_)),dc,fi,(85,.v (.slice bI ((C3 W l (Tree.mk n1 s2 b3 l4 u5) k2 ++ dm).length + (uv k2).length) bJ))]) kz
     have iJ:=iI.cast (env':=[ab,ac,ae,af,(9,.v (.slice A_ ((D0 W l v (Tree.mk n1 s2 b3 l4 u5) 0).length) c_)),(11,.v (.int .i64 ((D3 W l (Tree.mk n1 s2 b3 l4 u5) k2 + cn:Nat):Int))),au,aM,(51,.v (.int .i64 (((C2 l).toNat:Nat):Int))),ar,aw,ax,aA,(81,.v (.slice A3_ ((C3 W l (Tree.mk n1 s2 b3 l4 u5) k2 ++ dm).length) c3_)),dc,fi,(85,.v (.slice bI ((C3 W l (Tree.mk n1 s2 b3 l4 u5) k2 ++ dm ++ (uv k2)).length) bJ))]) (by simp only [List.length_append,List.length_cons,List.length_nil,Nat.zero_add])
     refine B3 [5,6,7] [8,9,10,11,12] [ab,ac,ae,af,(9,.v (.slice A_ ((D0 W l v (Tree.mk n1 s2 b3 l4 u5) 0).length) c_)),(11,.v (.int .i64 ((D3 W l (Tree.mk n1 s2 b3 l4 u5) k2 + cn:Nat):Int))),au,aM,(51,.v (.int .i64 (((C2 l).toNat:Nat):Int))),ar,aw,ax,aA,(85,.v (.slice bI ((C3 W l (Tree.mk n1 s2 b3 l4 u5) k2 ++ dm ++ (uv k2)).length) bJ)),(88,.v (.int .u64 (IntKind.u64.wrap (((W (Fld.mk ai aj ak al ag am ao ap) (Tree.at_ (Tree.mk n1 s2 b3 l4 u5) q)).length:Nat):Int))))] fh iJ fun pp iK=>?_
     have iL:IntKind.u64.wrap (((W (Fld.mk ai aj ak al ag am ao ap) (Tree.at_ (Tree.mk n1 s2 b3 l4 u5) q)).length:Nat):Int) = (((W (Fld.mk ai aj ak al ag am ao ap) (Tree.at_ (Tree.mk n1 s2 b3 l4 u5) q)).length:Nat):Int):=by simp only [G1,D5,P9,IntKind.wrap_i64,IntKind.wrap_i32]; omega
     have iM:=EnvOk.pick iK (ks:=[0,1,2,7,9,11,14,17,51,52,55,56,57,85,88]) (env':=[ab,ac,ae,af,(9,.v (.slice A_ ((D0 W l v (Tree.mk n1 s2 b3 l4 u5) 0).length) c_)),(11,.v (.int .i64 ((D3 W l (Tree.mk n1 s2 b3 l4 u5) k2 + cn:Nat):Int))),au,aM,(51,.v (.int .i64 (((C2 l).toNat:Nat):Int))),ar,aw,ax,aA,(85,.v (.slice bI ((C3 W l (Tree.mk n1 s2 b3 l4 u5) k2 ++ dm ++ (uv k2)).length) bJ)),(88,.v (.int .u64 (IntKind.u64.wrap (((W (Fld.mk ai aj ak al ag am ao ap) (Tree.at_ (Tree.mk n1 s2 b3 l4 u5) q)).length:Nat):Int))))]) kz
     let de:Nat × SV:=(88,.v (.int .u64 (((W (Fld.mk ai aj ak al ag am ao ap) (Tree.at_ (Tree.mk n1 s2 b3 l4 u5) q)).length:Nat):Int)))
     have iN:=iM.cast (env':=[ab,ac,ae,af,(9,.v (.slice A_ ((D0 W l v (Tree.mk n1 s2 b3 l4 u5) 0).length) c_)),(11,.v (.int .i64 ((D3 W l (Tree.mk n1 s2 b3 l4 u5) k2 + cn:Nat):Int))),au,aM,(51,.v (.int .i64 (((C2 l).toNat:Nat):Int))),ar,aw,ax,aA,(85,.v (.slice bI ((C3 W l (Tree.mk n1 s2 b3 l4 u5) k2 ++ dm ++ (uv k2)).length) bJ)),de]) (by simp only [de,iL]; try rfl)
     refine B1 (D6 iN (f:=28) (vs:=[.int .u64 (((W (Fld.mk ai aj ak al ag am ao ap) (Tree.at_ (Tree.mk n1 s2 b3 l4 u5) q)).length:Nat):Int)]) (d:=89) kz Tryz.call28 (CD ((W (Fld.mk ai aj ak al ag am ao ap) (Tree.at_ (Tree.mk n1 s2 b3 l4 u5) q)).length) (by omega) _) ?_)
     rintro e_ pq ⟨eg,eh,rfl,iO,iP⟩
     refine ⟨_,rfl,fun pr iQ=>?_⟩
     obtain ⟨ei,iR⟩:=fh.frFresh iP (B0 eg eh 5 (uv ((W (Fld.mk ai aj ak al ag am ao ap) (Tree.at_ (Tree.mk n1 s2 b3 l4 u5) q)).length))) (Nat.le_refl _) iO
     refine B1 (N8 ei iQ (k:=1) (d:=90) (t:=22) (e:=5) (size:=1) (bytes:=1) (A:=bI) (As:=eg) (m0:=((C3 W l (Tree.mk n1 s2 b3 l4 u5) k2 ++ dm ++ (uv k2)).length)) (c:=bJ) (m:=((uv ((W (Fld.mk ai aj ak al ag am ao ap) (Tree.at_ (Tree.mk n1 s2 b3 l4 u5) q)).length)).length)) (cs:=eh) (xs:=(bc (C3 W l (Tree.mk n1 s2 b3 l4 u5) k2 ++ dm ++ (uv k2)))) (news:=bc (uv ((W (Fld.mk ai aj ak al ag am ao ap) (Tree.at_ (Tree.mk n1 s2 b3 l4 u5) q)).length))) kz kz rfl (S3 (ei.own 4 _ rfl) (Q8 _)) (U5 (ei.own 4 _ rfl)) (by have h_:=congrArg List.length hB2; rw [Cr aK (by omega) (by simpa using aP)] at h_; simp only [List.length_append] at h_ ⊢; omega) fun bW bX pt pu iS iT iU=>?_)
     have iV:(⟨bW,bX,5,1,(C3 W l (Tree.mk n1 s2 b3 l4 u5) k2 ++ dm ++ (uv k2)).length + (uv ((W (Fld.mk ai aj ak al ag am ao ap) (Tree.at_ (Tree.mk n1 s2 b3 l4 u5) q)).length)).length,bc (C3 W l (Tree.mk n1 s2 b3 l4 u5) k2 ++ dm ++ (uv k2)) ++ bc (uv ((W (Fld.mk ai aj ak al ag am ao ap) (Tree.at_ (Tree.mk n1 s2 b3 l4 u5) q)).length))⟩:Rw) = B0 bW bX 5 (C3 W l (Tree.mk n1 s2 b3 l4 u5) k2 ++ dm ++ (uv k2) ++ (uv ((W (Fld.mk ai aj ak al ag am ao ap) (Tree.at_ (Tree.mk n1 s2 b3 l4 u5) q)).length))):=K9 (rfl) rfl
     obtain ⟨df,iW⟩:=iT.rowEq 1 [B0 A_ c_ 5 (D0 W l v (Tree.mk n1 s2 b3 l4 u5) 0),B0 bW bX 5 (C3 W l (Tree.mk n1 s2 b3 l4 u5) k2 ++ dm ++ (uv k2) ++ (uv ((W (Fld.mk ai aj ak al ag am ao ap) (Tree.at_ (Tree.mk n1 s2 b3 l4 u5) q)).length))),B0 cL cM 5 (W (Fld.mk ai aj ak al ag am ao ap) (Tree.at_ (Tree.mk n1 s2 b3 l4 u5) q)),B0 dv dw 5 (uv k2),B0 eg eh 5 (uv ((W (Fld.mk ai aj ak al ag am ao ap) (Tree.at_ (Tree.mk n1 s2 b3 l4 u5) q)).length))] iV
     let fj:Nat × SV:=(89,.v (.slice eg ((uv ((W (Fld.mk ai aj ak al ag am ao ap) (Tree.at_ (Tree.mk n1 s2 b3 l4 u5) q)).length)).length) eh))
     have iX:=EnvOk.pick iU (ks:=[0,1,2,7,9,11,14,17,51,52,55,56,57,85,88,89,90]) (env':=[ab,ac,ae,af,(9,.v (.slice A_ ((D0 W l v (Tree.mk n1 s2 b3 l4 u5) 0).length) c_)),(11,.v (.int .i64 ((D3 W l (Tree.mk n1 s2 b3 l4 u5) k2 + cn:Nat):Int))),au,aM,(51,.v (.int .i64 (((C2 l).toNat:Nat):Int))),ar,aw,ax,aA,(85,.v (.slice bI ((C3 W l (Tree.mk n1 s2 b3 l4 u5) k2 ++ dm ++ (uv k2)).length) bJ)),de,fj,(90,.v (.slice bW ((C3 W l (Tree.mk n1 s2 b3 l4 u5) k2 ++ dm ++ (uv k2)).length + (uv ((W (Fld.mk ai aj ak al ag am ao ap) (Tree.at_ (Tree.mk n1 s2 b3 l4 u5) q)).length)).length) bX))]) kz
     have iY:=iX.cast (env':=[ab,ac,ae,af,(9,.v (.slice A_ ((D0 W l v (Tree.mk n1 s2 b3 l4 u5) 0).length) c_)),(11,.v (.int .i64 ((D3 W l (Tree.mk n1 s2 b3 l4 u5) k2 + cn:Nat):Int))),au,aM,(51,.v (.int .i64 (((C2 l).toNat:Nat):Int))),ar,aw,ax,aA,(85,.v (.slice bI ((C3 W l (Tree.mk n1 s2 b3 l4 u5) k2 ++ dm ++ (uv k2)).length) bJ)),de,fj,(90,.v (.slice bW ((C3 W l (Tree.mk n1 s2 b3 l4 u5) k2 ++ dm ++ (uv k2) ++ (uv ((W (Fld.mk ai aj ak al ag am ao ap) (Tree.at_ (Tree.mk n1 s2 b3 l4 u5) q)).length))).length) bX))]) (by simp only [List.length_append,List.length_cons,List.length_nil,Nat.zero_add])
     let ej:Nat × SV:=(91,.v (.slice cL ((W (Fld.mk ai aj ak al ag am ao ap) (Tree.at_ (Tree.mk n1 s2 b3 l4 u5) q)).length) cM))
     refine B3 [10] [11,12] [ab,ac,ae,af,(9,.v (.slice A_ ((D0 W l v (Tree.mk n1 s2 b3 l4 u5) 0).length) c_)),(11,.v (.int .i64 ((D3 W l (Tree.mk n1 s2 b3 l4 u5) k2 + cn:Nat):Int))),au,(51,.v (.int .i64 (((C2 l).toNat:Nat):Int))),ar,aw,ax,aA,(90,.v (.slice bW ((C3 W l (Tree.mk n1 s2 b3 l4 u5) k2 ++ dm ++ (uv k2) ++ (uv ((W (Fld.mk ai aj ak al ag am ao ap) (Tree.at_ (Tree.mk n1 s2 b3 l4 u5) q)).length))).length) bX)),ej] df iY fun pv iZ=>?_
     refine B1 (N8 df iZ (k:=1) (d:=92) (t:=22) (e:=5) (size:=1) (bytes:=1) (A:=bW) (As:=cL) (m0:=((C3 W l (Tree.mk n1 s2 b3 l4 u5) k2 ++ dm ++ (uv k2) ++ (uv ((W (Fld.mk ai aj ak al ag am ao ap) (Tree.at_ (Tree.mk n1 s2 b3 l4 u5) q)).length))).length)) (c:=bX) (m:=((W (Fld.mk ai aj ak al ag am ao ap) (Tree.at_ (Tree.mk n1 s2 b3 l4 u5) q)).length)) (cs:=cM) (xs:=(bc (C3 W l (Tree.mk n1 s2 b3 l4 u5) k2 ++ dm ++ (uv k2) ++ (uv ((W (Fld.mk ai aj ak al ag am ao ap) (Tree.at_ (Tree.mk n1 s2 b3 l4 u5) q)).length))))) (news:=bc (W (Fld.mk ai aj ak al ag am ao ap) (Tree.at_ (Tree.mk n1 s2 b3 l4 u5) q))) kz kz rfl (S3 (df.own 2 _ rfl) (Q8 _)) (U5 (df.own 2 _ rfl)) (by have h_:=congrArg List.length hB2; rw [Cr aK (by omega) (by simpa using aP)] at h_; simp only [List.length_append] at h_ ⊢; omega) fun aT aU pw px i6 i7 ja=>?_)
     have jb:(⟨aT,aU,5,1,(C3 W l (Tree.mk n1 s2 b3 l4 u5) k2 ++ dm ++ (uv k2) ++ (uv ((W (Fld.mk ai aj ak al ag am ao ap) (Tree.at_ (Tree.mk n1 s2 b3 l4 u5) q)).length))).length + (W (Fld.mk ai aj ak al ag am ao ap) (Tree.at_ (Tree.mk n1 s2 b3 l4 u5) q)).length,bc (C3 W l (Tree.mk n1 s2 b3 l4 u5) k2 ++ dm ++ (uv k2) ++ (uv ((W (Fld.mk ai aj ak al ag am ao ap) (Tree.at_ (Tree.mk n1 s2 b3 l4 u5) q)).length))) ++ bc (W (Fld.mk ai aj ak al ag am ao ap) (Tree.at_ (Tree.mk n1 s2 b3 l4 u5) q))⟩:Rw) = B0 aT aU 5 (C3 W l (Tree.mk n1 s2 b3 l4 u5) k2 ++ dm ++ (uv k2) ++ (uv ((W (Fld.mk ai aj ak al ag am ao ap) (Tree.at_ (Tree.mk n1 s2 b3 l4 u5) q)).length)) ++ (W (Fld.mk ai aj ak al ag am ao ap) (Tree.at_ (Tree.mk n1 s2 b3 l4 u5) q))):=K9 (rfl) rfl
     obtain ⟨dg,jc⟩:=i7.rowEq 1 [B0 A_ c_ 5 (D0 W l v (Tree.mk n1 s2 b3 l4 u5) 0),B0 aT aU 5 (C3 W l (Tree.mk n1 s2 b3 l4 u5) k2 ++ dm ++ (uv k2) ++ (uv ((W (Fld.mk ai aj ak al ag am ao ap) (Tree.at_ (Tree.mk n1 s2 b3 l4 u5) q)).length)) ++ (W (Fld.mk ai aj ak al ag am ao ap) (Tree.at_ (Tree.mk n1 s2 b3 l4 u5) q))),B0 cL cM 5 (W (Fld.mk ai aj ak al ag am ao ap) (Tree.at_ (Tree.mk n1 s2 b3 l4 u5) q)),B0 dv dw 5 (uv k2),B0 eg eh 5 (uv ((W (Fld.mk ai aj ak al ag am ao ap) (Tree.at_ (Tree.mk n1 s2 b3 l4 u5) q)).length))] jb
     have jd:=EnvOk.pick ja (ks:=[0,1,2,7,9,11,14,51,52,55,56,57,90,91,92]) (env':=[ab,ac,ae,af,(9,.v (.slice A_ ((D0 W l v (Tree.mk n1 s2 b3 l4 u5) 0).length) c_)),(11,.v (.int .i64 ((D3 W l (Tree.mk n1 s2 b3 l4 u5) k2 + cn:Nat):Int))),au,(51,.v (.int .i64 (((C2 l).toNat:Nat):Int))),ar,aw,ax,aA,(90,.v (.slice bW ((C3 W l (Tree.mk n1 s2 b3 l4 u5) k2 ++ dm ++ (uv k2) ++ (uv ((W (Fld.mk ai aj ak al ag am ao ap) (Tree.at_ (Tree.mk n1 s2 b3 l4 u5) q)).length))).length) bX)),ej,(92,.v (.slice aT ((C3 W l (Tree.mk n1 s2 b3 l4 u5) k2 ++ dm ++ (uv k2) ++ (uv ((W (Fld.mk ai aj ak al ag am ao ap) (Tree.at_ (Tree.mk n1 s2 b3 l4 u5) q)).length))).length + (W (Fld.mk ai aj ak al ag am ao ap) (Tree.at_ (Tree.mk n1 s2 b3 l4 u5) q)).length) aU))]) kz
     have je:=jd.cast (env':=[ab,ac,ae,af,(9,.v (.slice A_ ((D0 W l v (Tree.mk n1 s2 b3 l4 u5) 0).length) c_)),(11,.v (.int .i64 ((D3 W l (Tree.mk n1 s2 b3 l4 u5) k2 + cn:Nat):Int))),au,(51,.v (.int .i64 (((C2 l).toNat:Nat):Int))),ar,aw,ax,aA,(90,.v (.slice bW ((C3 W l (Tree.mk n1 s2 b3 l4 u5) k2 ++ dm ++ (uv k2) ++ (uv ((W (Fld.mk ai aj ak al ag am ao ap) (Tree.at_ (Tree.mk n1 s2 b3 l4 u5) q)).length))).length) bX)),ej,(92,.v (.slice aT ((C3 W l (Tree.mk n1 s2 b3 l4 u5) k2 ++ dm ++ (uv k2) ++ (uv ((W (Fld.mk ai aj ak al ag am ao ap) (Tree.at_ (Tree.mk n1 s2 b3 l4 u5) q)).length)) ++ (W (Fld.mk ai aj ak al ag am ao ap) (Tree.at_ (Tree.mk n1 s2 b3 l4 u5) q))).length) aU))]) (by simp only [List.length_append,List.length_cons,List.length_nil,Nat.zero_add])
     refine B3 [12] [] [ab,ac,ae,af,(9,.v (.slice A_ ((D0 W l v (Tree.mk n1 s2 b3 l4 u5) 0).length) c_)),(10,.v (.slice aT ((C3 W l (Tree.mk n1 s2 b3 l4 u5) k2 ++ dm ++ (uv k2) ++ (uv ((W (Fld.mk ai aj ak al ag am ao ap) (Tree.at_ (Tree.mk n1 s2 b3 l4 u5) q)).length)) ++ (W (Fld.mk ai aj ak al ag am ao ap) (Tree.at_ (Tree.mk n1 s2 b3 l4 u5) q))).length) aU)),(11,.v (.int .i64 ((D3 W l (Tree.mk n1 s2 b3 l4 u5) k2 + cn:Nat):Int))),au,(51,.v (.int .i64 (((C2 l).toNat:Nat):Int))),ar,aw,ax,aA] dg je fun pz jf=>?_
     refine B4 (A4 ?_)
     refine E4 [0,1,2] kz ?_
     refine B3 [0,1,2] [] [ab,ac,ae,af,(9,.v (.slice A_ ((D0 W l v (Tree.mk n1 s2 b3 l4 u5) 0).length) c_)),(10,.v (.slice aT ((C3 W l (Tree.mk n1 s2 b3 l4 u5) k2 ++ dm ++ (uv k2) ++ (uv ((W (Fld.mk ai aj ak al ag am ao ap) (Tree.at_ (Tree.mk n1 s2 b3 l4 u5) q)).length)) ++ (W (Fld.mk ai aj ak al ag am ao ap) (Tree.at_ (Tree.mk n1 s2 b3 l4 u5) q))).length) aU)),(11,.v (.int .i64 (IntKind.i64.wrap (((D3 W l (Tree.mk n1 s2 b3 l4 u5) k2 + cn:Nat):Int) + 1)))),au,(51,.v (.int .i64 (((C2 l).toNat:Nat):Int))),ar,aw,ax,aA] dg jf fun pA jg=>?_
     refine B4 (H7 (A4 (E4 [0,1] kz ?_)))
     refine B3 [0,1] [] [ab,ac,ae,af,(9,.v (.slice A_ ((D0 W l v (Tree.mk n1 s2 b3 l4 u5) 0).length) c_)),(10,.v (.slice aT ((C3 W l (Tree.mk n1 s2 b3 l4 u5) k2 ++ dm ++ (uv k2) ++ (uv ((W (Fld.mk ai aj ak al ag am ao ap) (Tree.at_ (Tree.mk n1 s2 b3 l4 u5) q)).length)) ++ (W (Fld.mk ai aj ak al ag am ao ap) (Tree.at_ (Tree.mk n1 s2 b3 l4 u5) q))).length) aU)),(11,.v (.int .i64 (IntKind.i64.wrap (((D3 W l (Tree.mk n1 s2 b3 l4 u5) k2 + cn:Nat):Int) + 1)))),au,(51,.v (.int .i64 (((C2 l).toNat:Nat):Int))),ar,aw,ax,(57,.v (.int .i64 (IntKind.i64.wrap (((q:Nat):Int) + 1))))] dg jg fun pB jh=>?_
     refine B4 (A4 ?_)
     obtain ⟨dh,ji,jj⟩:=dg.cutB jh 1 [aL] [ab,ac,ae,af,(9,.v (.slice A_ ((D0 W l v (Tree.mk n1 s2 b3 l4 u5) 0).length) c_)),(10,.v (.slice aT ((C3 W l (Tree.mk n1 s2 b3 l4 u5) k2 ++ dm ++ (uv k2) ++ (uv ((W (Fld.mk ai aj ak al ag am ao ap) (Tree.at_ (Tree.mk n1 s2 b3 l4 u5) q)).length)) ++ (W (Fld.mk ai aj ak al ag am ao ap) (Tree.at_ (Tree.mk n1 s2 b3 l4 u5) q))).length) aU)),(11,.v (.int .i64 (IntKind.i64.wrap (((D3 W l (Tree.mk n1 s2 b3 l4 u5) k2 + cn:Nat):Int) + 1)))),au,(51,.v (.int .i64 (((C2 l).toNat:Nat):Int))),ar,aw,ax,(57,.v (.int .i64 (IntKind.i64.wrap (((q:Nat):Int) + 1))))]
     obtain ⟨jk,jl⟩:=ji.cutR 2 [B0 A_ c_ 5 (D0 W l v (Tree.mk n1 s2 b3 l4 u5) 0),B0 aT aU 5 (C3 W l (Tree.mk n1 s2 b3 l4 u5) k2 ++ dm ++ (uv k2) ++ (uv ((W (Fld.mk ai aj ak al ag am ao ap) (Tree.at_ (Tree.mk n1 s2 b3 l4 u5) q)).length)) ++ (W (Fld.mk ai aj ak al ag am ao ap) (Tree.at_ (Tree.mk n1 s2 b3 l4 u5) q)))]
     have fk:(C3 W l (Tree.mk n1 s2 b3 l4 u5) k2 ++ dm ++ (uv k2) ++ (uv ((W (Fld.mk ai aj ak al ag am ao ap) (Tree.at_ (Tree.mk n1 s2 b3 l4 u5) q)).length)) ++ (W (Fld.mk ai aj ak al ag am ao ap) (Tree.at_ (Tree.mk n1 s2 b3 l4 u5) q))) = (C3 W l (Tree.mk n1 s2 b3 l4 u5) k2 ++ (dm ++ (uv k2 ++ uv (W (Fld.mk ai aj ak al ag am ao ap) (Tree.at_ (Tree.mk n1 s2 b3 l4 u5) q)).length ++ W (Fld.mk ai aj ak al ag am ao ap) (Tree.at_ (Tree.mk n1 s2 b3 l4 u5) q)))):=by simp only [List.append_assoc]
     have jm:=congrArg (B0 aT aU 5) fk
     obtain ⟨jn,jo⟩:=jk.rowEq 1 [B0 A_ c_ 5 (D0 W l v (Tree.mk n1 s2 b3 l4 u5) 0),B0 aT aU 5 (C3 W l (Tree.mk n1 s2 b3 l4 u5) k2 ++ (dm ++ (uv k2 ++ uv (W (Fld.mk ai aj ak al ag am ao ap) (Tree.at_ (Tree.mk n1 s2 b3 l4 u5) q)).length ++ W (Fld.mk ai aj ak al ag am ao ap) (Tree.at_ (Tree.mk n1 s2 b3 l4 u5) q))))] jm
     rw [fk] at dh
     have jp:IntKind.i64.wrap (((q:Nat):Int) + 1) = ((q + 1:Nat):Int):=N0 (by omega)
     rw [jp] at dh
     have jq:IntKind.i64.wrap (((D3 W l (Tree.mk n1 s2 b3 l4 u5) k2 + cn:Nat):Int) + 1) = ((D3 W l (Tree.mk n1 s2 b3 l4 u5) k2 + (cn + 1):Nat):Int):=by rw [wrap_i64 (by omega) (by omega)]; omega
     rw [jq] at dh
     exact ⟨l.length - (q + 1),by omega,q + 1,aT,aU,(dm ++ (uv k2 ++ uv (W (Fld.mk ai aj ak al ag am ao ap) (Tree.at_ (Tree.mk n1 s2 b3 l4 u5) q)).length ++ W (Fld.mk ai aj ak al ag am ao ap) (Tree.at_ (Tree.mk n1 s2 b3 l4 u5) q))),(cn + 1),rfl,by omega,by rw [List.append_assoc,← Cr aK (by omega) (by simpa using aP)]; exact hB2,by rw [Nat.add_assoc,← Mh aK (by omega) (by simpa using aP)]; exact hN2,dh.pk,jn,(((((((((((((((((((cW.trans dZ).trans d4).trans d5).trans cY).trans d9).trans ig).trans ee).trans fg).trans iC).trans iD).trans iH).trans iR).trans iS).trans iW).trans i6).trans jc).trans jj).trans jl).trans jo)⟩
    refine wp_skip (H7 (A4 (E4 [0,1] kz ?_)))
    refine B3 [0,1] [] [ab,ac,ae,af,(9,.v (.slice A_ ((D0 W l v (Tree.mk n1 s2 b3 l4 u5) 0).length) c_)),(10,.v (.slice A3_ ((C3 W l (Tree.mk n1 s2 b3 l4 u5) k2 ++ dm).length) c3_)),(11,.v (.int .i64 ((D3 W l (Tree.mk n1 s2 b3 l4 u5) k2 + cn:Nat):Int))),au,(51,.v (.int .i64 (((C2 l).toNat:Nat):Int))),ar,aw,ax,(57,.v (.int .i64 (IntKind.i64.wrap (((q:Nat):Int) + 1))))] cZ ea fun pC jr=>?_
    refine B4 (A4 ?_)
    obtain ⟨fl,js,jt⟩:=cZ.cutB jr 1 [aL] [ab,ac,ae,af,(9,.v (.slice A_ ((D0 W l v (Tree.mk n1 s2 b3 l4 u5) 0).length) c_)),(10,.v (.slice A3_ ((C3 W l (Tree.mk n1 s2 b3 l4 u5) k2 ++ dm).length) c3_)),(11,.v (.int .i64 ((D3 W l (Tree.mk n1 s2 b3 l4 u5) k2 + cn:Nat):Int))),au,(51,.v (.int .i64 (((C2 l).toNat:Nat):Int))),ar,aw,ax,(57,.v (.int .i64 (IntKind.i64.wrap (((q:Nat):Int) + 1))))]
    have ju:IntKind.i64.wrap (((q:Nat):Int) + 1) = ((q + 1:Nat):Int):=N0 (by omega)
    rw [ju] at fl
    exact ⟨l.length - (q + 1),by omega,q + 1,A3_,c3_,dm,cn,rfl,by omega,by rw [← Mf aK (by simpa using aP)]; exact hB2,by rw [← Mj aK (by simpa using aP)]; exact hN2,fl.pk,js,((((((cW.trans dZ).trans d4).trans d5).trans cY).trans d9).trans jt)⟩
   have nh:ag ≠ ((k2:Nat):Int):=by simpa using cu
   have jv:=fc.cast (env':=[ab,ac,ae,af,(9,.v (.slice A_ ((D0 W l v (Tree.mk n1 s2 b3 l4 u5) 0).length) c_)),(10,.v (.slice A3_ ((C3 W l (Tree.mk n1 s2 b3 l4 u5) k2 ++ dm).length) c3_)),(11,.v (.int .i64 ((D3 W l (Tree.mk n1 s2 b3 l4 u5) k2 + cn:Nat):Int))),au,bF,bG,(51,.v (.int .i64 (((C2 l).toNat:Nat):Int))),ar,aw,ax,aA,(66,.v (.bool false))]) (by rw [cu])
   refine G4 [5,6,7,8,9,10,11] [ab,ac,ae,af,(9,.v (.slice A_ ((D0 W l v (Tree.mk n1 s2 b3 l4 u5) 0).length) c_)),(10,.v (.slice A3_ ((C3 W l (Tree.mk n1 s2 b3 l4 u5) k2 ++ dm).length) c3_)),(11,.v (.int .i64 ((D3 W l (Tree.mk n1 s2 b3 l4 u5) k2 + cn:Nat):Int))),au,bF,bG,(51,.v (.int .i64 (((C2 l).toNat:Nat):Int))),ar,aw,ax,aA,(73,.v (.bool false))] 0 (B6 (D8 (B6 (B6 (D8 (D8 (B6 (B6 (D8 (B6 E0)))))))))) (fun _ h=>h.cells) d6 jv fun pD fm=>?_
   refine L6 kz ?_ _
   refine A4 (G6 fm (b:=false) kz rfl ?_)
   refine wp_skip (H7 (A4 (E4 [0,1] kz ?_)))
   refine B3 [0,1] [] [ab,ac,ae,af,(9,.v (.slice A_ ((D0 W l v (Tree.mk n1 s2 b3 l4 u5) 0).length) c_)),(10,.v (.slice A3_ ((C3 W l (Tree.mk n1 s2 b3 l4 u5) k2 ++ dm).length) c3_)),(11,.v (.int .i64 ((D3 W l (Tree.mk n1 s2 b3 l4 u5) k2 + cn:Nat):Int))),au,(51,.v (.int .i64 (((C2 l).toNat:Nat):Int))),ar,aw,ax,(57,.v (.int .i64 (IntKind.i64.wrap (((q:Nat):Int) + 1))))] bH fm fun pE jw=>?_
   refine B4 (A4 ?_)
   obtain ⟨fo,jx,jy⟩:=bH.cutB jw 1 [aL] [ab,ac,ae,af,(9,.v (.slice A_ ((D0 W l v (Tree.mk n1 s2 b3 l4 u5) 0).length) c_)),(10,.v (.slice A3_ ((C3 W l (Tree.mk n1 s2 b3 l4 u5) k2 ++ dm).length) c3_)),(11,.v (.int .i64 ((D3 W l (Tree.mk n1 s2 b3 l4 u5) k2 + cn:Nat):Int))),au,(51,.v (.int .i64 (((C2 l).toNat:Nat):Int))),ar,aw,ax,(57,.v (.int .i64 (IntKind.i64.wrap (((q:Nat):Int) + 1))))]
   have jz:IntKind.i64.wrap (((q:Nat):Int) + 1) = ((q + 1:Nat):Int):=N0 (by omega)
   rw [jz] at fo
   exact ⟨l.length - (q + 1),by omega,q + 1,A3_,c3_,dm,cn,rfl,by omega,by rw [← Me aK (by omega)]; exact hB2,by rw [← Mi aK (by omega)]; exact hN2,fo.pk,jx,((((cW.trans dZ).trans d4).trans d5).trans jy)⟩
  have ni:=of_decide_eq_false dW
  refine wp_exit (F2 (F2 (I7 (H7 (A4 (E4 [0,1] kz ?_))))))
  refine B3 [0,1] [] [ab,ac,ae,af,(9,.v (.slice A_ ((D0 W l v (Tree.mk n1 s2 b3 l4 u5) 0).length) c_)),(10,.v (.slice A3_ ((C3 W l (Tree.mk n1 s2 b3 l4 u5) k2 ++ dm).length) c3_)),(11,.v (.int .i64 ((D3 W l (Tree.mk n1 s2 b3 l4 u5) k2 + cn:Nat):Int))),(51,.v (.int .i64 (((C2 l).toNat:Nat):Int))),(52,.v (.int .i64 (IntKind.i64.wrap (((k2:Nat):Int) + 1))))] bV dV fun pF di=>?_
  refine B4 (A4 ?_)
  have fq:(C3 W l (Tree.mk n1 s2 b3 l4 u5) k2 ++ dm) = (C3 W l (Tree.mk n1 s2 b3 l4 u5) (k2 + 1)):=by rw [C3,← hB2,Mg (by omega),List.append_nil]
  have jA:=congrArg (B0 A3_ c3_ 5) fq
  obtain ⟨jB,jC⟩:=bV.rowEq 1 [B0 A_ c_ 5 (D0 W l v (Tree.mk n1 s2 b3 l4 u5) 0),B0 A3_ c3_ 5 (C3 W l (Tree.mk n1 s2 b3 l4 u5) (k2 + 1))] jA
  rw [fq] at di
  have jD:IntKind.i64.wrap (((k2:Nat):Int) + 1) = ((k2 + 1:Nat):Int):=N0 (by omega)
  rw [jD] at di
  have jE:((D3 W l (Tree.mk n1 s2 b3 l4 u5) k2 + cn:Nat):Int) = ((D3 W l (Tree.mk n1 s2 b3 l4 u5) (k2 + 1):Nat):Int):=by rw [D3,← hN2,Mk (by omega),Nat.add_zero]
  rw [jE] at di
  exact ⟨(C2 l).toNat - (k2 + 1),by omega,k2 + 1,A3_,c3_,rfl,by omega,di.pk,jB,(((gP.trans gS).trans cW).trans jC)⟩
 have nj:=of_decide_eq_false dU
 refine wp_exit (F2 (F2 (I7 (A4 (wp_seq (C1 [0,1,2,3,4,5] kz ?_))))))
 refine B3 [0,1,2] [3,4,5] [(9,.v (.slice A_ ((D0 W l v (Tree.mk n1 s2 b3 l4 u5) 0).length) c_)),(10,.v (.slice A2_ ((C3 W l (Tree.mk n1 s2 b3 l4 u5) k2).length) c2_)),(11,.v (.int .i64 ((D3 W l (Tree.mk n1 s2 b3 l4 u5) k2:Nat):Int))),(97,.v (.slice A l.length c)),(99,.v (.slice li u5.length lj))] aI dT fun pG jF=>?_
 refine B1 (D6 jF (f:=29) (vs:=[.slice A l.length c,aR]) (d:=100) kz Tryz.call29 (Jz _ _ l _ _ u5 _ _ ⟨xfs,(h1.move aI.step B2 aI.imm),(fun i_ x_ h_=>((h2 i_ x_ h_).move aI.step B2 aI.imm))⟩ (nE.move aI.step B2 aI.imm)) ?_)
 rintro e_ pH ⟨aF,aG,rfl,jG,ek⟩
 have jH:=jG.move (Step.refl _ C7) B2 (aI.laid (G:=F) ek)
 refine ⟨_,rfl,fun pI jI=>?_⟩
 have fr:=aI.next_nil ek
 have nk:=aI.frN ek
 refine B3 [4,5] [] [(9,.v (.slice A_ ((D0 W l v (Tree.mk n1 s2 b3 l4 u5) 0).length) c_)),(10,.v (.slice A2_ ((C3 W l (Tree.mk n1 s2 b3 l4 u5) k2).length) c2_)),(11,.v (.int .i64 ((D3 W l (Tree.mk n1 s2 b3 l4 u5) k2:Nat):Int))),(100,.v (.slice aF ((C6 l u5).length) aG)),(101,.v (.int .i64 (((C6 l u5).length:Nat):Int))),(102,.v (.int .i64 0))] fr jI fun pJ ft=>?_
 refine B4 (A4 ?_)
 refine wp_block ?_
 obtain ⟨nl,jJ,mr⟩:=jH.ex
 have mt:=jJ.small
 have hkk2:k2 = (C2 l).toNat:=by omega
 have hc2:=hcnt k2
 have hm2:=hmono k2 (by omega)
 have fu:(C3 W l (Tree.mk n1 s2 b3 l4 u5) k2) = (C3 W l (Tree.mk n1 s2 b3 l4 u5) k2 ++ E5 ((C6 l u5).take 0)):=(List.append_nil _).symm
 have jK:=congrArg (B0 A2_ c2_ 5) fu
 obtain ⟨fv,bB⟩:=fr.rowEq 1 [B0 A_ c_ 5 (D0 W l v (Tree.mk n1 s2 b3 l4 u5) 0),B0 A2_ c2_ 5 (C3 W l (Tree.mk n1 s2 b3 l4 u5) k2 ++ E5 ((C6 l u5).take 0))] jK
 rw [fu] at ft
 refine wp_loop_ghost (fun n_ a_ w_=>∃ (k:Nat) (A4_:Option Addr) (c4_:Nat),n_ = (C6 l u5).length - k ∧ k ≤ (C6 l u5).length ∧ J1 fv 132 [aL] [B0 A_ c_ 5 (D0 W l v (Tree.mk n1 s2 b3 l4 u5) 0),B0 A4_ c4_ 5 (C3 W l (Tree.mk n1 s2 b3 l4 u5) k2 ++ E5 ((C6 l u5).take k))] [(9,.v (.slice A_ ((D0 W l v (Tree.mk n1 s2 b3 l4 u5) 0).length) c_)),(10,.v (.slice A4_ ((C3 W l (Tree.mk n1 s2 b3 l4 u5) k2 ++ E5 ((C6 l u5).take k)).length) c4_)),(11,.v (.int .i64 ((D3 W l (Tree.mk n1 s2 b3 l4 u5) k2 + k:Nat):Int))),(100,.v (.slice aF ((C6 l u5).length) aG)),(101,.v (.int .i64 (((C6 l u5).length:Nat):Int))),(102,.v (.int .i64 ((k:Nat):Int)))] a_ w_) ((C6 l u5).length) ⟨0,A2_,c2_,by omega,by omega,ft.pk,fv,Fr.refl _ _ _⟩ ?_
 rintro pK pL pM ⟨k,A4_,c4_,nm,np,jL,dj,aS⟩
 let aE:Nat × SV:=(102,.v (.int .i64 ((k:Nat):Int)))
 refine B9 [(9,.v (.slice A_ ((D0 W l v (Tree.mk n1 s2 b3 l4 u5) 0).length) c_)),(10,.v (.slice A4_ ((C3 W l (Tree.mk n1 s2 b3 l4 u5) k2 ++ E5 ((C6 l u5).take k)).length) c4_)),(11,.v (.int .i64 ((D3 W l (Tree.mk n1 s2 b3 l4 u5) k2 + k:Nat):Int))),(100,.v (.slice aF ((C6 l u5).length) aG)),(101,.v (.int .i64 (((C6 l u5).length:Nat):Int))),aE,(103,.v (.bool (decide (((k:Nat):Int) < (((C6 l u5).length:Nat):Int)))))] dj jL fun pN em=>?_
 refine wp_seq (E2 em (b:=decide (((k:Nat):Int) < (((C6 l u5).length:Nat):Int))) kz (fun eo=>?_) (fun eo=>?_))
 ·
  have nr:=of_decide_eq_true eo
  refine wp_skip (A4 (wp_seq (wp_block (C1 [0,1,2,3] kz ?_))))
  obtain ⟨mu,mw,jM,ns,eu⟩:=Slots.get jJ (i:=k) (by omega)
  obtain ⟨⟨av,ah⟩,cA⟩:∃ x,(C6 l u5)[k]? = some x:=⟨_,List.getElem?_eq_getElem (by omega)⟩
  obtain ⟨⟨aN,aO,fJ,ev⟩,pO,pP⟩:=mr k av ah cA
  rw [fJ] at eu
  refine B1 (J7 em (t:=24) (A:=aF) (m:=((C6 l u5).length)) (q:=((k:Nat):Int)) (d:=104) kz (e:=55) (size:=2) (bytes:=32) kz jM rfl (by omega) fun pQ jN=>?_)
  let dl:Value:=.slice aN ah.length aO
  refine B1 (M7 jN (t:=55) (b:=mu) (o:=mw + k * 2) (d:=105) kz (cs:=[.int .u32 av,dl]) (v:=.agg #[.int .u32 av,dl]) kz (AtF.move eu (bB.trans aS).step immM (bB.trans aS).to').at_ fun pR jO=>?_)
  refine B1 (N6 dj jO (d:=19) (cs:=[.int .u32 0,.slice none 0 0]) kz fun pS pT pU nt nu bK jP jQ=>?_)
  refine B1 (I9 jP jQ (oi:=1) (cs:=[.int .u32 av,dl]) kz fun pV bL ew jR=>?_)
  refine B4 (A4 ?_)
  refine C1 [0,1,2,3] kz ?_
  refine B3 [0,1] [2,3] [(9,.v (.slice A_ ((D0 W l v (Tree.mk n1 s2 b3 l4 u5) 0).length) c_)),(10,.v (.slice A4_ ((C3 W l (Tree.mk n1 s2 b3 l4 u5) k2 ++ E5 ((C6 l u5).take k)).length) c4_)),(11,.v (.int .i64 ((D3 W l (Tree.mk n1 s2 b3 l4 u5) k2 + k:Nat):Int))),(19,.p 1 0),(100,.v (.slice aF ((C6 l u5).length) aG)),(101,.v (.int .i64 (((C6 l u5).length:Nat):Int))),aE,(107,.v (.slice aN ah.length aO))] ew jR fun pW jS=>?_
  have mx:=N4 ah
  refine B1 (D6 jS (f:=30) (vs:=[dl]) (d:=108) kz Tryz.call30 (GL _ _ ah (ev.move (((bB.trans aS).trans bK).trans bL).step immM (((bB.trans aS).trans bK).trans bL).to').le _) ?_)
  rintro e_ pX ⟨rfl,fw⟩
  refine ⟨_,rfl,fun pY jT=>?_⟩
  have ey:=ew.next_nil fw
  have cB:=ew.frN fw
  refine B3 [3] [] [(9,.v (.slice A_ ((D0 W l v (Tree.mk n1 s2 b3 l4 u5) 0).length) c_)),(10,.v (.slice A4_ ((C3 W l (Tree.mk n1 s2 b3 l4 u5) k2 ++ E5 ((C6 l u5).take k)).length) c4_)),(11,.v (.int .i64 ((D3 W l (Tree.mk n1 s2 b3 l4 u5) k2 + k:Nat):Int))),(19,.p 1 0),(20,.v (.slice aN ((C4 ah).length) aO)),(100,.v (.slice aF ((C6 l u5).length) aG)),(101,.v (.int .i64 (((C6 l u5).length:Nat):Int))),aE] ey jT fun pZ jU=>?_
  refine B4 (A4 ?_)
  refine C1 [0,1,2,3,4,5,6,7,8,9,10,11,12,13] kz ?_
  refine B3 [0,1,2,3] [4,5,6,7,8,9,10,11,12,13] [(9,.v (.slice A_ ((D0 W l v (Tree.mk n1 s2 b3 l4 u5) 0).length) c_)),(11,.v (.int .i64 ((D3 W l (Tree.mk n1 s2 b3 l4 u5) k2 + k:Nat):Int))),(20,.v (.slice aN ((C4 ah).length) aO)),(100,.v (.slice aF ((C6 l u5).length) aG)),(101,.v (.int .i64 (((C6 l u5).length:Nat):Int))),aE,(109,.v (.slice A4_ ((C3 W l (Tree.mk n1 s2 b3 l4 u5) k2 ++ E5 ((C6 l u5).take k)).length) c4_)),(112,.v (.int .u64 (IntKind.u64.wrap av)))] ey jU fun p5 jV=>?_
  have jW:IntKind.u64.wrap av = ((av.toNat:Nat):Int):=by simp only [G1,D5,P9,IntKind.wrap_i64,IntKind.wrap_i32]; omega
  have jX:=EnvOk.pick jV (ks:=[9,11,20,100,101,102,109,112]) (env':=[(9,.v (.slice A_ ((D0 W l v (Tree.mk n1 s2 b3 l4 u5) 0).length) c_)),(11,.v (.int .i64 ((D3 W l (Tree.mk n1 s2 b3 l4 u5) k2 + k:Nat):Int))),(20,.v (.slice aN ((C4 ah).length) aO)),(100,.v (.slice aF ((C6 l u5).length) aG)),(101,.v (.int .i64 (((C6 l u5).length:Nat):Int))),aE,(109,.v (.slice A4_ ((C3 W l (Tree.mk n1 s2 b3 l4 u5) k2 ++ E5 ((C6 l u5).take k)).length) c4_)),(112,.v (.int .u64 (IntKind.u64.wrap av)))]) kz
  let dp:Nat × SV:=(112,.v (.int .u64 ((av.toNat:Nat):Int)))
  have jY:=jX.cast (env':=[(9,.v (.slice A_ ((D0 W l v (Tree.mk n1 s2 b3 l4 u5) 0).length) c_)),(11,.v (.int .i64 ((D3 W l (Tree.mk n1 s2 b3 l4 u5) k2 + k:Nat):Int))),(20,.v (.slice aN ((C4 ah).length) aO)),(100,.v (.slice aF ((C6 l u5).length) aG)),(101,.v (.int .i64 (((C6 l u5).length:Nat):Int))),aE,(109,.v (.slice A4_ ((C3 W l (Tree.mk n1 s2 b3 l4 u5) k2 ++ E5 ((C6 l u5).take k)).length) c4_)),dp]) (by simp only [dp,jW]; try rfl)
  refine B1 (D6 jY (f:=28) (vs:=[.int .u64 ((av.toNat:Nat):Int)]) (d:=113) kz Tryz.call28 (CD av.toNat (by omega) _) ?_)
  rintro e_ p6 ⟨dx,dy,rfl,jZ,j0⟩
  refine ⟨_,rfl,fun p7 j1=>?_⟩
  obtain ⟨ez,cC⟩:=ey.frFresh j0 (B0 dx dy 5 (uv av.toNat)) (Nat.le_refl _) jZ
  refine B1 (N8 ez j1 (k:=1) (d:=114) (t:=22) (e:=5) (size:=1) (bytes:=1) (A:=A4_) (As:=dx) (m0:=((C3 W l (Tree.mk n1 s2 b3 l4 u5) k2 ++ E5 ((C6 l u5).take k)).length)) (c:=c4_) (m:=((uv av.toNat).length)) (cs:=dy) (xs:=(bc (C3 W l (Tree.mk n1 s2 b3 l4 u5) k2 ++ E5 ((C6 l u5).take k)))) (news:=bc (uv av.toNat)) kz kz rfl (S3 (ez.own 2 _ rfl) (Q8 _)) (U5 (ez.own 2 _ rfl)) (by have h_:=FV (l:=(C6 l u5)) (k + 1); rw [Eb cA] at h_; simp only [List.length_append] at h_ ⊢; omega) fun bM bN p8 p9 cE j2 j3=>?_)
  have j4:(⟨bM,bN,5,1,(C3 W l (Tree.mk n1 s2 b3 l4 u5) k2 ++ E5 ((C6 l u5).take k)).length + (uv av.toNat).length,bc (C3 W l (Tree.mk n1 s2 b3 l4 u5) k2 ++ E5 ((C6 l u5).take k)) ++ bc (uv av.toNat)⟩:Rw) = B0 bM bN 5 (C3 W l (Tree.mk n1 s2 b3 l4 u5) k2 ++ E5 ((C6 l u5).take k) ++ (uv av.toNat)):=K9 (rfl) rfl
  obtain ⟨fx,cG⟩:=j2.rowEq 1 [B0 A_ c_ 5 (D0 W l v (Tree.mk n1 s2 b3 l4 u5) 0),B0 bM bN 5 (C3 W l (Tree.mk n1 s2 b3 l4 u5) k2 ++ E5 ((C6 l u5).take k) ++ (uv av.toNat)),B0 dx dy 5 (uv av.toNat)] j4
  let fy:Nat × SV:=(113,.v (.slice dx ((uv av.toNat).length) dy))
  have j5:=EnvOk.pick j3 (ks:=[9,11,20,100,101,102,109,112,113,114]) (env':=[(9,.v (.slice A_ ((D0 W l v (Tree.mk n1 s2 b3 l4 u5) 0).length) c_)),(11,.v (.int .i64 ((D3 W l (Tree.mk n1 s2 b3 l4 u5) k2 + k:Nat):Int))),(20,.v (.slice aN ((C4 ah).length) aO)),(100,.v (.slice aF ((C6 l u5).length) aG)),(101,.v (.int .i64 (((C6 l u5).length:Nat):Int))),aE,(109,.v (.slice A4_ ((C3 W l (Tree.mk n1 s2 b3 l4 u5) k2 ++ E5 ((C6 l u5).take k)).length) c4_)),dp,fy,(114,.v (.slice bM ((C3 W l (Tree.mk n1 s2 b3 l4 u5) k2 ++ E5 ((C6 l u5).take k)).length + (uv av.toNat).length) bN))]) kz
  have j6:=j5.cast (env':=[(9,.v (.slice A_ ((D0 W l v (Tree.mk n1 s2 b3 l4 u5) 0).length) c_)),(11,.v (.int .i64 ((D3 W l (Tree.mk n1 s2 b3 l4 u5) k2 + k:Nat):Int))),(20,.v (.slice aN ((C4 ah).length) aO)),(100,.v (.slice aF ((C6 l u5).length) aG)),(101,.v (.int .i64 (((C6 l u5).length:Nat):Int))),aE,(109,.v (.slice A4_ ((C3 W l (Tree.mk n1 s2 b3 l4 u5) k2 ++ E5 ((C6 l u5).take k)).length) c4_)),dp,fy,(114,.v (.slice bM ((C3 W l (Tree.mk n1 s2 b3 l4 u5) k2 ++ E5 ((C6 l u5).take k) ++ (uv av.toNat)).length) bN))]) (by simp only [List.length_append,List.length_cons,List.length_nil,Nat.zero_add])
  refine B3 [6,7,8] [9,10,11,12,13] [(9,.v (.slice A_ ((D0 W l v (Tree.mk n1 s2 b3 l4 u5) 0).length) c_)),(11,.v (.int .i64 ((D3 W l (Tree.mk n1 s2 b3 l4 u5) k2 + k:Nat):Int))),(20,.v (.slice aN ((C4 ah).length) aO)),(100,.v (.slice aF ((C6 l u5).length) aG)),(101,.v (.int .i64 (((C6 l u5).length:Nat):Int))),aE,(114,.v (.slice bM ((C3 W l (Tree.mk n1 s2 b3 l4 u5) k2 ++ E5 ((C6 l u5).take k) ++ (uv av.toNat)).length) bN)),(117,.v (.int .u64 (IntKind.u64.wrap (((C4 ah).length:Nat):Int))))] fx j6 fun qa j7=>?_
  have j8:IntKind.u64.wrap (((C4 ah).length:Nat):Int) = (((C4 ah).length:Nat):Int):=by simp only [G1,D5,P9,IntKind.wrap_i64,IntKind.wrap_i32]; omega
  have j9:=EnvOk.pick j7 (ks:=[9,11,20,100,101,102,114,117]) (env':=[(9,.v (.slice A_ ((D0 W l v (Tree.mk n1 s2 b3 l4 u5) 0).length) c_)),(11,.v (.int .i64 ((D3 W l (Tree.mk n1 s2 b3 l4 u5) k2 + k:Nat):Int))),(20,.v (.slice aN ((C4 ah).length) aO)),(100,.v (.slice aF ((C6 l u5).length) aG)),(101,.v (.int .i64 (((C6 l u5).length:Nat):Int))),aE,(114,.v (.slice bM ((C3 W l (Tree.mk n1 s2 b3 l4 u5) k2 ++ E5 ((C6 l u5).take k) ++ (uv av.toNat)).length) bN)),(117,.v (.int .u64 (IntKind.u64.wrap (((C4 ah).length:Nat):Int))))]) kz
  have ka:=j9
  rw [j8] at ka
  refine B1 (D6 ka (f:=28) (vs:=[.int .u64 (((C4 ah).length:Nat):Int)]) (d:=118) kz Tryz.call28 (CD ((C4 ah).length) (by omega) _) ?_)
  rintro e_ qb ⟨dA,dB,rfl,kd,ke⟩
  refine ⟨_,rfl,fun qc kf=>?_⟩
  obtain ⟨eB,cH⟩:=fx.frFresh ke (B0 dA dB 5 (uv ((C4 ah).length))) (Nat.le_refl _) kd
  refine B1 (N8 eB kf (k:=1) (d:=119) (t:=22) (e:=5) (size:=1) (bytes:=1) (A:=bM) (As:=dA) (m0:=((C3 W l (Tree.mk n1 s2 b3 l4 u5) k2 ++ E5 ((C6 l u5).take k) ++ (uv av.toNat)).length)) (c:=bN) (m:=((uv ((C4 ah).length)).length)) (cs:=dB) (xs:=(bc (C3 W l (Tree.mk n1 s2 b3 l4 u5) k2 ++ E5 ((C6 l u5).take k) ++ (uv av.toNat)))) (news:=bc (uv ((C4 ah).length))) kz kz rfl (S3 (eB.own 3 _ rfl) (Q8 _)) (U5 (eB.own 3 _ rfl)) (by have h_:=FV (l:=(C6 l u5)) (k + 1); rw [Eb cA] at h_; simp only [List.length_append] at h_ ⊢; omega) fun bY bZ qd qe cI kg kh=>?_)
  have ki:(⟨bY,bZ,5,1,(C3 W l (Tree.mk n1 s2 b3 l4 u5) k2 ++ E5 ((C6 l u5).take k) ++ (uv av.toNat)).length + (uv ((C4 ah).length)).length,bc (C3 W l (Tree.mk n1 s2 b3 l4 u5) k2 ++ E5 ((C6 l u5).take k) ++ (uv av.toNat)) ++ bc (uv ((C4 ah).length))⟩:Rw) = B0 bY bZ 5 (C3 W l (Tree.mk n1 s2 b3 l4 u5) k2 ++ E5 ((C6 l u5).take k) ++ (uv av.toNat) ++ (uv ((C4 ah).length))):=K9 (rfl) rfl
  obtain ⟨fz,cJ⟩:=kg.rowEq 1 [B0 A_ c_ 5 (D0 W l v (Tree.mk n1 s2 b3 l4 u5) 0),B0 bY bZ 5 (C3 W l (Tree.mk n1 s2 b3 l4 u5) k2 ++ E5 ((C6 l u5).take k) ++ (uv av.toNat) ++ (uv ((C4 ah).length))),B0 dx dy 5 (uv av.toNat),B0 dA dB 5 (uv ((C4 ah).length))] ki
  have kj:=EnvOk.pick kh (ks:=[9,11,20,100,101,102,114,117,118,119]) (env':=[(9,.v (.slice A_ ((D0 W l v (Tree.mk n1 s2 b3 l4 u5) 0).length) c_)),(11,.v (.int .i64 ((D3 W l (Tree.mk n1 s2 b3 l4 u5) k2 + k:Nat):Int))),(20,.v (.slice aN ((C4 ah).length) aO)),(100,.v (.slice aF ((C6 l u5).length) aG)),(101,.v (.int .i64 (((C6 l u5).length:Nat):Int))),aE,(114,.v (.slice bM ((C3 W l (Tree.mk n1 s2 b3 l4 u5) k2 ++ E5 ((C6 l u5).take k) ++ (uv av.toNat)).length) bN)),(117,.v (.int .u64 (((C4 ah).length:Nat):Int))),(118,.v (.slice dA ((uv ((C4 ah).length)).length) dB)),(119,.v (.slice bY ((C3 W l (Tree.mk n1 s2 b3 l4 u5) k2 ++ E5 ((C6 l u5).take k) ++ (uv av.toNat)).length + (uv ((C4 ah).length)).length) bZ))]) kz
  have km:=kj.cast (env':=[(9,.v (.slice A_ ((D0 W l v (Tree.mk n1 s2 b3 l4 u5) 0).length) c_)),(11,.v (.int .i64 ((D3 W l (Tree.mk n1 s2 b3 l4 u5) k2 + k:Nat):Int))),(20,.v (.slice aN ((C4 ah).length) aO)),(100,.v (.slice aF ((C6 l u5).length) aG)),(101,.v (.int .i64 (((C6 l u5).length:Nat):Int))),aE,(114,.v (.slice bM ((C3 W l (Tree.mk n1 s2 b3 l4 u5) k2 ++ E5 ((C6 l u5).take k) ++ (uv av.toNat)).length) bN)),(117,.v (.int .u64 (((C4 ah).length:Nat):Int))),(118,.v (.slice dA ((uv ((C4 ah).length)).length) dB)),(119,.v (.slice bY ((C3 W l (Tree.mk n1 s2 b3 l4 u5) k2 ++ E5 ((C6 l u5).take k) ++ (uv av.toNat) ++ (uv ((C4 ah).length))).length) bZ))]) (by simp only [List.length_append,List.length_cons,List.length_nil,Nat.zero_add])
  refine B3 [11] [12,13] [(9,.v (.slice A_ ((D0 W l v (Tree.mk n1 s2 b3 l4 u5) 0).length) c_)),(11,.v (.int .i64 ((D3 W l (Tree.mk n1 s2 b3 l4 u5) k2 + k:Nat):Int))),(100,.v (.slice aF ((C6 l u5).length) aG)),(101,.v (.int .i64 (((C6 l u5).length:Nat):Int))),aE,(119,.v (.slice bY ((C3 W l (Tree.mk n1 s2 b3 l4 u5) k2 ++ E5 ((C6 l u5).take k) ++ (uv av.toNat) ++ (uv ((C4 ah).length))).length) bZ)),(120,.v (.slice aN ((C4 ah).length) aO))] fz km fun qf ko=>?_
  refine B1 (N8 fz ko (k:=1) (d:=121) (t:=22) (e:=5) (size:=1) (bytes:=1) (A:=bY) (As:=aN) (m0:=((C3 W l (Tree.mk n1 s2 b3 l4 u5) k2 ++ E5 ((C6 l u5).take k) ++ (uv av.toNat) ++ (uv ((C4 ah).length))).length)) (c:=bZ) (m:=((C4 ah).length)) (cs:=aO) (xs:=(bc (C3 W l (Tree.mk n1 s2 b3 l4 u5) k2 ++ E5 ((C6 l u5).take k) ++ (uv av.toNat) ++ (uv ((C4 ah).length))))) (news:=bc (C4 ah)) kz kz rfl ((ev.take 32767).move ((((((((((bB.trans aS).trans bK).trans bL).trans cB).trans cC).trans cE).trans cG).trans cH).trans cI).trans cJ).step immM ((((((((((bB.trans aS).trans bK).trans bL).trans cB).trans cC).trans cE).trans cG).trans cH).trans cI).trans cJ).to').src ((ev.take 32767).move ((((((((((bB.trans aS).trans bK).trans bL).trans cB).trans cC).trans cE).trans cG).trans cH).trans cI).trans cJ).step immM ((((((((((bB.trans aS).trans bK).trans bL).trans cB).trans cC).trans cE).trans cG).trans cH).trans cI).trans cJ).to').cap (by have h_:=FV (l:=(C6 l u5)) (k + 1); rw [Eb cA] at h_; simp only [List.length_append] at h_ ⊢; omega) fun aV aW qg qh kp kq ku=>?_)
  have kv:(⟨aV,aW,5,1,(C3 W l (Tree.mk n1 s2 b3 l4 u5) k2 ++ E5 ((C6 l u5).take k) ++ (uv av.toNat) ++ (uv ((C4 ah).length))).length + (C4 ah).length,bc (C3 W l (Tree.mk n1 s2 b3 l4 u5) k2 ++ E5 ((C6 l u5).take k) ++ (uv av.toNat) ++ (uv ((C4 ah).length))) ++ bc (C4 ah)⟩:Rw) = B0 aV aW 5 (C3 W l (Tree.mk n1 s2 b3 l4 u5) k2 ++ E5 ((C6 l u5).take k) ++ (uv av.toNat) ++ (uv ((C4 ah).length)) ++ (C4 ah)):=K9 (rfl) rfl
  obtain ⟨dq,kw⟩:=kq.rowEq 1 [B0 A_ c_ 5 (D0 W l v (Tree.mk n1 s2 b3 l4 u5) 0),B0 aV aW 5 (C3 W l (Tree.mk n1 s2 b3 l4 u5) k2 ++ E5 ((C6 l u5).take k) ++ (uv av.toNat) ++ (uv ((C4 ah).length)) ++ (C4 ah)),B0 dx dy 5 (uv av.toNat),B0 dA dB 5 (uv ((C4 ah).length))] kv
  have ky:=EnvOk.pick ku (ks:=[9,11,100,101,102,119,120,121]) (env':=[(9,.v (.slice A_ ((D0 W l v (Tree.mk n1 s2 b3 l4 u5) 0).length) c_)),(11,.v (.int .i64 ((D3 W l (Tree.mk n1 s2 b3 l4 u5) k2 + k:Nat):Int))),(100,.v (.slice aF ((C6 l u5).length) aG)),(101,.v (.int .i64 (((C6 l u5).length:Nat):Int))),aE,(119,.v (.slice bY ((C3 W l (Tree.mk n1 s2 b3 l4 u5) k2 ++ E5 ((C6 l u5).take k) ++ (uv av.toNat) ++ (uv ((C4 ah).length))).length) bZ)),(120,.v (.slice aN ((C4 ah).length) aO)),(121,.v (.slice aV ((C3 W l (Tree.mk n1 s2 b3 l4 u5) k2 ++ E5 ((C6 l u5).take k) ++ (uv av.toNat) ++ (uv ((C4 ah).length))).length + (C4 ah).length) aW))]) kz
  have kA:=ky.cast (env':=[(9,.v (.slice A_ ((D0 W l v (Tree.mk n1 s2 b3 l4 u5) 0).length) c_)),(11,.v (.int .i64 ((D3 W l (Tree.mk n1 s2 b3 l4 u5) k2 + k:Nat):Int))),(100,.v (.slice aF ((C6 l u5).length) aG)),(101,.v (.int .i64 (((C6 l u5).length:Nat):Int))),aE,(119,.v (.slice bY ((C3 W l (Tree.mk n1 s2 b3 l4 u5) k2 ++ E5 ((C6 l u5).take k) ++ (uv av.toNat) ++ (uv ((C4 ah).length))).length) bZ)),(120,.v (.slice aN ((C4 ah).length) aO)),(121,.v (.slice aV ((C3 W l (Tree.mk n1 s2 b3 l4 u5) k2 ++ E5 ((C6 l u5).take k) ++ (uv av.toNat) ++ (uv ((C4 ah).length)) ++ (C4 ah)).length) aW))]) (by simp only [List.length_append,List.length_cons,List.length_nil,Nat.zero_add])
  refine B3 [13] [] [(9,.v (.slice A_ ((D0 W l v (Tree.mk n1 s2 b3 l4 u5) 0).length) c_)),(10,.v (.slice aV ((C3 W l (Tree.mk n1 s2 b3 l4 u5) k2 ++ E5 ((C6 l u5).take k) ++ (uv av.toNat) ++ (uv ((C4 ah).length)) ++ (C4 ah)).length) aW)),(11,.v (.int .i64 ((D3 W l (Tree.mk n1 s2 b3 l4 u5) k2 + k:Nat):Int))),(100,.v (.slice aF ((C6 l u5).length) aG)),(101,.v (.int .i64 (((C6 l u5).length:Nat):Int))),aE] dq kA fun qi kB=>?_
  refine B4 (A4 ?_)
  refine E4 [0,1,2] kz ?_
  refine B3 [0,1,2] [] [(9,.v (.slice A_ ((D0 W l v (Tree.mk n1 s2 b3 l4 u5) 0).length) c_)),(10,.v (.slice aV ((C3 W l (Tree.mk n1 s2 b3 l4 u5) k2 ++ E5 ((C6 l u5).take k) ++ (uv av.toNat) ++ (uv ((C4 ah).length)) ++ (C4 ah)).length) aW)),(11,.v (.int .i64 (IntKind.i64.wrap (((D3 W l (Tree.mk n1 s2 b3 l4 u5) k2 + k:Nat):Int) + 1)))),(100,.v (.slice aF ((C6 l u5).length) aG)),(101,.v (.int .i64 (((C6 l u5).length:Nat):Int))),aE] dq kB fun qj kC=>?_
  refine B4 (H7 (A4 (E4 [0,1] kz ?_)))
  refine B3 [0,1] [] [(9,.v (.slice A_ ((D0 W l v (Tree.mk n1 s2 b3 l4 u5) 0).length) c_)),(10,.v (.slice aV ((C3 W l (Tree.mk n1 s2 b3 l4 u5) k2 ++ E5 ((C6 l u5).take k) ++ (uv av.toNat) ++ (uv ((C4 ah).length)) ++ (C4 ah)).length) aW)),(11,.v (.int .i64 (IntKind.i64.wrap (((D3 W l (Tree.mk n1 s2 b3 l4 u5) k2 + k:Nat):Int) + 1)))),(100,.v (.slice aF ((C6 l u5).length) aG)),(101,.v (.int .i64 (((C6 l u5).length:Nat):Int))),(102,.v (.int .i64 (IntKind.i64.wrap (((k:Nat):Int) + 1))))] dq kC fun qk kD=>?_
  refine B4 (A4 ?_)
  obtain ⟨dr,kE,kF⟩:=dq.cutB kD 1 [aL] [(9,.v (.slice A_ ((D0 W l v (Tree.mk n1 s2 b3 l4 u5) 0).length) c_)),(10,.v (.slice aV ((C3 W l (Tree.mk n1 s2 b3 l4 u5) k2 ++ E5 ((C6 l u5).take k) ++ (uv av.toNat) ++ (uv ((C4 ah).length)) ++ (C4 ah)).length) aW)),(11,.v (.int .i64 (IntKind.i64.wrap (((D3 W l (Tree.mk n1 s2 b3 l4 u5) k2 + k:Nat):Int) + 1)))),(100,.v (.slice aF ((C6 l u5).length) aG)),(101,.v (.int .i64 (((C6 l u5).length:Nat):Int))),(102,.v (.int .i64 (IntKind.i64.wrap (((k:Nat):Int) + 1))))]
  obtain ⟨kG,kH⟩:=kE.cutR 2 [B0 A_ c_ 5 (D0 W l v (Tree.mk n1 s2 b3 l4 u5) 0),B0 aV aW 5 (C3 W l (Tree.mk n1 s2 b3 l4 u5) k2 ++ E5 ((C6 l u5).take k) ++ (uv av.toNat) ++ (uv ((C4 ah).length)) ++ (C4 ah))]
  have fA:(C3 W l (Tree.mk n1 s2 b3 l4 u5) k2 ++ E5 ((C6 l u5).take k) ++ (uv av.toNat) ++ (uv ((C4 ah).length)) ++ (C4 ah)) = (C3 W l (Tree.mk n1 s2 b3 l4 u5) k2 ++ E5 ((C6 l u5).take (k + 1))):=by rw [Eb cA]; simp only [List.append_assoc]
  have kI:=congrArg (B0 aV aW 5) fA
  obtain ⟨kJ,kK⟩:=kG.rowEq 1 [B0 A_ c_ 5 (D0 W l v (Tree.mk n1 s2 b3 l4 u5) 0),B0 aV aW 5 (C3 W l (Tree.mk n1 s2 b3 l4 u5) k2 ++ E5 ((C6 l u5).take (k + 1)))] kI
  rw [fA] at dr
  have kM:IntKind.i64.wrap (((k:Nat):Int) + 1) = ((k + 1:Nat):Int):=N0 (by omega)
  rw [kM] at dr
  have kN:IntKind.i64.wrap (((D3 W l (Tree.mk n1 s2 b3 l4 u5) k2 + k:Nat):Int) + 1) = ((D3 W l (Tree.mk n1 s2 b3 l4 u5) k2 + (k + 1):Nat):Int):=by rw [wrap_i64 (by omega) (by omega)]; omega
  rw [kN] at dr
  exact ⟨(C6 l u5).length - (k + 1),by omega,k + 1,aV,aW,rfl,by omega,dr.pk,kJ,((((((((((((((aS.trans bK).trans bL).trans cB).trans cC).trans cE).trans cG).trans cH).trans cI).trans cJ).trans kp).trans kw).trans kF).trans kH).trans kK)⟩
 have nv:=of_decide_eq_false eo
 refine wp_exit (F2 (F2 (I7 (A4 (C1 [0,1,2,3,4,5,6,7] kz ?_)))))
 refine B3 [0,1,2] [3,4,5,6,7] [(10,.v (.slice A4_ ((C3 W l (Tree.mk n1 s2 b3 l4 u5) k2 ++ E5 ((C6 l u5).take k)).length) c4_)),(125,.v (.slice A_ ((D0 W l v (Tree.mk n1 s2 b3 l4 u5) 0).length) c_)),(127,.v (.int .u64 (IntKind.u64.wrap ((D3 W l (Tree.mk n1 s2 b3 l4 u5) k2 + k:Nat):Int))))] dj em fun ql kO=>?_
 have kP:IntKind.u64.wrap ((D3 W l (Tree.mk n1 s2 b3 l4 u5) k2 + k:Nat):Int) = ((D3 W l (Tree.mk n1 s2 b3 l4 u5) k2 + k:Nat):Int):=by simp only [G1,D5,P9,IntKind.wrap_i64,IntKind.wrap_i32]; omega
 have kQ:=EnvOk.pick kO (ks:=[10,125,127]) (env':=[(10,.v (.slice A4_ ((C3 W l (Tree.mk n1 s2 b3 l4 u5) k2 ++ E5 ((C6 l u5).take k)).length) c4_)),(125,.v (.slice A_ ((D0 W l v (Tree.mk n1 s2 b3 l4 u5) 0).length) c_)),(127,.v (.int .u64 (IntKind.u64.wrap ((D3 W l (Tree.mk n1 s2 b3 l4 u5) k2 + k:Nat):Int))))]) kz
 have kR:=kQ
 rw [kP] at kR
 refine B1 (D6 kR (f:=28) (vs:=[.int .u64 ((D3 W l (Tree.mk n1 s2 b3 l4 u5) k2 + k:Nat):Int)]) (d:=128) kz Tryz.call28 (CD (D3 W l (Tree.mk n1 s2 b3 l4 u5) k2 + k) (by omega) _) ?_)
 rintro e_ qm ⟨dC,dD,rfl,kS,kU⟩
 refine ⟨_,rfl,fun qn kV=>?_⟩
 obtain ⟨eC,nw⟩:=dj.frFresh kU (B0 dC dD 5 (uv (D3 W l (Tree.mk n1 s2 b3 l4 u5) k2 + k))) (Nat.le_refl _) kS
 refine B1 (N8 eC kV (k:=0) (d:=129) (t:=22) (e:=5) (size:=1) (bytes:=1) (A:=A_) (As:=dC) (m0:=((D0 W l v (Tree.mk n1 s2 b3 l4 u5) 0).length)) (c:=c_) (m:=((uv (D3 W l (Tree.mk n1 s2 b3 l4 u5) k2 + k)).length)) (cs:=dD) (xs:=(bc (D0 W l v (Tree.mk n1 s2 b3 l4 u5) 0))) (news:=bc (uv (D3 W l (Tree.mk n1 s2 b3 l4 u5) k2 + k))) kz kz rfl (S3 (eC.own 2 _ rfl) (Q8 _)) (U5 (eC.own 2 _ rfl)) (by have hkk3:k = (C6 l u5).length:=(by omega); subst hkk3; subst hkk2; simp only [List.length_append,List.take_length] at *; omega) fun b8 cd qo qp nx kW kX=>?_)
 have kY:(⟨b8,cd,5,1,(D0 W l v (Tree.mk n1 s2 b3 l4 u5) 0).length + (uv (D3 W l (Tree.mk n1 s2 b3 l4 u5) k2 + k)).length,bc (D0 W l v (Tree.mk n1 s2 b3 l4 u5) 0) ++ bc (uv (D3 W l (Tree.mk n1 s2 b3 l4 u5) k2 + k))⟩:Rw) = B0 b8 cd 5 (D0 W l v (Tree.mk n1 s2 b3 l4 u5) 0 ++ (uv (D3 W l (Tree.mk n1 s2 b3 l4 u5) k2 + k))):=K9 (rfl) rfl
 obtain ⟨dt,ny⟩:=kW.rowEq 0 [B0 b8 cd 5 (D0 W l v (Tree.mk n1 s2 b3 l4 u5) 0 ++ (uv (D3 W l (Tree.mk n1 s2 b3 l4 u5) k2 + k))),B0 A4_ c4_ 5 (C3 W l (Tree.mk n1 s2 b3 l4 u5) k2 ++ E5 ((C6 l u5).take k)),B0 dC dD 5 (uv (D3 W l (Tree.mk n1 s2 b3 l4 u5) k2 + k))] kY
 have kZ:=EnvOk.pick kX (ks:=[10,125,127,128,129]) (env':=[(10,.v (.slice A4_ ((C3 W l (Tree.mk n1 s2 b3 l4 u5) k2 ++ E5 ((C6 l u5).take k)).length) c4_)),(125,.v (.slice A_ ((D0 W l v (Tree.mk n1 s2 b3 l4 u5) 0).length) c_)),(127,.v (.int .u64 ((D3 W l (Tree.mk n1 s2 b3 l4 u5) k2 + k:Nat):Int))),(128,.v (.slice dC ((uv (D3 W l (Tree.mk n1 s2 b3 l4 u5) k2 + k)).length) dD)),(129,.v (.slice b8 ((D0 W l v (Tree.mk n1 s2 b3 l4 u5) 0).length + (uv (D3 W l (Tree.mk n1 s2 b3 l4 u5) k2 + k)).length) cd))]) kz
 have k7:=kZ.cast (env':=[(10,.v (.slice A4_ ((C3 W l (Tree.mk n1 s2 b3 l4 u5) k2 ++ E5 ((C6 l u5).take k)).length) c4_)),(125,.v (.slice A_ ((D0 W l v (Tree.mk n1 s2 b3 l4 u5) 0).length) c_)),(127,.v (.int .u64 ((D3 W l (Tree.mk n1 s2 b3 l4 u5) k2 + k:Nat):Int))),(128,.v (.slice dC ((uv (D3 W l (Tree.mk n1 s2 b3 l4 u5) k2 + k)).length) dD)),(129,.v (.slice b8 ((D0 W l v (Tree.mk n1 s2 b3 l4 u5) 0 ++ (uv (D3 W l (Tree.mk n1 s2 b3 l4 u5) k2 + k))).length) cd))]) (by simp only [List.length_append,List.length_cons,List.length_nil,Nat.zero_add])
 refine B3 [5] [6,7] [(129,.v (.slice b8 ((D0 W l v (Tree.mk n1 s2 b3 l4 u5) 0 ++ (uv (D3 W l (Tree.mk n1 s2 b3 l4 u5) k2 + k))).length) cd)),(130,.v (.slice A4_ ((C3 W l (Tree.mk n1 s2 b3 l4 u5) k2 ++ E5 ((C6 l u5).take k)).length) c4_))] dt k7 fun qq la=>?_
 refine B1 (N8 dt la (k:=0) (d:=131) (t:=22) (e:=5) (size:=1) (bytes:=1) (A:=b8) (As:=A4_) (m0:=((D0 W l v (Tree.mk n1 s2 b3 l4 u5) 0 ++ (uv (D3 W l (Tree.mk n1 s2 b3 l4 u5) k2 + k))).length)) (c:=cd) (m:=((C3 W l (Tree.mk n1 s2 b3 l4 u5) k2 ++ E5 ((C6 l u5).take k)).length)) (cs:=c4_) (xs:=(bc (D0 W l v (Tree.mk n1 s2 b3 l4 u5) 0 ++ (uv (D3 W l (Tree.mk n1 s2 b3 l4 u5) k2 + k))))) (news:=bc (C3 W l (Tree.mk n1 s2 b3 l4 u5) k2 ++ E5 ((C6 l u5).take k))) kz kz rfl (S3 (dt.own 1 _ rfl) (Q8 _)) (U5 (dt.own 1 _ rfl)) (by have hkk3:k = (C6 l u5).length:=(by omega); subst hkk3; subst hkk2; simp only [List.length_append,List.take_length] at *; omega) fun cN cO qr qs nz lb lc=>?_)
 have ld:(⟨cN,cO,5,1,(D0 W l v (Tree.mk n1 s2 b3 l4 u5) 0 ++ (uv (D3 W l (Tree.mk n1 s2 b3 l4 u5) k2 + k))).length + (C3 W l (Tree.mk n1 s2 b3 l4 u5) k2 ++ E5 ((C6 l u5).take k)).length,bc (D0 W l v (Tree.mk n1 s2 b3 l4 u5) 0 ++ (uv (D3 W l (Tree.mk n1 s2 b3 l4 u5) k2 + k))) ++ bc (C3 W l (Tree.mk n1 s2 b3 l4 u5) k2 ++ E5 ((C6 l u5).take k))⟩:Rw) = B0 cN cO 5 (D0 W l v (Tree.mk n1 s2 b3 l4 u5) 0 ++ (uv (D3 W l (Tree.mk n1 s2 b3 l4 u5) k2 + k)) ++ (C3 W l (Tree.mk n1 s2 b3 l4 u5) k2 ++ E5 ((C6 l u5).take k))):=K9 (rfl) rfl
 obtain ⟨eD,nA⟩:=lb.rowEq 0 [B0 cN cO 5 (D0 W l v (Tree.mk n1 s2 b3 l4 u5) 0 ++ (uv (D3 W l (Tree.mk n1 s2 b3 l4 u5) k2 + k)) ++ (C3 W l (Tree.mk n1 s2 b3 l4 u5) k2 ++ E5 ((C6 l u5).take k))),B0 A4_ c4_ 5 (C3 W l (Tree.mk n1 s2 b3 l4 u5) k2 ++ E5 ((C6 l u5).take k)),B0 dC dD 5 (uv (D3 W l (Tree.mk n1 s2 b3 l4 u5) k2 + k))] ld
 have lf:=EnvOk.pick lc (ks:=[129,130,131]) (env':=[(129,.v (.slice b8 ((D0 W l v (Tree.mk n1 s2 b3 l4 u5) 0 ++ (uv (D3 W l (Tree.mk n1 s2 b3 l4 u5) k2 + k))).length) cd)),(130,.v (.slice A4_ ((C3 W l (Tree.mk n1 s2 b3 l4 u5) k2 ++ E5 ((C6 l u5).take k)).length) c4_)),(131,.v (.slice cN ((D0 W l v (Tree.mk n1 s2 b3 l4 u5) 0 ++ (uv (D3 W l (Tree.mk n1 s2 b3 l4 u5) k2 + k))).length + (C3 W l (Tree.mk n1 s2 b3 l4 u5) k2 ++ E5 ((C6 l u5).take k)).length) cO))]) kz
 have lg:=lf.cast (env':=[(129,.v (.slice b8 ((D0 W l v (Tree.mk n1 s2 b3 l4 u5) 0 ++ (uv (D3 W l (Tree.mk n1 s2 b3 l4 u5) k2 + k))).length) cd)),(130,.v (.slice A4_ ((C3 W l (Tree.mk n1 s2 b3 l4 u5) k2 ++ E5 ((C6 l u5).take k)).length) c4_)),(131,.v (.slice cN ((D0 W l v (Tree.mk n1 s2 b3 l4 u5) 0 ++ (uv (D3 W l (Tree.mk n1 s2 b3 l4 u5) k2 + k)) ++ (C3 W l (Tree.mk n1 s2 b3 l4 u5) k2 ++ E5 ((C6 l u5).take k))).length) cO))]) (by simp only [List.length_append,List.length_cons,List.length_nil,Nat.zero_add])
 refine B3 [7] [] [(8,.v (.slice cN ((D0 W l v (Tree.mk n1 s2 b3 l4 u5) 0 ++ (uv (D3 W l (Tree.mk n1 s2 b3 l4 u5) k2 + k)) ++ (C3 W l (Tree.mk n1 s2 b3 l4 u5) k2 ++ E5 ((C6 l u5).take k))).length) cO))] eD lg fun qt lh=>?_
 refine B4 (A4 ?_)
 refine wp_ret (D1 lh eD.cells (v:=.slice cN ((D0 W l v (Tree.mk n1 s2 b3 l4 u5) 0 ++ (uv (D3 W l (Tree.mk n1 s2 b3 l4 u5) k2 + k)) ++ (C3 W l (Tree.mk n1 s2 b3 l4 u5) k2 ++ E5 ((C6 l u5).take k))).length) cO) kz ?_)
 have hkk3:k = (C6 l u5).length:=by omega
 exact N3 eD (k:=0) rfl (by rw [show flex = true by simpa using cV,Iq,hkk3,hkk2,List.take_length])
theorem GO:∀ d,GM d
 | 0=>fun A c l v flex ct t w F hl hd ht hr=>JC (fun _ _=>[]) A c l v flex ct t w F (fun cf f ct t w F hm hf ht hr=>by
   obtain ⟨i,hi⟩:=List.mem_iff_getElem?.1 hm
   have h:=DY hi
   obtain ⟨k,x1,x2,x3,x4,x5,x6,l,A,c,xs,rfl,_⟩:=hf.open_
   rw [DZ] at h; omega) hl ht hr
 | d + 1=>fun A c l v flex ct t w F hl hd ht hr=>JC (fun f t=>Q9 d f v flex t) A c l v flex ct t w F (fun cf f ct t w F hm hf ht hr=>NI (GO d) cf f v flex ct t w F hf (by
   obtain ⟨i,hi⟩:=List.mem_iff_getElem?.1 hm
   have h:=DY hi
   obtain ⟨k,x1,x2,x3,x4,x5,x6,l,A,c,xs,rfl,_⟩:=hf.open_
   rw [DZ] at h
   show depths l ≤ d
   omega) ht hr) hl ht hr
theorem NK {d:Nat} (A:Option Addr) (c:Nat) (l:List Fld) (x v:Int) (ct:List Value) (t:Tree) (w:World) (F:Nat → Nat → Prop) (hl:FldsR w F A c l) (hd:depths l ≤ d) (ht:TreeR w F ct t) (hroom:(F7 d l x v t).length ≤ 1099511627776) :
  Calls Tryz.prog 8 #[.agg #[.slice A l.length c,.int .i64 x],.int .i64 v,.agg ct.toArray] w (W2 w 5 (F7 d l x v t)):=by
 obtain ⟨xfs,h1,h2⟩:=hl.ex
 have hsm:=h1.small
 obtain ⟨n1,s2,b3,l4,u5,A6,c7,A8,c9,aN,aO,aS,rfl,rfl,aT,aU,bj,bk⟩:=ht.open_
 have aP:=aT.small
 have aQ:=aU.small
 refine enter (n:=21) Tryz.func8 rfl Tryz.ntmps8 kz fun a hE=>?_
 have hW:=WOk.start w C7
 refine C1 [0,1,2] kz ?_
 let ak:Value:=.slice A l.length c
 refine B1 (M2 hW hE (d:=3) (cs:=[ak,.int .i64 x]) kz fun bn bo bp aV aW aX ar au=>?_)
 let ag:Value:=.slice A6 s2.length c7
 let ah:Value:=.slice A8 l4.length c9
 let ai:Value:=.slice aN u5.length aO
 refine B1 (M2 ar au (d:=5) (cs:=[.int .i64 n1,ag,.bool b3,ah,ai]) kz fun bq bt bu aY aZ ba ab av=>?_)
 let aj:Nat × SV:=(1,.v (.int .i64 v))
 refine B3 [2] [] [aj,(3,.p 0 0),(5,.p 1 0)] ab av fun bw aw=>?_
 refine B4 (A4 ?_)
 refine C1 [0,1,2,3,4,5,6,7,8,9,10,11,12,13,14] kz ?_
 let ae:Nat × SV:=(8,.v (.slice A l.length c))
 let af:Nat × SV:=(9,.v (.int .i64 v))
 refine B3 [0,1,2,3,4,5,6] [7,8,9,10,11,12,13,14] [aj,(3,.p 0 0),(5,.p 1 0),ae,af,(13,.v (.bool (decide (x ≥ 0))))] ab aw fun bx ap=>?_
 let al:Nat × SV:=(19,.v (.agg #[.int .i64 n1,ag,.bool b3,ah,ai]))
 let aR:Value:=.agg #[.int .i64 n1,.slice A6 s2.length c7,.bool b3,.slice A8 l4.length c9,.slice aN u5.length aO]
 refine (Bool.eq_false_or_eq_true (decide (x ≥ 0))).elim (fun ac=>?_) (fun ac=>?_)
 ·
  have bd:=of_decide_eq_true ac
  have ax:=ap
  rw [ac] at ax
  refine B3 [7,8,9,10,11,12] [13,14] [ae,af,(18,.v (.bool (decide (v ≥ x)))),al] ab ax fun bz ay=>?_
  refine B1 (D6 ay (f:=16) (vs:=[ak,.int .i64 v,.bool (decide (v ≥ x)),.agg #[.int .i64 n1,ag,.bool b3,ah,ai]]) (d:=20) kz Tryz.call16 (GO _ _ _ l v (decide (v ≥ x)) _ (Tree.mk n1 s2 b3 l4 u5) _ _ ⟨xfs,(h1.move ab.step B2 ab.imm),(fun i_ x_ h_=>((h2 i_ x_ h_).move ab.step B2 ab.imm))⟩ hd (ht.move ab.step B2 ab.imm) (by simpa [F7,ac] using hroom)) ?_)
  rintro e_ bA ⟨az,aA,rfl,aB,aC⟩
  refine ⟨_,rfl,fun bB aD=>?_⟩
  obtain ⟨am,bf⟩:=ab.frFresh aC (B0 az aA 5 (D4 d l v (decide (v ≥ x)) (Tree.mk n1 s2 b3 l4 u5))) (Nat.le_refl _) aB
  refine B3 [14] [] [(6,.v (.slice az ((D4 d l v (decide (v ≥ x)) (Tree.mk n1 s2 b3 l4 u5)).length) aA))] am aD fun bC aE=>?_
  refine B4 (A4 ?_)
  refine wp_ret (D1 aE am.cells (v:=.slice az ((D4 d l v (decide (v ≥ x)) (Tree.mk n1 s2 b3 l4 u5)).length) aA) kz ?_)
  exact N3 am (k:=0) rfl (by simp [F7,ac])
 have bg:=of_decide_eq_false ac
 have aF:=ap
 rw [ac] at aF
 refine B3 [7,8,9,10,11,12] [13,14] [ae,af,(18,.v (.bool false)),al] ab aF fun bD aG=>?_
 refine B1 (D6 aG (f:=16) (vs:=[ak,.int .i64 v,.bool false,.agg #[.int .i64 n1,ag,.bool b3,ah,ai]]) (d:=20) kz Tryz.call16 (GO _ _ _ l v false _ (Tree.mk n1 s2 b3 l4 u5) _ _ ⟨xfs,(h1.move ab.step B2 ab.imm),(fun i_ x_ h_=>((h2 i_ x_ h_).move ab.step B2 ab.imm))⟩ hd (ht.move ab.step B2 ab.imm) (by simpa [F7,ac] using hroom)) ?_)
 rintro e_ bE ⟨aH,aI,rfl,aJ,aK⟩
 refine ⟨_,rfl,fun bF aL=>?_⟩
 obtain ⟨ao,bh⟩:=ab.frFresh aK (B0 aH aI 5 (D4 d l v false (Tree.mk n1 s2 b3 l4 u5))) (Nat.le_refl _) aJ
 refine B3 [14] [] [(6,.v (.slice aH ((D4 d l v false (Tree.mk n1 s2 b3 l4 u5)).length) aI))] ao aL fun bG aM=>?_
 refine B4 (A4 ?_)
 refine wp_ret (D1 aM ao.cells (v:=.slice aH ((D4 d l v false (Tree.mk n1 s2 b3 l4 u5)).length) aI) kz ?_)
 exact N3 ao (k:=0) rfl (by simp [F7,ac])
def sProduceResponseF:List Fld:=[(Fld.mk 11 0 (-1) (-1) (-1) 0 10 [(Fld.mk 8 0 12 (-1) (-1) 0 0 []),(Fld.mk 7 13 (-1) (-1) (-1) 0 0 []),(Fld.mk 11 0 (-1) (-1) (-1) 0 10 [(Fld.mk 3 0 (-1) (-1) (-1) 0 0 []),(Fld.mk 2 0 (-1) (-1) (-1) 0 0 []),(Fld.mk 4 0 (-1) (-1) (-1) 0 0 []),(Fld.mk 4 2 (-1) (-1) (-1) (-1) 0 []),(Fld.mk 4 5 (-1) (-1) (-1) (-1) 0 []),(Fld.mk 11 8 (-1) (-1) (-1) 0 10 [(Fld.mk 3 0 (-1) (-1) (-1) 0 0 []),(Fld.mk 8 0 (-1) 0 (-1) 0 0 [])]),(Fld.mk 8 8 (-1) 8 (-1) 0 0 []),(Fld.mk 10 0 (-1) (-1) 0 0 0 [(Fld.mk 3 0 (-1) (-1) (-1) (-1) 0 []),(Fld.mk 3 0 (-1) (-1) (-1) (-1) 0 [])])])]),(Fld.mk 3 1 (-1) (-1) (-1) 0 0 []),(Fld.mk 11 0 (-1) (-1) 0 0 10 [(Fld.mk 3 0 (-1) (-1) (-1) 0 0 []),(Fld.mk 8 0 (-1) (-1) (-1) 0 0 []),(Fld.mk 3 0 (-1) (-1) (-1) 0 0 []),(Fld.mk 8 0 (-1) 0 (-1) 0 0 [])])]
def F8:Int:=9
abbrev z0 :=(Fld.mk 11 0 (-1) (-1) (-1) 0 10 [(Fld.mk 3 0 (-1) (-1) (-1) 0 0 []),(Fld.mk 2 0 (-1) (-1) (-1) 0 0 []),(Fld.mk 4 0 (-1) (-1) (-1) 0 0 []),(Fld.mk 4 2 (-1) (-1) (-1) (-1) 0 []),(Fld.mk 4 5 (-1) (-1) (-1) (-1) 0 []),(Fld.mk 11 8 (-1) (-1) (-1) 0 10 [(Fld.mk 3 0 (-1) (-1) (-1) 0 0 []),(Fld.mk 8 0 (-1) 0 (-1) 0 0 [])]),(Fld.mk 8 8 (-1) 8 (-1) 0 0 []),(Fld.mk 10 0 (-1) (-1) 0 0 0 [(Fld.mk 3 0 (-1) (-1) (-1) (-1) 0 []),(Fld.mk 3 0 (-1) (-1) (-1) (-1) 0 [])])])
abbrev z7 :=(Fld.mk 3 0 (-1) (-1) (-1) (-1) 0 [])
abbrev z8 :=(Fld.mk 11 8 (-1) (-1) (-1) 0 10 [(Fld.mk 3 0 (-1) (-1) (-1) 0 0 []),(Fld.mk 8 0 (-1) 0 (-1) 0 0 [])])
theorem NL (w:World) (F:Nat → Nat → Prop):Calls Tryz.prog 6 #[] w (Mq w F sProduceResponseF F8):=by
 refine enter (n:=8) Tryz.func6 rfl Tryz.ntmps6 kz fun a hE=>?_
 have hW:=WOk.start w C7
 refine C1 [0] kz ?_
 let ae:Value:=.slice none 0 0
 let ac:Value:=.int .i64 0
 refine B1 (N6 hW hE (d:=0) (cs:=[ae,ac]) kz fun b1 a2 w3 hb4 hz5 hF6 hW7 hE8=>?_)
 refine B4 (A4 ?_)
 refine C1 [0,1,2,3,4,5,6,7] kz ?_
 refine B1 (R1 hE8 (f:=14) (vs:=[]) (d:=1) (n':=6) kz Tryz.call14 Tryz.func14 rfl Tryz.ntmps14 kz fun a9 bo=>?_)
 refine B9 [] hW7 bo fun cX bp=>?_
 refine C1 [0,1,2,3,4,5] kz ?_
 let af:Value:=.int .i64 8
 let ab:Value:=.int .i64 (-1)
 let aF:Nat × SV:=(1,.v (.agg #[af,ac,.int .i64 12,ab,ab,ac,ac,ae]))
 let aG:Nat × SV:=(2,.v (.agg #[.int .i64 7,.int .i64 13,ab,ab,ab,ac,ac,ae]))
 refine B3 [0,1] [2,3,4,5] [aF,aG] hW7 bp fun cY bq=>?_
 refine B1 (R1 bq (f:=22) (vs:=[]) (d:=3) (n':=12) kz Tryz.call22 Tryz.func22 rfl Tryz.ntmps22 kz fun cZ bt=>?_)
 refine B9 [] hW7 bt fun da bu=>?_
 refine C1 [0,1,2,3,4,5,6,7,8,9,10,11] kz ?_
 let ag:Value:=.int .i64 3
 let ce:Value:=(.agg #[.int .i64 3,.int .i64 0,.int .i64 (-1),.int .i64 (-1),.int .i64 (-1),.int .i64 0,.int .i64 0,.slice none 0 0])
 let ao:Nat × SV:=(1,.v (.agg #[ag,ac,ab,ab,ab,ac,ac,ae]))
 let al:Value:=.int .i64 2
 let ap:Nat × SV:=(2,.v (.agg #[al,ac,ab,ab,ab,ac,ac,ae]))
 let ak:Value:=.int .i64 4
 let ar:Nat × SV:=(3,.v (.agg #[ak,ac,ab,ab,ab,ac,ac,ae]))
 let au:Nat × SV:=(4,.v (.agg #[ak,al,ab,ab,ab,ab,ac,ae]))
 let av:Nat × SV:=(5,.v (.agg #[ak,.int .i64 5,ab,ab,ab,ab,ac,ae]))
 refine B3 [0,1,2,3,4] [5,6,7,8,9,10,11] [ao,ap,ar,au,av] hW7 bu fun db bw=>?_
 refine B1 (R1 bw (f:=48) (vs:=[]) (d:=6) (n':=4) kz Tryz.call48 Tryz.func48 rfl Tryz.ntmps48 kz fun dc bx=>?_)
 refine B9 [] hW7 bx fun de bz=>?_
 refine C1 [0,1,2,3] kz ?_
 let cg:Value:=(.agg #[.int .i64 8,.int .i64 0,.int .i64 (-1),.int .i64 0,.int .i64 (-1),.int .i64 0,.int .i64 0,.slice none 0 0])
 refine B3 [0,1] [2,3] [ao,(2,.v (.agg #[af,ac,ab,ac,ab,ac,ac,ae]))] hW7 bz fun df bA=>?_
 refine B1 (X7 hW7 bA (e:=46) (size:=8) (len:=2) (cs:=[ag,ac,ab,ab,ab,ac,ac,ae,af,ac,ab,ac,ab,ac,ac,ae]) (d:=3) kz kz fun bg dg dh cA cB cC aD bB=>?_)
 refine B3 [3] [] [(0,.v (.slice (some ⟨bg,0,none⟩) 2 2))] aD bB fun di bC=>?_
 refine B4 (A4 ?_)
 refine wp_ret (D1 bC aD.cells (v:=.slice (some ⟨bg,0,none⟩) 2 2) kz ?_)
 refine ⟨_,rfl,fun dj bD=>?_⟩
 let aw:Ob:=⟨b1,0,[ae,ac],true⟩
 have bE:EnvOk 12 [aw] [(6,.v (.slice (some ⟨bg,0,none⟩) 2 2)),ao,ap,ar,au,av] _:=bD.places (⟨rfl,rfl,trivial⟩)
 let aj:Value:=.int .i64 11
 let ai:Value:=.int .i64 10
 let ax:Value:=.slice (some ⟨bg,0,none⟩) 2 2
 let aH:Nat × SV:=(7,.v (.agg #[aj,af,ab,ab,ab,ac,ai,ax]))
 let aI:Nat × SV:=(8,.v (.agg #[af,af,ab,af,ab,ac,ac,ae]))
 refine B3 [6,7] [8,9,10,11] [ao,ap,ar,au,av,aH,aI] aD bE fun dl bF=>?_
 refine B1 (R1 bF (f:=49) (vs:=[]) (d:=9) (n':=4) kz Tryz.call49 Tryz.func49 rfl Tryz.ntmps49 kz fun dp bG=>?_)
 refine B9 [] aD bG fun dq bH=>?_
 refine C1 [0,1,2,3] kz ?_
 let cm:Value:=(.agg #[.int .i64 3,.int .i64 0,.int .i64 (-1),.int .i64 (-1),.int .i64 (-1),.int .i64 (-1),.int .i64 0,.slice none 0 0])
 refine B3 [0,1] [2,3] [(1,.v (.agg #[ag,ac,ab,ab,ab,ab,ac,ae])),(2,.v (.agg #[ag,ac,ab,ab,ab,ab,ac,ae]))] aD bH fun dr bI=>?_
 refine B1 (X7 aD bI (e:=46) (size:=8) (len:=2) (cs:=[ag,ac,ab,ab,ab,ab,ac,ae,ag,ac,ab,ab,ab,ab,ac,ae]) (d:=3) kz kz fun bh dt du cE cG cH aS bJ=>?_)
 refine B3 [3] [] [(0,.v (.slice (some ⟨bh,0,none⟩) 2 2))] aS bJ fun dv bK=>?_
 refine B4 (A4 ?_)
 refine wp_ret (D1 bK aS.cells (v:=.slice (some ⟨bh,0,none⟩) 2 2) kz ?_)
 refine ⟨_,rfl,fun dw bL=>?_⟩
 have bM:EnvOk 12 [aw] [(9,.v (.slice (some ⟨bh,0,none⟩) 2 2)),ao,ap,ar,au,av,aH,aI] _:=bL.places (⟨rfl,rfl,trivial⟩)
 let ay:Value:=.slice (some ⟨bh,0,none⟩) 2 2
 refine B3 [9] [10,11] [ao,ap,ar,au,av,aH,aI,(10,.v (.agg #[ai,ac,ab,ab,ac,ac,ac,ay]))] aS bM fun dx bN=>?_
 refine B1 (X7 aS bN (e:=46) (size:=8) (len:=8) (cs:=[ag,ac,ab,ab,ab,ac,ac,ae,al,ac,ab,ab,ab,ac,ac,ae,ak,ac,ab,ab,ab,ac,ac,ae,ak,al,ab,ab,ab,ab,ac,ae,ak,.int .i64 5,ab,ab,ab,ab,ac,ae,aj,af,ab,ab,ab,ac,ai,ax,af,af,ab,af,ab,ac,ac,ae,ai,ac,ab,ab,ac,ac,ac,ay]) (d:=11) kz kz fun bj dy dA cI cJ cK aT bO=>?_)
 refine B3 [11] [] [(0,.v (.slice (some ⟨bj,0,none⟩) 8 8))] aT bO fun dB bP=>?_
 refine B4 (A4 ?_)
 refine wp_ret (D1 bP aT.cells (v:=.slice (some ⟨bj,0,none⟩) 8 8) kz ?_)
 refine ⟨_,rfl,fun dC bQ=>?_⟩
 have bR:EnvOk 6 [aw] [(3,.v (.slice (some ⟨bj,0,none⟩) 8 8)),aF,aG] _:=bQ.places (⟨rfl,rfl,trivial⟩)
 let az:Value:=.slice (some ⟨bj,0,none⟩) 8 8
 refine B3 [3] [4,5] [aF,aG,(4,.v (.agg #[aj,ac,ab,ab,ab,ac,ai,az]))] aT bR fun dD bS=>?_
 refine B1 (X7 aT bS (e:=46) (size:=8) (len:=3) (cs:=[af,ac,.int .i64 12,ab,ab,ac,ac,ae,.int .i64 7,.int .i64 13,ab,ab,ab,ac,ac,ae,aj,ac,ab,ab,ab,ac,ai,az]) (d:=5) kz kz fun bk dE dF cL cM cN aE bT=>?_)
 refine B3 [5] [] [(0,.v (.slice (some ⟨bk,0,none⟩) 3 3))] aE bT fun dG bU=>?_
 refine B4 (A4 ?_)
 refine wp_ret (D1 bU aE.cells (v:=.slice (some ⟨bk,0,none⟩) 3 3) kz ?_)
 refine ⟨_,rfl,fun dH bV=>?_⟩
 have bW:EnvOk 8 [aw] [(1,.v (.slice (some ⟨bk,0,none⟩) 3 3)),(0,.p 0 0)] _:=bV.places (⟨rfl,rfl,trivial⟩)
 let aA:Value:=.slice (some ⟨bk,0,none⟩) 3 3
 let aJ:Nat × SV:=(2,.v (.agg #[aj,ac,ab,ab,ab,ac,ai,aA]))
 let aK:Nat × SV:=(3,.v (.agg #[ag,.int .i64 1,ab,ab,ab,ac,ac,ae]))
 refine B3 [1,2] [3,4,5,6,7] [(0,.p 0 0),aJ,aK] aE bW fun dI bX=>?_
 refine B1 (R1 bX (f:=15) (vs:=[]) (d:=4) (n':=6) kz Tryz.call15 Tryz.func15 rfl Tryz.ntmps15 kz fun dJ bY=>?_)
 refine B9 [] aE bY fun dK bZ=>?_
 refine C1 [0,1,2,3,4,5] kz ?_
 refine B3 [0,1,2,3] [4,5] [ao,(2,.v (.agg #[af,ac,ab,ab,ab,ac,ac,ae])),(3,.v (.agg #[ag,ac,ab,ab,ab,ac,ac,ae])),(4,.v (.agg #[af,ac,ab,ac,ab,ac,ac,ae]))] aE bZ fun dL b8=>?_
 refine B1 (X7 aE b8 (e:=46) (size:=8) (len:=4) (cs:=[ag,ac,ab,ab,ab,ac,ac,ae,af,ac,ab,ab,ab,ac,ac,ae,ag,ac,ab,ab,ab,ac,ac,ae,af,ac,ab,ac,ab,ac,ac,ae]) (d:=5) kz kz fun bn cO cP cq cr cu aB aV=>?_)
 refine B3 [5] [] [(0,.v (.slice (some ⟨bn,0,none⟩) 4 4))] aB aV fun cQ aW=>?_
 refine B4 (A4 ?_)
 refine wp_ret (D1 aW aB.cells (v:=.slice (some ⟨bn,0,none⟩) 4 4) kz ?_)
 refine ⟨_,rfl,fun cR aX=>?_⟩
 have aY:EnvOk 8 [aw] [(4,.v (.slice (some ⟨bn,0,none⟩) 4 4)),(0,.p 0 0),aJ,aK] _:=aX.places (⟨rfl,rfl,trivial⟩)
 let aC:Value:=.slice (some ⟨bn,0,none⟩) 4 4
 refine B3 [4] [5,6,7] [(0,.p 0 0),aJ,aK,(5,.v (.agg #[aj,ac,ab,ab,ac,ac,ai,aC]))] aB aY fun cS aZ=>?_
 refine B1 (X7 aB aZ (e:=46) (size:=8) (len:=3) (cs:=[aj,ac,ab,ab,ab,ac,ai,aA,ag,.int .i64 1,ab,ab,ab,ac,ac,ae,aj,ac,ab,ab,ac,ac,ai,aC]) (d:=6) kz kz fun cd cU cV cv cw cy aU ba=>?_)
 let aL:Value:=.slice (some ⟨cd,0,none⟩) 3 3
 refine B3 [6] [7] [(0,.p 0 0),(7,.v (.agg #[aL,.int .i64 9]))] aU ba fun cW bd=>?_
 refine B1 (I9 aU bd (oi:=0) (cs:=[aL,.int .i64 9]) kz fun ah cz am bf=>?_)
 refine B4 (A4 ?_)
 refine wp_ret (D1 bf am.cells (v:=.agg #[aL,.int .i64 9]) kz ?_)
 have aM:=Flds.slots (F:=F) am (k:=0) (n:=2) (xs:=[ag,ac,ab,ab,ab,ac,ac,ae,af,ac,ab,ac,ab,ac,ac,ae]) rfl (Flds.snoc (Flds.snoc (Flds.nil _ _) (c:=[ag,ac,ab,ab,ab,ac,ac,ae]) (x:=(Fld.mk 3 0 (-1) (-1) (-1) 0 0 [])) (FldR.mk (l:=[]) _ (J4 ah (Fp F w)).1 (J4 ah (Fp F w)).2)) (c:=[af,ac,ab,ac,ab,ac,ac,ae]) (x:=(Fld.mk 8 0 (-1) 0 (-1) 0 0 [])) (FldR.mk (l:=[]) _ (J4 ah (Fp F w)).1 (J4 ah (Fp F w)).2)) rfl (by decide)
 have aN:=Flds.slots (F:=F) am (k:=1) (n:=2) (xs:=[ag,ac,ab,ab,ab,ab,ac,ae,ag,ac,ab,ab,ab,ab,ac,ae]) rfl (Flds.snoc (Flds.snoc (Flds.nil _ _) (c:=[ag,ac,ab,ab,ab,ab,ac,ae]) (x:=z7) (FldR.mk (l:=[]) _ (J4 ah (Fp F w)).1 (J4 ah (Fp F w)).2)) (c:=[ag,ac,ab,ab,ab,ab,ac,ae]) (x:=z7) (FldR.mk (l:=[]) _ (J4 ah (Fp F w)).1 (J4 ah (Fp F w)).2)) rfl (by decide)
 have aO:=Flds.slots (F:=F) am (k:=2) (n:=8) (xs:=[ag,ac,ab,ab,ab,ac,ac,ae,al,ac,ab,ab,ab,ac,ac,ae,ak,ac,ab,ab,ab,ac,ac,ae,ak,al,ab,ab,ab,ab,ac,ae,ak,.int .i64 5,ab,ab,ab,ab,ac,ae,aj,af,ab,ab,ab,ac,ai,ax,af,af,ab,af,ab,ac,ac,ae,ai,ac,ab,ab,ac,ac,ac,ay]) rfl (Flds.snoc (Flds.snoc (Flds.snoc (Flds.snoc (Flds.snoc (Flds.snoc (Flds.snoc (Flds.snoc (Flds.nil _ _) (c:=[ag,ac,ab,ab,ab,ac,ac,ae]) (x:=(Fld.mk 3 0 (-1) (-1) (-1) 0 0 [])) (FldR.mk (l:=[]) _ (J4 ah (Fp F w)).1 (J4 ah (Fp F w)).2)) (c:=[al,ac,ab,ab,ab,ac,ac,ae]) (x:=(Fld.mk 2 0 (-1) (-1) (-1) 0 0 [])) (FldR.mk (l:=[]) _ (J4 ah (Fp F w)).1 (J4 ah (Fp F w)).2)) (c:=[ak,ac,ab,ab,ab,ac,ac,ae]) (x:=(Fld.mk 4 0 (-1) (-1) (-1) 0 0 [])) (FldR.mk (l:=[]) _ (J4 ah (Fp F w)).1 (J4 ah (Fp F w)).2)) (c:=[ak,al,ab,ab,ab,ab,ac,ae]) (x:=(Fld.mk 4 2 (-1) (-1) (-1) (-1) 0 [])) (FldR.mk (l:=[]) _ (J4 ah (Fp F w)).1 (J4 ah (Fp F w)).2)) (c:=[ak,.int .i64 5,ab,ab,ab,ab,ac,ae]) (x:=(Fld.mk 4 5 (-1) (-1) (-1) (-1) 0 [])) (FldR.mk (l:=[]) _ (J4 ah (Fp F w)).1 (J4 ah (Fp F w)).2)) (c:=[aj,af,ab,ab,ab,ac,ai,ax]) (x:=z8) (FldR.mk (l:=[(Fld.mk 3 0 (-1) (-1) (-1) 0 0 []),(Fld.mk 8 0 (-1) 0 (-1) 0 0 [])]) _ aM.1 aM.2)) (c:=[af,af,ab,af,ab,ac,ac,ae]) (x:=(Fld.mk 8 8 (-1) 8 (-1) 0 0 [])) (FldR.mk (l:=[]) _ (J4 ah (Fp F w)).1 (J4 ah (Fp F w)).2)) (c:=[ai,ac,ab,ab,ac,ac,ac,ay]) (x:=(Fld.mk 10 0 (-1) (-1) 0 0 0 [z7,z7])) (FldR.mk (l:=[z7,z7]) _ aN.1 aN.2)) rfl (by decide)
 have aP:=Flds.slots (F:=F) am (k:=3) (n:=3) (xs:=[af,ac,.int .i64 12,ab,ab,ac,ac,ae,.int .i64 7,.int .i64 13,ab,ab,ab,ac,ac,ae,aj,ac,ab,ab,ab,ac,ai,az]) rfl (Flds.snoc (Flds.snoc (Flds.snoc (Flds.nil _ _) (c:=[af,ac,.int .i64 12,ab,ab,ac,ac,ae]) (x:=(Fld.mk 8 0 12 (-1) (-1) 0 0 [])) (FldR.mk (l:=[]) _ (J4 ah (Fp F w)).1 (J4 ah (Fp F w)).2)) (c:=[.int .i64 7,.int .i64 13,ab,ab,ab,ac,ac,ae]) (x:=(Fld.mk 7 13 (-1) (-1) (-1) 0 0 [])) (FldR.mk (l:=[]) _ (J4 ah (Fp F w)).1 (J4 ah (Fp F w)).2)) (c:=[aj,ac,ab,ab,ab,ac,ai,az]) (x:=z0) (FldR.mk (l:=[(Fld.mk 3 0 (-1) (-1) (-1) 0 0 []),(Fld.mk 2 0 (-1) (-1) (-1) 0 0 []),(Fld.mk 4 0 (-1) (-1) (-1) 0 0 []),(Fld.mk 4 2 (-1) (-1) (-1) (-1) 0 []),(Fld.mk 4 5 (-1) (-1) (-1) (-1) 0 []),z8,(Fld.mk 8 8 (-1) 8 (-1) 0 0 []),(Fld.mk 10 0 (-1) (-1) 0 0 0 [z7,z7])]) _ aO.1 aO.2)) rfl (by decide)
 have aQ:=Flds.slots (F:=F) am (k:=4) (n:=4) (xs:=[ag,ac,ab,ab,ab,ac,ac,ae,af,ac,ab,ab,ab,ac,ac,ae,ag,ac,ab,ab,ab,ac,ac,ae,af,ac,ab,ac,ab,ac,ac,ae]) rfl (Flds.snoc (Flds.snoc (Flds.snoc (Flds.snoc (Flds.nil _ _) (c:=[ag,ac,ab,ab,ab,ac,ac,ae]) (x:=(Fld.mk 3 0 (-1) (-1) (-1) 0 0 [])) (FldR.mk (l:=[]) _ (J4 ah (Fp F w)).1 (J4 ah (Fp F w)).2)) (c:=[af,ac,ab,ab,ab,ac,ac,ae]) (x:=(Fld.mk 8 0 (-1) (-1) (-1) 0 0 [])) (FldR.mk (l:=[]) _ (J4 ah (Fp F w)).1 (J4 ah (Fp F w)).2)) (c:=[ag,ac,ab,ab,ab,ac,ac,ae]) (x:=(Fld.mk 3 0 (-1) (-1) (-1) 0 0 [])) (FldR.mk (l:=[]) _ (J4 ah (Fp F w)).1 (J4 ah (Fp F w)).2)) (c:=[af,ac,ab,ac,ab,ac,ac,ae]) (x:=(Fld.mk 8 0 (-1) 0 (-1) 0 0 [])) (FldR.mk (l:=[]) _ (J4 ah (Fp F w)).1 (J4 ah (Fp F w)).2)) rfl (by decide)
 have aR:=Flds.slots (F:=F) am (k:=5) (n:=3) (xs:=[aj,ac,ab,ab,ab,ac,ai,aA,ag,.int .i64 1,ab,ab,ab,ac,ac,ae,aj,ac,ab,ab,ac,ac,ai,aC]) rfl (Flds.snoc (Flds.snoc (Flds.snoc (Flds.nil _ _) (c:=[aj,ac,ab,ab,ab,ac,ai,aA]) (x:=(Fld.mk 11 0 (-1) (-1) (-1) 0 10 [(Fld.mk 8 0 12 (-1) (-1) 0 0 []),(Fld.mk 7 13 (-1) (-1) (-1) 0 0 []),z0])) (FldR.mk (l:=[(Fld.mk 8 0 12 (-1) (-1) 0 0 []),(Fld.mk 7 13 (-1) (-1) (-1) 0 0 []),z0]) _ aP.1 aP.2)) (c:=[ag,.int .i64 1,ab,ab,ab,ac,ac,ae]) (x:=(Fld.mk 3 1 (-1) (-1) (-1) 0 0 [])) (FldR.mk (l:=[]) _ (J4 ah (Fp F w)).1 (J4 ah (Fp F w)).2)) (c:=[aj,ac,ab,ab,ac,ac,ai,aC]) (x:=(Fld.mk 11 0 (-1) (-1) 0 0 10 [(Fld.mk 3 0 (-1) (-1) (-1) 0 0 []),(Fld.mk 8 0 (-1) (-1) (-1) 0 0 []),(Fld.mk 3 0 (-1) (-1) (-1) 0 0 []),(Fld.mk 8 0 (-1) 0 (-1) 0 0 [])])) (FldR.mk (l:=[(Fld.mk 3 0 (-1) (-1) (-1) 0 0 []),(Fld.mk 8 0 (-1) (-1) (-1) 0 0 []),(Fld.mk 3 0 (-1) (-1) (-1) 0 0 []),(Fld.mk 8 0 (-1) 0 (-1) 0 0 [])]) _ aQ.1 aQ.2)) rfl (by decide)
 exact ⟨_,_,rfl,⟨_,aR.1,aR.2⟩,am.step⟩
def Et (T:Tree):Prop:=(True) ∧ ((D9 (T.at_ 1)).length ≤ 32767) ∧ Q2 T.U ∧ True
def GP (T:Tree):Prop:=(True) ∧ (True) ∧ Q2 T.U ∧ True
def Eu (T:Tree):Prop:=(True) ∧ (True) ∧ (True) ∧ (True) ∧ (True) ∧ ((lst (T.at_ 5)).length ≤ 32767 ∧ ∀ x ∈ lst (T.at_ 5),Et x) ∧ ((D9 (T.at_ 6)).length ≤ 32767) ∧ (GP (T.at_ 7) ∧ Y7 (T.at_ 7).U) ∧ Q2 T.U ∧ (∀ x ∈ T.U,1 ≤ x.1) ∧ True
def Ev (T:Tree):Prop:=((T.at_ 0).S.length ≤ 32767) ∧ (True) ∧ ((lst (T.at_ 2)).length ≤ 32767 ∧ ∀ x ∈ lst (T.at_ 2),Eu x) ∧ Q2 T.U ∧ True
def Ew (T:Tree):Prop:=(True) ∧ ((T.at_ 1).S.length ≤ 32767) ∧ (True) ∧ ((D9 (T.at_ 3)).length ≤ 32767) ∧ Q2 T.U ∧ True
def BO (T:Tree):Prop:=((lst (T.at_ 0)).length ≤ 32767 ∧ ∀ x ∈ lst (T.at_ 0),Ev x) ∧ (True) ∧ ((lst (T.at_ 2)).length ≤ 32767 ∧ ∀ x ∈ lst (T.at_ 2),Ew x) ∧ Q2 T.U ∧ (∀ x ∈ T.U,1 ≤ x.1) ∧ True
abbrev z4 :=(Fld.mk 10 0 (-1) (-1) (-1) 0 10 [(Fld.mk 3 0 (-1) (-1) (-1) 0 0 []),(Fld.mk 8 0 (-1) (-1) (-1) 0 0 []),(Fld.mk 3 0 (-1) (-1) (-1) 0 0 []),(Fld.mk 8 0 (-1) 0 (-1) 0 0 [])])
theorem NM (v:Int) (t:Tree):BO (C5 v 8 sProduceResponseF t):=by
 unfold BO
 exact ⟨(⟨GH (d:=7) (show sProduceResponseF[0]? = _ from rfl),Gq (d:=7) (Q:=Ev) (show sProduceResponseF[0]? = _ from rfl) fun y=>by
   have h:=Y4 (v:=v) (d:=7) (x1:=0) (x2:=-1) (x5:=0) (x6:=10) (s:=[(Fld.mk 8 0 12 (-1) (-1) 0 0 []),(Fld.mk 7 13 (-1) (-1) (-1) 0 0 []),z0]) (b:=Fld.nul (Fld.mk 10 0 (-1) (-1) (-1) 0 10 [(Fld.mk 8 0 12 (-1) (-1) 0 0 []),(Fld.mk 7 13 (-1) (-1) (-1) 0 0 []),z0]) v y) (x:=y)
   unfold Ev
   simp only [h.1,h.2]
   exact ⟨(by rw [Dh (d:=6) (show [(Fld.mk 8 0 12 (-1) (-1) 0 0 []),(Fld.mk 7 13 (-1) (-1) (-1) 0 0 []),(Fld.mk 11 0 (-1) (-1) (-1) 0 10 [(Fld.mk 3 0 (-1) (-1) (-1) 0 0 []),(Fld.mk 2 0 (-1) (-1) (-1) 0 0 []),(Fld.mk 4 0 (-1) (-1) (-1) 0 0 []),(Fld.mk 4 2 (-1) (-1) (-1) (-1) 0 []),(Fld.mk 4 5 (-1) (-1) (-1) (-1) 0 []),(Fld.mk 11 8 (-1) (-1) (-1) 0 10 [(Fld.mk 3 0 (-1) (-1) (-1) 0 0 []),(Fld.mk 8 0 (-1) 0 (-1) 0 0 [])]),(Fld.mk 8 8 (-1) 8 (-1) 0 0 []),(Fld.mk 10 0 (-1) (-1) 0 0 0 [(Fld.mk 3 0 (-1) (-1) (-1) (-1) 0 []),(Fld.mk 3 0 (-1) (-1) (-1) (-1) 0 [])])])][0]? = _ from rfl) (by decide)]; exact Nat.le_trans (N4 _) (by decide)),(trivial),(⟨GH (d:=6) (show [(Fld.mk 8 0 12 (-1) (-1) 0 0 []),(Fld.mk 7 13 (-1) (-1) (-1) 0 0 []),(Fld.mk 11 0 (-1) (-1) (-1) 0 10 [(Fld.mk 3 0 (-1) (-1) (-1) 0 0 []),(Fld.mk 2 0 (-1) (-1) (-1) 0 0 []),(Fld.mk 4 0 (-1) (-1) (-1) 0 0 []),(Fld.mk 4 2 (-1) (-1) (-1) (-1) 0 []),(Fld.mk 4 5 (-1) (-1) (-1) (-1) 0 []),(Fld.mk 11 8 (-1) (-1) (-1) 0 10 [(Fld.mk 3 0 (-1) (-1) (-1) 0 0 []),(Fld.mk 8 0 (-1) 0 (-1) 0 0 [])]),(Fld.mk 8 8 (-1) 8 (-1) 0 0 []),(Fld.mk 10 0 (-1) (-1) 0 0 0 [(Fld.mk 3 0 (-1) (-1) (-1) (-1) 0 []),(Fld.mk 3 0 (-1) (-1) (-1) (-1) 0 [])])])][2]? = _ from rfl),Gq (d:=6) (Q:=Eu) (show [(Fld.mk 8 0 12 (-1) (-1) 0 0 []),(Fld.mk 7 13 (-1) (-1) (-1) 0 0 []),(Fld.mk 11 0 (-1) (-1) (-1) 0 10 [(Fld.mk 3 0 (-1) (-1) (-1) 0 0 []),(Fld.mk 2 0 (-1) (-1) (-1) 0 0 []),(Fld.mk 4 0 (-1) (-1) (-1) 0 0 []),(Fld.mk 4 2 (-1) (-1) (-1) (-1) 0 []),(Fld.mk 4 5 (-1) (-1) (-1) (-1) 0 []),(Fld.mk 11 8 (-1) (-1) (-1) 0 10 [(Fld.mk 3 0 (-1) (-1) (-1) 0 0 []),(Fld.mk 8 0 (-1) 0 (-1) 0 0 [])]),(Fld.mk 8 8 (-1) 8 (-1) 0 0 []),(Fld.mk 10 0 (-1) (-1) 0 0 0 [(Fld.mk 3 0 (-1) (-1) (-1) (-1) 0 []),(Fld.mk 3 0 (-1) (-1) (-1) (-1) 0 [])])])][2]? = _ from rfl) fun y=>by
     have h:=Y4 (v:=v) (d:=6) (x1:=0) (x2:=-1) (x5:=0) (x6:=10) (s:=[(Fld.mk 3 0 (-1) (-1) (-1) 0 0 []),(Fld.mk 2 0 (-1) (-1) (-1) 0 0 []),(Fld.mk 4 0 (-1) (-1) (-1) 0 0 []),(Fld.mk 4 2 (-1) (-1) (-1) (-1) 0 []),(Fld.mk 4 5 (-1) (-1) (-1) (-1) 0 []),z8,(Fld.mk 8 8 (-1) 8 (-1) 0 0 []),(Fld.mk 10 0 (-1) (-1) 0 0 0 [z7,z7])]) (b:=Fld.nul (Fld.mk 10 0 (-1) (-1) (-1) 0 10 [(Fld.mk 3 0 (-1) (-1) (-1) 0 0 []),(Fld.mk 2 0 (-1) (-1) (-1) 0 0 []),(Fld.mk 4 0 (-1) (-1) (-1) 0 0 []),(Fld.mk 4 2 (-1) (-1) (-1) (-1) 0 []),(Fld.mk 4 5 (-1) (-1) (-1) (-1) 0 []),z8,(Fld.mk 8 8 (-1) 8 (-1) 0 0 []),(Fld.mk 10 0 (-1) (-1) 0 0 0 [z7,z7])]) v y) (x:=y)
     unfold Eu
     simp only [h.1,h.2]
     exact ⟨(trivial),(trivial),(trivial),(trivial),(trivial),(⟨GH (d:=5) (show [(Fld.mk 3 0 (-1) (-1) (-1) 0 0 []),(Fld.mk 2 0 (-1) (-1) (-1) 0 0 []),(Fld.mk 4 0 (-1) (-1) (-1) 0 0 []),(Fld.mk 4 2 (-1) (-1) (-1) (-1) 0 []),(Fld.mk 4 5 (-1) (-1) (-1) (-1) 0 []),(Fld.mk 11 8 (-1) (-1) (-1) 0 10 [(Fld.mk 3 0 (-1) (-1) (-1) 0 0 []),(Fld.mk 8 0 (-1) 0 (-1) 0 0 [])]),(Fld.mk 8 8 (-1) 8 (-1) 0 0 []),(Fld.mk 10 0 (-1) (-1) 0 0 0 [(Fld.mk 3 0 (-1) (-1) (-1) (-1) 0 []),(Fld.mk 3 0 (-1) (-1) (-1) (-1) 0 [])])][5]? = _ from rfl),Gq (d:=5) (Q:=Et) (show [(Fld.mk 3 0 (-1) (-1) (-1) 0 0 []),(Fld.mk 2 0 (-1) (-1) (-1) 0 0 []),(Fld.mk 4 0 (-1) (-1) (-1) 0 0 []),(Fld.mk 4 2 (-1) (-1) (-1) (-1) 0 []),(Fld.mk 4 5 (-1) (-1) (-1) (-1) 0 []),(Fld.mk 11 8 (-1) (-1) (-1) 0 10 [(Fld.mk 3 0 (-1) (-1) (-1) 0 0 []),(Fld.mk 8 0 (-1) 0 (-1) 0 0 [])]),(Fld.mk 8 8 (-1) 8 (-1) 0 0 []),(Fld.mk 10 0 (-1) (-1) 0 0 0 [(Fld.mk 3 0 (-1) (-1) (-1) (-1) 0 []),(Fld.mk 3 0 (-1) (-1) (-1) (-1) 0 [])])][5]? = _ from rfl) fun y=>by
       have h:=Y4 (v:=v) (d:=5) (x1:=8) (x2:=-1) (x5:=0) (x6:=10) (s:=[(Fld.mk 3 0 (-1) (-1) (-1) 0 0 []),(Fld.mk 8 0 (-1) 0 (-1) 0 0 [])]) (b:=Fld.nul (Fld.mk 10 8 (-1) (-1) (-1) 0 10 [(Fld.mk 3 0 (-1) (-1) (-1) 0 0 []),(Fld.mk 8 0 (-1) 0 (-1) 0 0 [])]) v y) (x:=y)
       unfold Et
       simp only [h.1,h.2]
       exact ⟨(trivial),(GG (d:=4) (show [(Fld.mk 3 0 (-1) (-1) (-1) 0 0 []),(Fld.mk 8 0 (-1) 0 (-1) 0 0 [])][1]? = _ from rfl) (by decide)),(Cz),(trivial)⟩⟩),(GG (d:=5) (show [(Fld.mk 3 0 (-1) (-1) (-1) 0 0 []),(Fld.mk 2 0 (-1) (-1) (-1) 0 0 []),(Fld.mk 4 0 (-1) (-1) (-1) 0 0 []),(Fld.mk 4 2 (-1) (-1) (-1) (-1) 0 []),(Fld.mk 4 5 (-1) (-1) (-1) (-1) 0 []),(Fld.mk 11 8 (-1) (-1) (-1) 0 10 [(Fld.mk 3 0 (-1) (-1) (-1) 0 0 []),(Fld.mk 8 0 (-1) 0 (-1) 0 0 [])]),(Fld.mk 8 8 (-1) 8 (-1) 0 0 []),(Fld.mk 10 0 (-1) (-1) 0 0 0 [(Fld.mk 3 0 (-1) (-1) (-1) (-1) 0 []),(Fld.mk 3 0 (-1) (-1) (-1) (-1) 0 [])])][6]? = _ from rfl) (by decide)),(⟨(by
       have h:=Gp (v:=v) (d:=5) (t:=y) (show [(Fld.mk 3 0 (-1) (-1) (-1) 0 0 []),(Fld.mk 2 0 (-1) (-1) (-1) 0 0 []),(Fld.mk 4 0 (-1) (-1) (-1) 0 0 []),(Fld.mk 4 2 (-1) (-1) (-1) (-1) 0 []),(Fld.mk 4 5 (-1) (-1) (-1) (-1) 0 []),(Fld.mk 11 8 (-1) (-1) (-1) 0 10 [(Fld.mk 3 0 (-1) (-1) (-1) 0 0 []),(Fld.mk 8 0 (-1) 0 (-1) 0 0 [])]),(Fld.mk 8 8 (-1) 8 (-1) 0 0 []),(Fld.mk 10 0 (-1) (-1) 0 0 0 [(Fld.mk 3 0 (-1) (-1) (-1) (-1) 0 []),(Fld.mk 3 0 (-1) (-1) (-1) (-1) 0 [])])][7]? = _ from rfl)
       unfold GP
       simp only [h.1,h.2.1]
       exact ⟨(trivial),(trivial),(Cz),(trivial)⟩),by rw [(Gp (v:=v) (d:=5) (t:=y) (show [(Fld.mk 3 0 (-1) (-1) (-1) 0 0 []),(Fld.mk 2 0 (-1) (-1) (-1) 0 0 []),(Fld.mk 4 0 (-1) (-1) (-1) 0 0 []),(Fld.mk 4 2 (-1) (-1) (-1) (-1) 0 []),(Fld.mk 4 5 (-1) (-1) (-1) (-1) 0 []),(Fld.mk 11 8 (-1) (-1) (-1) 0 10 [(Fld.mk 3 0 (-1) (-1) (-1) 0 0 []),(Fld.mk 8 0 (-1) 0 (-1) 0 0 [])]),(Fld.mk 8 8 (-1) 8 (-1) 0 0 []),(Fld.mk 10 0 (-1) (-1) 0 0 0 [(Fld.mk 3 0 (-1) (-1) (-1) (-1) 0 []),(Fld.mk 3 0 (-1) (-1) (-1) (-1) 0 [])])][7]? = _ from rfl)).2.1]; exact Nz⟩),(Cz),(Js (by decide +kernel)),(trivial)⟩⟩),(Cz),(trivial)⟩⟩),(trivial),(⟨NA (d:=7) (show sProduceResponseF[2]? = _ from rfl),NB (d:=7) (Q:=Ew) (show sProduceResponseF[2]? = _ from rfl) fun y=>by
   have h:=Y4 (v:=v) (d:=7) (x1:=0) (x2:=-1) (x5:=0) (x6:=10) (s:=[(Fld.mk 3 0 (-1) (-1) (-1) 0 0 []),(Fld.mk 8 0 (-1) (-1) (-1) 0 0 []),(Fld.mk 3 0 (-1) (-1) (-1) 0 0 []),(Fld.mk 8 0 (-1) 0 (-1) 0 0 [])]) (b:=Fld.nul z4 v y) (x:=y)
   unfold Ew
   simp only [h.1,h.2]
   exact ⟨(trivial),(by rw [Dh (d:=6) (show [(Fld.mk 3 0 (-1) (-1) (-1) 0 0 []),(Fld.mk 8 0 (-1) (-1) (-1) 0 0 []),(Fld.mk 3 0 (-1) (-1) (-1) 0 0 []),(Fld.mk 8 0 (-1) 0 (-1) 0 0 [])][1]? = _ from rfl) (by decide)]; exact Nat.le_trans (N4 _) (by decide)),(trivial),(GG (d:=6) (show [(Fld.mk 3 0 (-1) (-1) (-1) 0 0 []),(Fld.mk 8 0 (-1) (-1) (-1) 0 0 []),(Fld.mk 3 0 (-1) (-1) (-1) 0 0 []),(Fld.mk 8 0 (-1) 0 (-1) 0 0 [])][3]? = _ from rfl) (by decide)),(Cz),(trivial)⟩⟩),(Cz),(Js (by decide +kernel)),(trivial)⟩
set_option maxHeartbeats 4000000 in
theorem NN (v:Int) (h0:0 ≤ v) (h1:v < 32768) (t:Tree):H5 v (C5 v 8 sProduceResponseF t) = F7 8 sProduceResponseF F8 v t:=by
 obtain ⟨f42n,aE⟩:=Dg (v:=v) (d:=7) (t:=t) (l:=sProduceResponseF) (i:=0) (show sProduceResponseF[0]? = _ from rfl)
 have aF:((C5 v 8 sProduceResponseF t).at_ 1).N = (t.at_ 1).N:=S8 (d:=7) (show sProduceResponseF[1]? = _ from rfl) (by decide)
 obtain ⟨f44n,aG⟩:=Eo (v:=v) (d:=7) (t:=t) (l:=sProduceResponseF) (i:=2) (show sProduceResponseF[2]? = _ from rfl)
 have al:∀ ai:Tree,(fun ag:Tree=>(if ((if (decide (v ≥ 0)) = true then decide (v ≤ 12) else false)) = true then if (decide (v ≥ 9)) = true then (uv ((ag.at_ 0).S.length + 1) ++ (ag.at_ 0).S) else (be 2 (ag.at_ 0).S.length ++ (ag.at_ 0).S) else []) ++ ((if (decide (v ≥ 13)) = true then (E8 (ag.at_ 1).S) else []) ++ (((if (decide (v ≥ 9)) = true then (uv ((lst (ag.at_ 2)).length + 1)) else (be 4 (lst (ag.at_ 2)).length)) ++ ((lst (ag.at_ 2)).flatMap fun ab=>(be 4 ((IntKind.i32.wrap (ab.at_ 0).N))) ++ ((be 2 ((IntKind.i16.wrap (ab.at_ 1).N))) ++ ((be 8 ((ab.at_ 2).N)) ++ ((if (decide (v ≥ 2)) = true then be 8 ((ab.at_ 3).N) else []) ++ ((if (decide (v ≥ 5)) = true then be 8 ((ab.at_ 4).N) else []) ++ ((if (decide (v ≥ 8)) = true then (if (decide (v ≥ 9)) = true then (uv ((lst (ab.at_ 5)).length + 1)) else (be 4 (lst (ab.at_ 5)).length)) ++ ((lst (ab.at_ 5)).flatMap fun ac=>(be 4 ((IntKind.i32.wrap (ac.at_ 0).N))) ++ ((if (decide (v ≥ 9)) = true then (if (ac.at_ 1).null = true then uv 0 else uv ((D9 (ac.at_ 1)).length + 1) ++ (D9 (ac.at_ 1))) else (if (ac.at_ 1).null = true then be 2 (-1) else be 2 (D9 (ac.at_ 1)).length ++ (D9 (ac.at_ 1)))) ++ (if (decide (v ≥ 9)) = true then (uv ac.U.length) ++ (D7 ac.U) else []))) else []) ++ ((if (decide (v ≥ 8)) = true then if (decide (v ≥ 9)) = true then (if (ab.at_ 6).null = true then uv 0 else uv ((D9 (ab.at_ 6)).length + 1) ++ (D9 (ab.at_ 6))) else (if (ab.at_ 6).null = true then be 2 (-1) else be 2 (D9 (ab.at_ 6)).length ++ (D9 (ab.at_ 6))) else []) ++ (if (decide (v ≥ 9)) = true then (uv (B5 (!((decide (be 4 ((ab.at_ 7).at_ 0).N = be 4 (-1))) && (decide (be 4 ((ab.at_ 7).at_ 1).N = be 4 (-1))) && decide ((ab.at_ 7).U.length = 0))) + ab.U.length)) ++ ((G8 (!((decide (be 4 ((ab.at_ 7).at_ 0).N = be 4 (-1))) && (decide (be 4 ((ab.at_ 7).at_ 1).N = be 4 (-1))) && decide ((ab.at_ 7).U.length = 0))) 0 (((be 4 ((IntKind.i32.wrap ((ab.at_ 7).at_ 0).N))) ++ ((be 4 ((IntKind.i32.wrap ((ab.at_ 7).at_ 1).N))) ++ (if (decide (v ≥ 9)) = true then (uv (ab.at_ 7).U.length) ++ (D7 (ab.at_ 7).U) else []))))) ++ (D7 ab.U)) else []))))))))) ++ (if (decide (v ≥ 9)) = true then (uv ag.U.length) ++ (D7 ag.U) else [])))) (N2 (C5 v 7) (Fld.mk 10 0 (-1) (-1) (-1) 0 10 [(Fld.mk 8 0 12 (-1) (-1) 0 0 []),(Fld.mk 7 13 (-1) (-1) (-1) 0 0 []),(Fld.mk 11 0 (-1) (-1) (-1) 0 10 [(Fld.mk 3 0 (-1) (-1) (-1) 0 0 []),(Fld.mk 2 0 (-1) (-1) (-1) 0 0 []),(Fld.mk 4 0 (-1) (-1) (-1) 0 0 []),(Fld.mk 4 2 (-1) (-1) (-1) (-1) 0 []),(Fld.mk 4 5 (-1) (-1) (-1) (-1) 0 []),(Fld.mk 11 8 (-1) (-1) (-1) 0 10 [(Fld.mk 3 0 (-1) (-1) (-1) 0 0 []),(Fld.mk 8 0 (-1) 0 (-1) 0 0 [])]),(Fld.mk 8 8 (-1) 8 (-1) 0 0 []),(Fld.mk 10 0 (-1) (-1) 0 0 0 [(Fld.mk 3 0 (-1) (-1) (-1) (-1) 0 []),(Fld.mk 3 0 (-1) (-1) (-1) (-1) 0 [])])])]) (Fld.nul (Fld.mk 10 0 (-1) (-1) (-1) 0 10 [(Fld.mk 8 0 12 (-1) (-1) 0 0 []),(Fld.mk 7 13 (-1) (-1) (-1) 0 0 []),(Fld.mk 11 0 (-1) (-1) (-1) 0 10 [(Fld.mk 3 0 (-1) (-1) (-1) 0 0 []),(Fld.mk 2 0 (-1) (-1) (-1) 0 0 []),(Fld.mk 4 0 (-1) (-1) (-1) 0 0 []),(Fld.mk 4 2 (-1) (-1) (-1) (-1) 0 []),(Fld.mk 4 5 (-1) (-1) (-1) (-1) 0 []),(Fld.mk 11 8 (-1) (-1) (-1) 0 10 [(Fld.mk 3 0 (-1) (-1) (-1) 0 0 []),(Fld.mk 8 0 (-1) 0 (-1) 0 0 [])]),(Fld.mk 8 8 (-1) 8 (-1) 0 0 []),(Fld.mk 10 0 (-1) (-1) 0 0 0 [(Fld.mk 3 0 (-1) (-1) (-1) (-1) 0 []),(Fld.mk 3 0 (-1) (-1) (-1) (-1) 0 [])])])]) v ai) ai) = D4 7 [(Fld.mk 8 0 12 (-1) (-1) 0 0 []),(Fld.mk 7 13 (-1) (-1) (-1) 0 0 []),(Fld.mk 11 0 (-1) (-1) (-1) 0 10 [(Fld.mk 3 0 (-1) (-1) (-1) 0 0 []),(Fld.mk 2 0 (-1) (-1) (-1) 0 0 []),(Fld.mk 4 0 (-1) (-1) (-1) 0 0 []),(Fld.mk 4 2 (-1) (-1) (-1) (-1) 0 []),(Fld.mk 4 5 (-1) (-1) (-1) (-1) 0 []),(Fld.mk 11 8 (-1) (-1) (-1) 0 10 [(Fld.mk 3 0 (-1) (-1) (-1) 0 0 []),(Fld.mk 8 0 (-1) 0 (-1) 0 0 [])]),(Fld.mk 8 8 (-1) 8 (-1) 0 0 []),(Fld.mk 10 0 (-1) (-1) 0 0 0 [(Fld.mk 3 0 (-1) (-1) (-1) (-1) 0 []),(Fld.mk 3 0 (-1) (-1) (-1) (-1) 0 [])])])] v (decide (v ≥ 9)) ai:=by
  intro ai
  dsimp only
  obtain ⟨am,ao⟩:=Y4 (v:=v) (d:=7) (x1:=0) (x2:=-1) (x5:=0) (x6:=10) (s:=[(Fld.mk 8 0 12 (-1) (-1) 0 0 []),(Fld.mk 7 13 (-1) (-1) (-1) 0 0 []),(Fld.mk 11 0 (-1) (-1) (-1) 0 10 [(Fld.mk 3 0 (-1) (-1) (-1) 0 0 []),(Fld.mk 2 0 (-1) (-1) (-1) 0 0 []),(Fld.mk 4 0 (-1) (-1) (-1) 0 0 []),(Fld.mk 4 2 (-1) (-1) (-1) (-1) 0 []),(Fld.mk 4 5 (-1) (-1) (-1) (-1) 0 []),(Fld.mk 11 8 (-1) (-1) (-1) 0 10 [(Fld.mk 3 0 (-1) (-1) (-1) 0 0 []),(Fld.mk 8 0 (-1) 0 (-1) 0 0 [])]),(Fld.mk 8 8 (-1) 8 (-1) 0 0 []),(Fld.mk 10 0 (-1) (-1) 0 0 0 [(Fld.mk 3 0 (-1) (-1) (-1) (-1) 0 []),(Fld.mk 3 0 (-1) (-1) (-1) (-1) 0 [])])])]) (b:=Fld.nul (Fld.mk 10 0 (-1) (-1) (-1) 0 10 [(Fld.mk 8 0 12 (-1) (-1) 0 0 []),(Fld.mk 7 13 (-1) (-1) (-1) 0 0 []),(Fld.mk 11 0 (-1) (-1) (-1) 0 10 [(Fld.mk 3 0 (-1) (-1) (-1) 0 0 []),(Fld.mk 2 0 (-1) (-1) (-1) 0 0 []),(Fld.mk 4 0 (-1) (-1) (-1) 0 0 []),(Fld.mk 4 2 (-1) (-1) (-1) (-1) 0 []),(Fld.mk 4 5 (-1) (-1) (-1) (-1) 0 []),(Fld.mk 11 8 (-1) (-1) (-1) 0 10 [(Fld.mk 3 0 (-1) (-1) (-1) 0 0 []),(Fld.mk 8 0 (-1) 0 (-1) 0 0 [])]),(Fld.mk 8 8 (-1) 8 (-1) 0 0 []),(Fld.mk 10 0 (-1) (-1) 0 0 0 [(Fld.mk 3 0 (-1) (-1) (-1) (-1) 0 []),(Fld.mk 3 0 (-1) (-1) (-1) (-1) 0 [])])])]) v ai) (x:=ai)
  simp only [am,ao]
  have aH:=Dh (v:=v) (d:=6) (t:=ai) (l:=[(Fld.mk 8 0 12 (-1) (-1) 0 0 []),(Fld.mk 7 13 (-1) (-1) (-1) 0 0 []),(Fld.mk 11 0 (-1) (-1) (-1) 0 10 [(Fld.mk 3 0 (-1) (-1) (-1) 0 0 []),(Fld.mk 2 0 (-1) (-1) (-1) 0 0 []),(Fld.mk 4 0 (-1) (-1) (-1) 0 0 []),(Fld.mk 4 2 (-1) (-1) (-1) (-1) 0 []),(Fld.mk 4 5 (-1) (-1) (-1) (-1) 0 []),(Fld.mk 11 8 (-1) (-1) (-1) 0 10 [(Fld.mk 3 0 (-1) (-1) (-1) 0 0 []),(Fld.mk 8 0 (-1) 0 (-1) 0 0 [])]),(Fld.mk 8 8 (-1) 8 (-1) 0 0 []),(Fld.mk 10 0 (-1) (-1) 0 0 0 [(Fld.mk 3 0 (-1) (-1) (-1) (-1) 0 []),(Fld.mk 3 0 (-1) (-1) (-1) (-1) 0 [])])])]) (i:=0) (show [(Fld.mk 8 0 12 (-1) (-1) 0 0 []),(Fld.mk 7 13 (-1) (-1) (-1) 0 0 []),(Fld.mk 11 0 (-1) (-1) (-1) 0 10 [(Fld.mk 3 0 (-1) (-1) (-1) 0 0 []),(Fld.mk 2 0 (-1) (-1) (-1) 0 0 []),(Fld.mk 4 0 (-1) (-1) (-1) 0 0 []),(Fld.mk 4 2 (-1) (-1) (-1) (-1) 0 []),(Fld.mk 4 5 (-1) (-1) (-1) (-1) 0 []),(Fld.mk 11 8 (-1) (-1) (-1) 0 10 [(Fld.mk 3 0 (-1) (-1) (-1) 0 0 []),(Fld.mk 8 0 (-1) 0 (-1) 0 0 [])]),(Fld.mk 8 8 (-1) 8 (-1) 0 0 []),(Fld.mk 10 0 (-1) (-1) 0 0 0 [(Fld.mk 3 0 (-1) (-1) (-1) (-1) 0 []),(Fld.mk 3 0 (-1) (-1) (-1) (-1) 0 [])])])][0]? = _ from rfl) (by decide)
  have aI:((C5 v 7 [(Fld.mk 8 0 12 (-1) (-1) 0 0 []),(Fld.mk 7 13 (-1) (-1) (-1) 0 0 []),(Fld.mk 11 0 (-1) (-1) (-1) 0 10 [(Fld.mk 3 0 (-1) (-1) (-1) 0 0 []),(Fld.mk 2 0 (-1) (-1) (-1) 0 0 []),(Fld.mk 4 0 (-1) (-1) (-1) 0 0 []),(Fld.mk 4 2 (-1) (-1) (-1) (-1) 0 []),(Fld.mk 4 5 (-1) (-1) (-1) (-1) 0 []),(Fld.mk 11 8 (-1) (-1) (-1) 0 10 [(Fld.mk 3 0 (-1) (-1) (-1) 0 0 []),(Fld.mk 8 0 (-1) 0 (-1) 0 0 [])]),(Fld.mk 8 8 (-1) 8 (-1) 0 0 []),(Fld.mk 10 0 (-1) (-1) 0 0 0 [(Fld.mk 3 0 (-1) (-1) (-1) (-1) 0 []),(Fld.mk 3 0 (-1) (-1) (-1) (-1) 0 [])])])] ai).at_ 1).S = (ai.at_ 1).S:=Mu (d:=6) (show [(Fld.mk 8 0 12 (-1) (-1) 0 0 []),(Fld.mk 7 13 (-1) (-1) (-1) 0 0 []),(Fld.mk 11 0 (-1) (-1) (-1) 0 10 [(Fld.mk 3 0 (-1) (-1) (-1) 0 0 []),(Fld.mk 2 0 (-1) (-1) (-1) 0 0 []),(Fld.mk 4 0 (-1) (-1) (-1) 0 0 []),(Fld.mk 4 2 (-1) (-1) (-1) (-1) 0 []),(Fld.mk 4 5 (-1) (-1) (-1) (-1) 0 []),(Fld.mk 11 8 (-1) (-1) (-1) 0 10 [(Fld.mk 3 0 (-1) (-1) (-1) 0 0 []),(Fld.mk 8 0 (-1) 0 (-1) 0 0 [])]),(Fld.mk 8 8 (-1) 8 (-1) 0 0 []),(Fld.mk 10 0 (-1) (-1) 0 0 0 [(Fld.mk 3 0 (-1) (-1) (-1) (-1) 0 []),(Fld.mk 3 0 (-1) (-1) (-1) (-1) 0 [])])])][1]? = _ from rfl) (by decide)
  obtain ⟨f50n,aJ⟩:=Dg (v:=v) (d:=6) (t:=ai) (l:=[(Fld.mk 8 0 12 (-1) (-1) 0 0 []),(Fld.mk 7 13 (-1) (-1) (-1) 0 0 []),(Fld.mk 11 0 (-1) (-1) (-1) 0 10 [(Fld.mk 3 0 (-1) (-1) (-1) 0 0 []),(Fld.mk 2 0 (-1) (-1) (-1) 0 0 []),(Fld.mk 4 0 (-1) (-1) (-1) 0 0 []),(Fld.mk 4 2 (-1) (-1) (-1) (-1) 0 []),(Fld.mk 4 5 (-1) (-1) (-1) (-1) 0 []),(Fld.mk 11 8 (-1) (-1) (-1) 0 10 [(Fld.mk 3 0 (-1) (-1) (-1) 0 0 []),(Fld.mk 8 0 (-1) 0 (-1) 0 0 [])]),(Fld.mk 8 8 (-1) 8 (-1) 0 0 []),(Fld.mk 10 0 (-1) (-1) 0 0 0 [(Fld.mk 3 0 (-1) (-1) (-1) (-1) 0 []),(Fld.mk 3 0 (-1) (-1) (-1) (-1) 0 [])])])]) (i:=2) (show [(Fld.mk 8 0 12 (-1) (-1) 0 0 []),(Fld.mk 7 13 (-1) (-1) (-1) 0 0 []),(Fld.mk 11 0 (-1) (-1) (-1) 0 10 [(Fld.mk 3 0 (-1) (-1) (-1) 0 0 []),(Fld.mk 2 0 (-1) (-1) (-1) 0 0 []),(Fld.mk 4 0 (-1) (-1) (-1) 0 0 []),(Fld.mk 4 2 (-1) (-1) (-1) (-1) 0 []),(Fld.mk 4 5 (-1) (-1) (-1) (-1) 0 []),(Fld.mk 11 8 (-1) (-1) (-1) 0 10 [(Fld.mk 3 0 (-1) (-1) (-1) 0 0 []),(Fld.mk 8 0 (-1) 0 (-1) 0 0 [])]),(Fld.mk 8 8 (-1) 8 (-1) 0 0 []),(Fld.mk 10 0 (-1) (-1) 0 0 0 [(Fld.mk 3 0 (-1) (-1) (-1) (-1) 0 []),(Fld.mk 3 0 (-1) (-1) (-1) (-1) 0 [])])])][2]? = _ from rfl)
  have ap:∀ af:Tree,(fun ab:Tree=>(be 4 ((IntKind.i32.wrap (ab.at_ 0).N))) ++ ((be 2 ((IntKind.i16.wrap (ab.at_ 1).N))) ++ ((be 8 ((ab.at_ 2).N)) ++ ((if (decide (v ≥ 2)) = true then be 8 ((ab.at_ 3).N) else []) ++ ((if (decide (v ≥ 5)) = true then be 8 ((ab.at_ 4).N) else []) ++ ((if (decide (v ≥ 8)) = true then (if (decide (v ≥ 9)) = true then (uv ((lst (ab.at_ 5)).length + 1)) else (be 4 (lst (ab.at_ 5)).length)) ++ ((lst (ab.at_ 5)).flatMap fun ac=>(be 4 ((IntKind.i32.wrap (ac.at_ 0).N))) ++ ((if (decide (v ≥ 9)) = true then (if (ac.at_ 1).null = true then uv 0 else uv ((D9 (ac.at_ 1)).length + 1) ++ (D9 (ac.at_ 1))) else (if (ac.at_ 1).null = true then be 2 (-1) else be 2 (D9 (ac.at_ 1)).length ++ (D9 (ac.at_ 1)))) ++ (if (decide (v ≥ 9)) = true then (uv ac.U.length) ++ (D7 ac.U) else []))) else []) ++ ((if (decide (v ≥ 8)) = true then if (decide (v ≥ 9)) = true then (if (ab.at_ 6).null = true then uv 0 else uv ((D9 (ab.at_ 6)).length + 1) ++ (D9 (ab.at_ 6))) else (if (ab.at_ 6).null = true then be 2 (-1) else be 2 (D9 (ab.at_ 6)).length ++ (D9 (ab.at_ 6))) else []) ++ (if (decide (v ≥ 9)) = true then (uv (B5 (!((decide (be 4 ((ab.at_ 7).at_ 0).N = be 4 (-1))) && (decide (be 4 ((ab.at_ 7).at_ 1).N = be 4 (-1))) && decide ((ab.at_ 7).U.length = 0))) + ab.U.length)) ++ ((G8 (!((decide (be 4 ((ab.at_ 7).at_ 0).N = be 4 (-1))) && (decide (be 4 ((ab.at_ 7).at_ 1).N = be 4 (-1))) && decide ((ab.at_ 7).U.length = 0))) 0 (((be 4 ((IntKind.i32.wrap ((ab.at_ 7).at_ 0).N))) ++ ((be 4 ((IntKind.i32.wrap ((ab.at_ 7).at_ 1).N))) ++ (if (decide (v ≥ 9)) = true then (uv (ab.at_ 7).U.length) ++ (D7 (ab.at_ 7).U) else []))))) ++ (D7 ab.U)) else [])))))))) (N2 (C5 v 6) (Fld.mk 10 0 (-1) (-1) (-1) 0 10 [(Fld.mk 3 0 (-1) (-1) (-1) 0 0 []),(Fld.mk 2 0 (-1) (-1) (-1) 0 0 []),(Fld.mk 4 0 (-1) (-1) (-1) 0 0 []),(Fld.mk 4 2 (-1) (-1) (-1) (-1) 0 []),(Fld.mk 4 5 (-1) (-1) (-1) (-1) 0 []),(Fld.mk 11 8 (-1) (-1) (-1) 0 10 [(Fld.mk 3 0 (-1) (-1) (-1) 0 0 []),(Fld.mk 8 0 (-1) 0 (-1) 0 0 [])]),(Fld.mk 8 8 (-1) 8 (-1) 0 0 []),(Fld.mk 10 0 (-1) (-1) 0 0 0 [(Fld.mk 3 0 (-1) (-1) (-1) (-1) 0 []),(Fld.mk 3 0 (-1) (-1) (-1) (-1) 0 [])])]) (Fld.nul (Fld.mk 10 0 (-1) (-1) (-1) 0 10 [(Fld.mk 3 0 (-1) (-1) (-1) 0 0 []),(Fld.mk 2 0 (-1) (-1) (-1) 0 0 []),(Fld.mk 4 0 (-1) (-1) (-1) 0 0 []),(Fld.mk 4 2 (-1) (-1) (-1) (-1) 0 []),(Fld.mk 4 5 (-1) (-1) (-1) (-1) 0 []),(Fld.mk 11 8 (-1) (-1) (-1) 0 10 [(Fld.mk 3 0 (-1) (-1) (-1) 0 0 []),(Fld.mk 8 0 (-1) 0 (-1) 0 0 [])]),(Fld.mk 8 8 (-1) 8 (-1) 0 0 []),(Fld.mk 10 0 (-1) (-1) 0 0 0 [(Fld.mk 3 0 (-1) (-1) (-1) (-1) 0 []),(Fld.mk 3 0 (-1) (-1) (-1) (-1) 0 [])])]) v af) af) = D4 6 [(Fld.mk 3 0 (-1) (-1) (-1) 0 0 []),(Fld.mk 2 0 (-1) (-1) (-1) 0 0 []),(Fld.mk 4 0 (-1) (-1) (-1) 0 0 []),(Fld.mk 4 2 (-1) (-1) (-1) (-1) 0 []),(Fld.mk 4 5 (-1) (-1) (-1) (-1) 0 []),(Fld.mk 11 8 (-1) (-1) (-1) 0 10 [(Fld.mk 3 0 (-1) (-1) (-1) 0 0 []),(Fld.mk 8 0 (-1) 0 (-1) 0 0 [])]),(Fld.mk 8 8 (-1) 8 (-1) 0 0 []),(Fld.mk 10 0 (-1) (-1) 0 0 0 [(Fld.mk 3 0 (-1) (-1) (-1) (-1) 0 []),(Fld.mk 3 0 (-1) (-1) (-1) (-1) 0 [])])] v (decide (v ≥ 9)) af:=by
   intro af
   dsimp only
   obtain ⟨ar,au⟩:=Y4 (v:=v) (d:=6) (x1:=0) (x2:=-1) (x5:=0) (x6:=10) (s:=[(Fld.mk 3 0 (-1) (-1) (-1) 0 0 []),(Fld.mk 2 0 (-1) (-1) (-1) 0 0 []),(Fld.mk 4 0 (-1) (-1) (-1) 0 0 []),(Fld.mk 4 2 (-1) (-1) (-1) (-1) 0 []),(Fld.mk 4 5 (-1) (-1) (-1) (-1) 0 []),(Fld.mk 11 8 (-1) (-1) (-1) 0 10 [(Fld.mk 3 0 (-1) (-1) (-1) 0 0 []),(Fld.mk 8 0 (-1) 0 (-1) 0 0 [])]),(Fld.mk 8 8 (-1) 8 (-1) 0 0 []),(Fld.mk 10 0 (-1) (-1) 0 0 0 [(Fld.mk 3 0 (-1) (-1) (-1) (-1) 0 []),(Fld.mk 3 0 (-1) (-1) (-1) (-1) 0 [])])]) (b:=Fld.nul (Fld.mk 10 0 (-1) (-1) (-1) 0 10 [(Fld.mk 3 0 (-1) (-1) (-1) 0 0 []),(Fld.mk 2 0 (-1) (-1) (-1) 0 0 []),(Fld.mk 4 0 (-1) (-1) (-1) 0 0 []),(Fld.mk 4 2 (-1) (-1) (-1) (-1) 0 []),(Fld.mk 4 5 (-1) (-1) (-1) (-1) 0 []),(Fld.mk 11 8 (-1) (-1) (-1) 0 10 [(Fld.mk 3 0 (-1) (-1) (-1) 0 0 []),(Fld.mk 8 0 (-1) 0 (-1) 0 0 [])]),(Fld.mk 8 8 (-1) 8 (-1) 0 0 []),(Fld.mk 10 0 (-1) (-1) 0 0 0 [(Fld.mk 3 0 (-1) (-1) (-1) (-1) 0 []),(Fld.mk 3 0 (-1) (-1) (-1) (-1) 0 [])])]) v af) (x:=af)
   simp only [ar,au]
   have aK:((C5 v 6 [(Fld.mk 3 0 (-1) (-1) (-1) 0 0 []),(Fld.mk 2 0 (-1) (-1) (-1) 0 0 []),(Fld.mk 4 0 (-1) (-1) (-1) 0 0 []),(Fld.mk 4 2 (-1) (-1) (-1) (-1) 0 []),(Fld.mk 4 5 (-1) (-1) (-1) (-1) 0 []),(Fld.mk 11 8 (-1) (-1) (-1) 0 10 [(Fld.mk 3 0 (-1) (-1) (-1) 0 0 []),(Fld.mk 8 0 (-1) 0 (-1) 0 0 [])]),(Fld.mk 8 8 (-1) 8 (-1) 0 0 []),(Fld.mk 10 0 (-1) (-1) 0 0 0 [(Fld.mk 3 0 (-1) (-1) (-1) (-1) 0 []),(Fld.mk 3 0 (-1) (-1) (-1) (-1) 0 [])])] af).at_ 0).N = (af.at_ 0).N:=S8 (d:=5) (show [(Fld.mk 3 0 (-1) (-1) (-1) 0 0 []),(Fld.mk 2 0 (-1) (-1) (-1) 0 0 []),(Fld.mk 4 0 (-1) (-1) (-1) 0 0 []),(Fld.mk 4 2 (-1) (-1) (-1) (-1) 0 []),(Fld.mk 4 5 (-1) (-1) (-1) (-1) 0 []),(Fld.mk 11 8 (-1) (-1) (-1) 0 10 [(Fld.mk 3 0 (-1) (-1) (-1) 0 0 []),(Fld.mk 8 0 (-1) 0 (-1) 0 0 [])]),(Fld.mk 8 8 (-1) 8 (-1) 0 0 []),(Fld.mk 10 0 (-1) (-1) 0 0 0 [(Fld.mk 3 0 (-1) (-1) (-1) (-1) 0 []),(Fld.mk 3 0 (-1) (-1) (-1) (-1) 0 [])])][0]? = _ from rfl) (by decide)
   have aL:((C5 v 6 [(Fld.mk 3 0 (-1) (-1) (-1) 0 0 []),(Fld.mk 2 0 (-1) (-1) (-1) 0 0 []),(Fld.mk 4 0 (-1) (-1) (-1) 0 0 []),(Fld.mk 4 2 (-1) (-1) (-1) (-1) 0 []),(Fld.mk 4 5 (-1) (-1) (-1) (-1) 0 []),(Fld.mk 11 8 (-1) (-1) (-1) 0 10 [(Fld.mk 3 0 (-1) (-1) (-1) 0 0 []),(Fld.mk 8 0 (-1) 0 (-1) 0 0 [])]),(Fld.mk 8 8 (-1) 8 (-1) 0 0 []),(Fld.mk 10 0 (-1) (-1) 0 0 0 [(Fld.mk 3 0 (-1) (-1) (-1) (-1) 0 []),(Fld.mk 3 0 (-1) (-1) (-1) (-1) 0 [])])] af).at_ 1).N = (af.at_ 1).N:=S8 (d:=5) (show [(Fld.mk 3 0 (-1) (-1) (-1) 0 0 []),(Fld.mk 2 0 (-1) (-1) (-1) 0 0 []),(Fld.mk 4 0 (-1) (-1) (-1) 0 0 []),(Fld.mk 4 2 (-1) (-1) (-1) (-1) 0 []),(Fld.mk 4 5 (-1) (-1) (-1) (-1) 0 []),(Fld.mk 11 8 (-1) (-1) (-1) 0 10 [(Fld.mk 3 0 (-1) (-1) (-1) 0 0 []),(Fld.mk 8 0 (-1) 0 (-1) 0 0 [])]),(Fld.mk 8 8 (-1) 8 (-1) 0 0 []),(Fld.mk 10 0 (-1) (-1) 0 0 0 [(Fld.mk 3 0 (-1) (-1) (-1) (-1) 0 []),(Fld.mk 3 0 (-1) (-1) (-1) (-1) 0 [])])][1]? = _ from rfl) (by decide)
   have aM:((C5 v 6 [(Fld.mk 3 0 (-1) (-1) (-1) 0 0 []),(Fld.mk 2 0 (-1) (-1) (-1) 0 0 []),(Fld.mk 4 0 (-1) (-1) (-1) 0 0 []),(Fld.mk 4 2 (-1) (-1) (-1) (-1) 0 []),(Fld.mk 4 5 (-1) (-1) (-1) (-1) 0 []),(Fld.mk 11 8 (-1) (-1) (-1) 0 10 [(Fld.mk 3 0 (-1) (-1) (-1) 0 0 []),(Fld.mk 8 0 (-1) 0 (-1) 0 0 [])]),(Fld.mk 8 8 (-1) 8 (-1) 0 0 []),(Fld.mk 10 0 (-1) (-1) 0 0 0 [(Fld.mk 3 0 (-1) (-1) (-1) (-1) 0 []),(Fld.mk 3 0 (-1) (-1) (-1) (-1) 0 [])])] af).at_ 2).N = (af.at_ 2).N:=S8 (d:=5) (show [(Fld.mk 3 0 (-1) (-1) (-1) 0 0 []),(Fld.mk 2 0 (-1) (-1) (-1) 0 0 []),(Fld.mk 4 0 (-1) (-1) (-1) 0 0 []),(Fld.mk 4 2 (-1) (-1) (-1) (-1) 0 []),(Fld.mk 4 5 (-1) (-1) (-1) (-1) 0 []),(Fld.mk 11 8 (-1) (-1) (-1) 0 10 [(Fld.mk 3 0 (-1) (-1) (-1) 0 0 []),(Fld.mk 8 0 (-1) 0 (-1) 0 0 [])]),(Fld.mk 8 8 (-1) 8 (-1) 0 0 []),(Fld.mk 10 0 (-1) (-1) 0 0 0 [(Fld.mk 3 0 (-1) (-1) (-1) (-1) 0 []),(Fld.mk 3 0 (-1) (-1) (-1) (-1) 0 [])])][2]? = _ from rfl) (by decide)
   have aN:((C5 v 6 [(Fld.mk 3 0 (-1) (-1) (-1) 0 0 []),(Fld.mk 2 0 (-1) (-1) (-1) 0 0 []),(Fld.mk 4 0 (-1) (-1) (-1) 0 0 []),(Fld.mk 4 2 (-1) (-1) (-1) (-1) 0 []),(Fld.mk 4 5 (-1) (-1) (-1) (-1) 0 []),(Fld.mk 11 8 (-1) (-1) (-1) 0 10 [(Fld.mk 3 0 (-1) (-1) (-1) 0 0 []),(Fld.mk 8 0 (-1) 0 (-1) 0 0 [])]),(Fld.mk 8 8 (-1) 8 (-1) 0 0 []),(Fld.mk 10 0 (-1) (-1) 0 0 0 [(Fld.mk 3 0 (-1) (-1) (-1) (-1) 0 []),(Fld.mk 3 0 (-1) (-1) (-1) (-1) 0 [])])] af).at_ 3).N = (af.at_ 3).N:=S8 (d:=5) (show [(Fld.mk 3 0 (-1) (-1) (-1) 0 0 []),(Fld.mk 2 0 (-1) (-1) (-1) 0 0 []),(Fld.mk 4 0 (-1) (-1) (-1) 0 0 []),(Fld.mk 4 2 (-1) (-1) (-1) (-1) 0 []),(Fld.mk 4 5 (-1) (-1) (-1) (-1) 0 []),(Fld.mk 11 8 (-1) (-1) (-1) 0 10 [(Fld.mk 3 0 (-1) (-1) (-1) 0 0 []),(Fld.mk 8 0 (-1) 0 (-1) 0 0 [])]),(Fld.mk 8 8 (-1) 8 (-1) 0 0 []),(Fld.mk 10 0 (-1) (-1) 0 0 0 [(Fld.mk 3 0 (-1) (-1) (-1) (-1) 0 []),(Fld.mk 3 0 (-1) (-1) (-1) (-1) 0 [])])][3]? = _ from rfl) (by decide)
   have aO:((C5 v 6 [(Fld.mk 3 0 (-1) (-1) (-1) 0 0 []),(Fld.mk 2 0 (-1) (-1) (-1) 0 0 []),(Fld.mk 4 0 (-1) (-1) (-1) 0 0 []),(Fld.mk 4 2 (-1) (-1) (-1) (-1) 0 []),(Fld.mk 4 5 (-1) (-1) (-1) (-1) 0 []),(Fld.mk 11 8 (-1) (-1) (-1) 0 10 [(Fld.mk 3 0 (-1) (-1) (-1) 0 0 []),(Fld.mk 8 0 (-1) 0 (-1) 0 0 [])]),(Fld.mk 8 8 (-1) 8 (-1) 0 0 []),(Fld.mk 10 0 (-1) (-1) 0 0 0 [(Fld.mk 3 0 (-1) (-1) (-1) (-1) 0 []),(Fld.mk 3 0 (-1) (-1) (-1) (-1) 0 [])])] af).at_ 4).N = (af.at_ 4).N:=S8 (d:=5) (show [(Fld.mk 3 0 (-1) (-1) (-1) 0 0 []),(Fld.mk 2 0 (-1) (-1) (-1) 0 0 []),(Fld.mk 4 0 (-1) (-1) (-1) 0 0 []),(Fld.mk 4 2 (-1) (-1) (-1) (-1) 0 []),(Fld.mk 4 5 (-1) (-1) (-1) (-1) 0 []),(Fld.mk 11 8 (-1) (-1) (-1) 0 10 [(Fld.mk 3 0 (-1) (-1) (-1) 0 0 []),(Fld.mk 8 0 (-1) 0 (-1) 0 0 [])]),(Fld.mk 8 8 (-1) 8 (-1) 0 0 []),(Fld.mk 10 0 (-1) (-1) 0 0 0 [(Fld.mk 3 0 (-1) (-1) (-1) (-1) 0 []),(Fld.mk 3 0 (-1) (-1) (-1) (-1) 0 [])])][4]? = _ from rfl) (by decide)
   obtain ⟨f59n,aP⟩:=Dg (v:=v) (d:=5) (t:=af) (l:=[(Fld.mk 3 0 (-1) (-1) (-1) 0 0 []),(Fld.mk 2 0 (-1) (-1) (-1) 0 0 []),(Fld.mk 4 0 (-1) (-1) (-1) 0 0 []),(Fld.mk 4 2 (-1) (-1) (-1) (-1) 0 []),(Fld.mk 4 5 (-1) (-1) (-1) (-1) 0 []),(Fld.mk 11 8 (-1) (-1) (-1) 0 10 [(Fld.mk 3 0 (-1) (-1) (-1) 0 0 []),(Fld.mk 8 0 (-1) 0 (-1) 0 0 [])]),(Fld.mk 8 8 (-1) 8 (-1) 0 0 []),(Fld.mk 10 0 (-1) (-1) 0 0 0 [(Fld.mk 3 0 (-1) (-1) (-1) (-1) 0 []),(Fld.mk 3 0 (-1) (-1) (-1) (-1) 0 [])])]) (i:=5) (show [(Fld.mk 3 0 (-1) (-1) (-1) 0 0 []),(Fld.mk 2 0 (-1) (-1) (-1) 0 0 []),(Fld.mk 4 0 (-1) (-1) (-1) 0 0 []),(Fld.mk 4 2 (-1) (-1) (-1) (-1) 0 []),(Fld.mk 4 5 (-1) (-1) (-1) (-1) 0 []),(Fld.mk 11 8 (-1) (-1) (-1) 0 10 [(Fld.mk 3 0 (-1) (-1) (-1) 0 0 []),(Fld.mk 8 0 (-1) 0 (-1) 0 0 [])]),(Fld.mk 8 8 (-1) 8 (-1) 0 0 []),(Fld.mk 10 0 (-1) (-1) 0 0 0 [(Fld.mk 3 0 (-1) (-1) (-1) (-1) 0 []),(Fld.mk 3 0 (-1) (-1) (-1) (-1) 0 [])])][5]? = _ from rfl)
   have aB:=De (v:=v) (d:=5) (t:=af) (l:=[(Fld.mk 3 0 (-1) (-1) (-1) 0 0 []),(Fld.mk 2 0 (-1) (-1) (-1) 0 0 []),(Fld.mk 4 0 (-1) (-1) (-1) 0 0 []),(Fld.mk 4 2 (-1) (-1) (-1) (-1) 0 []),(Fld.mk 4 5 (-1) (-1) (-1) (-1) 0 []),(Fld.mk 11 8 (-1) (-1) (-1) 0 10 [(Fld.mk 3 0 (-1) (-1) (-1) 0 0 []),(Fld.mk 8 0 (-1) 0 (-1) 0 0 [])]),(Fld.mk 8 8 (-1) 8 (-1) 0 0 []),(Fld.mk 10 0 (-1) (-1) 0 0 0 [(Fld.mk 3 0 (-1) (-1) (-1) (-1) 0 []),(Fld.mk 3 0 (-1) (-1) (-1) (-1) 0 [])])]) (i:=6) (show [(Fld.mk 3 0 (-1) (-1) (-1) 0 0 []),(Fld.mk 2 0 (-1) (-1) (-1) 0 0 []),(Fld.mk 4 0 (-1) (-1) (-1) 0 0 []),(Fld.mk 4 2 (-1) (-1) (-1) (-1) 0 []),(Fld.mk 4 5 (-1) (-1) (-1) (-1) 0 []),(Fld.mk 11 8 (-1) (-1) (-1) 0 10 [(Fld.mk 3 0 (-1) (-1) (-1) 0 0 []),(Fld.mk 8 0 (-1) 0 (-1) 0 0 [])]),(Fld.mk 8 8 (-1) 8 (-1) 0 0 []),(Fld.mk 10 0 (-1) (-1) 0 0 0 [(Fld.mk 3 0 (-1) (-1) (-1) (-1) 0 []),(Fld.mk 3 0 (-1) (-1) (-1) (-1) 0 [])])][6]? = _ from rfl) (by decide)
   have ak:(C2 [(Fld.mk 3 0 (-1) (-1) (-1) (-1) 0 []),(Fld.mk 3 0 (-1) (-1) (-1) (-1) 0 [])]).toNat = 0:=by decide +kernel
   obtain ⟨aQ,f61u,f61n⟩:=Gp (v:=v) (d:=5) (t:=af) (l:=[(Fld.mk 3 0 (-1) (-1) (-1) 0 0 []),(Fld.mk 2 0 (-1) (-1) (-1) 0 0 []),(Fld.mk 4 0 (-1) (-1) (-1) 0 0 []),(Fld.mk 4 2 (-1) (-1) (-1) (-1) 0 []),(Fld.mk 4 5 (-1) (-1) (-1) (-1) 0 []),(Fld.mk 11 8 (-1) (-1) (-1) 0 10 [(Fld.mk 3 0 (-1) (-1) (-1) 0 0 []),(Fld.mk 8 0 (-1) 0 (-1) 0 0 [])]),(Fld.mk 8 8 (-1) 8 (-1) 0 0 []),(Fld.mk 10 0 (-1) (-1) 0 0 0 [(Fld.mk 3 0 (-1) (-1) (-1) (-1) 0 []),(Fld.mk 3 0 (-1) (-1) (-1) (-1) 0 [])])]) (i:=7) (show [(Fld.mk 3 0 (-1) (-1) (-1) 0 0 []),(Fld.mk 2 0 (-1) (-1) (-1) 0 0 []),(Fld.mk 4 0 (-1) (-1) (-1) 0 0 []),(Fld.mk 4 2 (-1) (-1) (-1) (-1) 0 []),(Fld.mk 4 5 (-1) (-1) (-1) (-1) 0 []),(Fld.mk 11 8 (-1) (-1) (-1) 0 10 [(Fld.mk 3 0 (-1) (-1) (-1) 0 0 []),(Fld.mk 8 0 (-1) 0 (-1) 0 0 [])]),(Fld.mk 8 8 (-1) 8 (-1) 0 0 []),(Fld.mk 10 0 (-1) (-1) 0 0 0 [(Fld.mk 3 0 (-1) (-1) (-1) (-1) 0 []),(Fld.mk 3 0 (-1) (-1) (-1) (-1) 0 [])])][7]? = _ from rfl)
   have aR:((C5 v 5 [(Fld.mk 3 0 (-1) (-1) (-1) (-1) 0 []),(Fld.mk 3 0 (-1) (-1) (-1) (-1) 0 [])] (af.at_ 7)).at_ 0).N = ((af.at_ 7).at_ 0).N:=S8 (d:=4) (show [(Fld.mk 3 0 (-1) (-1) (-1) (-1) 0 []),(Fld.mk 3 0 (-1) (-1) (-1) (-1) 0 [])][0]? = _ from rfl) (by decide)
   have aS:((C5 v 5 [(Fld.mk 3 0 (-1) (-1) (-1) (-1) 0 []),(Fld.mk 3 0 (-1) (-1) (-1) (-1) 0 [])] (af.at_ 7)).at_ 1).N = ((af.at_ 7).at_ 1).N:=S8 (d:=4) (show [(Fld.mk 3 0 (-1) (-1) (-1) (-1) 0 []),(Fld.mk 3 0 (-1) (-1) (-1) (-1) 0 [])][1]? = _ from rfl) (by decide)
   have av:∀ aj:Tree,(fun ac:Tree=>(be 4 ((IntKind.i32.wrap (ac.at_ 0).N))) ++ ((if (decide (v ≥ 9)) = true then (if (ac.at_ 1).null = true then uv 0 else uv ((D9 (ac.at_ 1)).length + 1) ++ (D9 (ac.at_ 1))) else (if (ac.at_ 1).null = true then be 2 (-1) else be 2 (D9 (ac.at_ 1)).length ++ (D9 (ac.at_ 1)))) ++ (if (decide (v ≥ 9)) = true then (uv ac.U.length) ++ (D7 ac.U) else []))) (N2 (C5 v 5) (Fld.mk 10 8 (-1) (-1) (-1) 0 10 [(Fld.mk 3 0 (-1) (-1) (-1) 0 0 []),(Fld.mk 8 0 (-1) 0 (-1) 0 0 [])]) (Fld.nul (Fld.mk 10 8 (-1) (-1) (-1) 0 10 [(Fld.mk 3 0 (-1) (-1) (-1) 0 0 []),(Fld.mk 8 0 (-1) 0 (-1) 0 0 [])]) v aj) aj) = D4 5 [(Fld.mk 3 0 (-1) (-1) (-1) 0 0 []),(Fld.mk 8 0 (-1) 0 (-1) 0 0 [])] v (decide (v ≥ 9)) aj:=by
    intro aj
    dsimp only
    obtain ⟨aw,ax⟩:=Y4 (v:=v) (d:=5) (x1:=8) (x2:=-1) (x5:=0) (x6:=10) (s:=[(Fld.mk 3 0 (-1) (-1) (-1) 0 0 []),(Fld.mk 8 0 (-1) 0 (-1) 0 0 [])]) (b:=Fld.nul (Fld.mk 10 8 (-1) (-1) (-1) 0 10 [(Fld.mk 3 0 (-1) (-1) (-1) 0 0 []),(Fld.mk 8 0 (-1) 0 (-1) 0 0 [])]) v aj) (x:=aj)
    simp only [aw,ax]
    have aT:((C5 v 5 [(Fld.mk 3 0 (-1) (-1) (-1) 0 0 []),(Fld.mk 8 0 (-1) 0 (-1) 0 0 [])] aj).at_ 0).N = (aj.at_ 0).N:=S8 (d:=4) (show [(Fld.mk 3 0 (-1) (-1) (-1) 0 0 []),(Fld.mk 8 0 (-1) 0 (-1) 0 0 [])][0]? = _ from rfl) (by decide)
    have aC:=De (v:=v) (d:=4) (t:=aj) (l:=[(Fld.mk 3 0 (-1) (-1) (-1) 0 0 []),(Fld.mk 8 0 (-1) 0 (-1) 0 0 [])]) (i:=1) (show [(Fld.mk 3 0 (-1) (-1) (-1) 0 0 []),(Fld.mk 8 0 (-1) 0 (-1) 0 0 [])][1]? = _ from rfl) (by decide)
    simp only [Y1,Ct,Bf,List.flatMap_map,List.length_map,aT,aC.1,aC.2]
    try simp only [be4_i32',BB,Y2,Cu,Bv,Cv,Cy,Cx]
    have rg_:v < 1 ∨ (1 ≤ v ∧ v < 2) ∨ (2 ≤ v ∧ v < 5) ∨ (5 ≤ v ∧ v < 8) ∨ (8 ≤ v ∧ v < 9) ∨ (9 ≤ v ∧ v < 13) ∨ 13 ≤ v:=by omega
    rcases rg_ with g_ | g_ | g_ | g_ | g_ | g_ | g_ <;>
     ((first | have c0:v ≤ 12:=by omega | have c0:¬ v ≤ 12:=by omega); (first | have c1:v ≥ 1:=by omega | have c1:¬ v ≥ 1:=by omega); (first | have c2:v ≥ 2:=by omega | have c2:¬ v ≥ 2:=by omega); (first | have c3:v ≥ 5:=by omega | have c3:¬ v ≥ 5:=by omega); (first | have c4:v ≥ 8:=by omega | have c4:¬ v ≥ 8:=by omega); (first | have c5:v ≥ 9:=by omega | have c5:¬ v ≥ 9:=by omega); (first | have c6:v ≥ 13:=by omega | have c6:¬ v ≥ 13:=by omega); first | (simp [D4,N1,D0,Fld.tag,Fld.has,M3,Fld.kind,Fld.null,Fld.of,Fld.sub,E3,H8,D3,C3,C2,D2,V6,V7,c0,c1,c2,c3,c4,c5,c6,h0]; done) | (by_cases n0:Fld.nul (Fld.mk 8 0 (-1) 0 (-1) 0 0 []) v (aj.at_ 1) = true <;> (try have m0:=El n0) <;> (simp [D4,N1,D0,Fld.tag,Fld.has,M3,Fld.kind,Fld.null,Fld.of,Fld.sub,E3,H8,D3,C3,C2,D2,V6,V7,c0,c1,c2,c3,c4,c5,c6,n0,h0])))
   simp only [Y1,Ct,Bf,List.flatMap_map,List.length_map,aK,aL,aM,aN,aO,f59n,aP,aB.1,aB.2,aQ,f61u,aR,aS]
   simp only [av]
   try simp only [be4_i32',BB,Y2,Cu,Bv,Cv,Cy,Cx]
   have hkn:(C2 [(Fld.mk 3 0 (-1) (-1) (-1) 0 0 []),(Fld.mk 2 0 (-1) (-1) (-1) 0 0 []),(Fld.mk 4 0 (-1) (-1) (-1) 0 0 []),(Fld.mk 4 2 (-1) (-1) (-1) (-1) 0 []),(Fld.mk 4 5 (-1) (-1) (-1) (-1) 0 []),(Fld.mk 11 8 (-1) (-1) (-1) 0 10 [(Fld.mk 3 0 (-1) (-1) (-1) 0 0 []),(Fld.mk 8 0 (-1) 0 (-1) 0 0 [])]),(Fld.mk 8 8 (-1) 8 (-1) 0 0 []),(Fld.mk 10 0 (-1) (-1) 0 0 0 [(Fld.mk 3 0 (-1) (-1) (-1) (-1) 0 []),(Fld.mk 3 0 (-1) (-1) (-1) (-1) 0 [])])]).toNat = 1:=by decide +kernel
   have rg_:v < 1 ∨ (1 ≤ v ∧ v < 2) ∨ (2 ≤ v ∧ v < 5) ∨ (5 ≤ v ∧ v < 8) ∨ (8 ≤ v ∧ v < 9) ∨ (9 ≤ v ∧ v < 13) ∨ 13 ≤ v:=by omega
   rcases rg_ with g_ | g_ | g_ | g_ | g_ | g_ | g_ <;>
    ((first | have c0:v ≤ 12:=by omega | have c0:¬ v ≤ 12:=by omega); (first | have c1:v ≥ 1:=by omega | have c1:¬ v ≥ 1:=by omega); (first | have c2:v ≥ 2:=by omega | have c2:¬ v ≥ 2:=by omega); (first | have c3:v ≥ 5:=by omega | have c3:¬ v ≥ 5:=by omega); (first | have c4:v ≥ 8:=by omega | have c4:¬ v ≥ 8:=by omega); (first | have c5:v ≥ 9:=by omega | have c5:¬ v ≥ 9:=by omega); (first | have c6:v ≥ 13:=by omega | have c6:¬ v ≥ 13:=by omega); first | (simp [D4,N1,D0,Fld.tag,Fld.has,M3,Fld.kind,Fld.null,Fld.of,Fld.sub,E3,H8,D3,C3,hkn,ak,D2,V6,V7,H3,H4,Fld.usual,Fld.usual.usuals,B5,G8,C8,c0,c1,c2,c3,c4,c5,c6,h0]; done) | (by_cases bL0:be 4 ((af.at_ 7).at_ 0).N = be 4 (-1) <;> by_cases bL1:be 4 ((af.at_ 7).at_ 1).N = be 4 (-1) <;> by_cases bL2:(C6 [(Fld.mk 3 0 (-1) (-1) (-1) (-1) 0 []),(Fld.mk 3 0 (-1) (-1) (-1) (-1) 0 [])] (af.at_ 7).U).length = 0 <;> by_cases n0:Fld.nul (Fld.mk 8 8 (-1) 8 (-1) 0 0 []) v (af.at_ 6) = true <;> (try have m0:=El n0) <;> (simp [D4,N1,D0,Fld.tag,Fld.has,M3,Fld.kind,Fld.null,Fld.of,Fld.sub,E3,H8,D3,C3,hkn,ak,D2,V6,V7,c0,c1,c2,c3,c4,c5,c6,bL0,bL1,bL2,H3,H4,Fld.usual,Fld.usual.usuals,B5,G8,C8,n0,h0] <;> (congr 1; omega))))
  simp only [Y1,Ct,Bf,List.flatMap_map,List.length_map,aH,aI,f50n,aJ]
  simp only [ap]
  try simp only [be4_i32',BB,Y2,Cu,Bv,Cv,Cy,Cx]
  have rg_:v < 1 ∨ (1 ≤ v ∧ v < 2) ∨ (2 ≤ v ∧ v < 5) ∨ (5 ≤ v ∧ v < 8) ∨ (8 ≤ v ∧ v < 9) ∨ (9 ≤ v ∧ v < 13) ∨ 13 ≤ v:=by omega
  rcases rg_ with g_ | g_ | g_ | g_ | g_ | g_ | g_ <;>
   ((first | have c0:v ≤ 12:=by omega | have c0:¬ v ≤ 12:=by omega); (first | have c1:v ≥ 1:=by omega | have c1:¬ v ≥ 1:=by omega); (first | have c2:v ≥ 2:=by omega | have c2:¬ v ≥ 2:=by omega); (first | have c3:v ≥ 5:=by omega | have c3:¬ v ≥ 5:=by omega); (first | have c4:v ≥ 8:=by omega | have c4:¬ v ≥ 8:=by omega); (first | have c5:v ≥ 9:=by omega | have c5:¬ v ≥ 9:=by omega); (first | have c6:v ≥ 13:=by omega | have c6:¬ v ≥ 13:=by omega); first | (simp [D4,N1,D0,Fld.tag,Fld.has,M3,Fld.kind,Fld.null,Fld.of,Fld.sub,E3,H8,D3,C3,C2,D2,V6,V7,c0,c1,c2,c3,c4,c5,c6,h0]; done) | ((simp [D4,N1,D0,Fld.tag,Fld.has,M3,Fld.kind,Fld.null,Fld.of,Fld.sub,E3,H8,D3,C3,C2,D2,V6,V7,c0,c1,c2,c3,c4,c5,c6,h0])))
 have ay:∀ ah:Tree,(fun ae:Tree=>(be 4 ((IntKind.i32.wrap (ae.at_ 0).N))) ++ ((if (decide (v ≥ 9)) = true then (uv ((ae.at_ 1).S.length + 1) ++ (ae.at_ 1).S) else (be 2 (ae.at_ 1).S.length ++ (ae.at_ 1).S)) ++ ((be 4 ((IntKind.i32.wrap (ae.at_ 2).N))) ++ ((if (decide (v ≥ 9)) = true then (if (ae.at_ 3).null = true then uv 0 else uv ((D9 (ae.at_ 3)).length + 1) ++ (D9 (ae.at_ 3))) else (if (ae.at_ 3).null = true then be 2 (-1) else be 2 (D9 (ae.at_ 3)).length ++ (D9 (ae.at_ 3)))) ++ (if (decide (v ≥ 9)) = true then (uv ae.U.length) ++ (D7 ae.U) else []))))) (N2 (C5 v 7) (Fld.mk 10 0 (-1) (-1) (-1) 0 10 [(Fld.mk 3 0 (-1) (-1) (-1) 0 0 []),(Fld.mk 8 0 (-1) (-1) (-1) 0 0 []),(Fld.mk 3 0 (-1) (-1) (-1) 0 0 []),(Fld.mk 8 0 (-1) 0 (-1) 0 0 [])]) (Fld.nul (Fld.mk 10 0 (-1) (-1) (-1) 0 10 [(Fld.mk 3 0 (-1) (-1) (-1) 0 0 []),(Fld.mk 8 0 (-1) (-1) (-1) 0 0 []),(Fld.mk 3 0 (-1) (-1) (-1) 0 0 []),(Fld.mk 8 0 (-1) 0 (-1) 0 0 [])]) v ah) ah) = D4 7 [(Fld.mk 3 0 (-1) (-1) (-1) 0 0 []),(Fld.mk 8 0 (-1) (-1) (-1) 0 0 []),(Fld.mk 3 0 (-1) (-1) (-1) 0 0 []),(Fld.mk 8 0 (-1) 0 (-1) 0 0 [])] v (decide (v ≥ 9)) ah:=by
  intro ah
  dsimp only
  obtain ⟨az,aA⟩:=Y4 (v:=v) (d:=7) (x1:=0) (x2:=-1) (x5:=0) (x6:=10) (s:=[(Fld.mk 3 0 (-1) (-1) (-1) 0 0 []),(Fld.mk 8 0 (-1) (-1) (-1) 0 0 []),(Fld.mk 3 0 (-1) (-1) (-1) 0 0 []),(Fld.mk 8 0 (-1) 0 (-1) 0 0 [])]) (b:=Fld.nul (Fld.mk 10 0 (-1) (-1) (-1) 0 10 [(Fld.mk 3 0 (-1) (-1) (-1) 0 0 []),(Fld.mk 8 0 (-1) (-1) (-1) 0 0 []),(Fld.mk 3 0 (-1) (-1) (-1) 0 0 []),(Fld.mk 8 0 (-1) 0 (-1) 0 0 [])]) v ah) (x:=ah)
  simp only [az,aA]
  have aU:((C5 v 7 [(Fld.mk 3 0 (-1) (-1) (-1) 0 0 []),(Fld.mk 8 0 (-1) (-1) (-1) 0 0 []),(Fld.mk 3 0 (-1) (-1) (-1) 0 0 []),(Fld.mk 8 0 (-1) 0 (-1) 0 0 [])] ah).at_ 0).N = (ah.at_ 0).N:=S8 (d:=6) (show [(Fld.mk 3 0 (-1) (-1) (-1) 0 0 []),(Fld.mk 8 0 (-1) (-1) (-1) 0 0 []),(Fld.mk 3 0 (-1) (-1) (-1) 0 0 []),(Fld.mk 8 0 (-1) 0 (-1) 0 0 [])][0]? = _ from rfl) (by decide)
  have aV:=Dh (v:=v) (d:=6) (t:=ah) (l:=[(Fld.mk 3 0 (-1) (-1) (-1) 0 0 []),(Fld.mk 8 0 (-1) (-1) (-1) 0 0 []),(Fld.mk 3 0 (-1) (-1) (-1) 0 0 []),(Fld.mk 8 0 (-1) 0 (-1) 0 0 [])]) (i:=1) (show [(Fld.mk 3 0 (-1) (-1) (-1) 0 0 []),(Fld.mk 8 0 (-1) (-1) (-1) 0 0 []),(Fld.mk 3 0 (-1) (-1) (-1) 0 0 []),(Fld.mk 8 0 (-1) 0 (-1) 0 0 [])][1]? = _ from rfl) (by decide)
  have aW:((C5 v 7 [(Fld.mk 3 0 (-1) (-1) (-1) 0 0 []),(Fld.mk 8 0 (-1) (-1) (-1) 0 0 []),(Fld.mk 3 0 (-1) (-1) (-1) 0 0 []),(Fld.mk 8 0 (-1) 0 (-1) 0 0 [])] ah).at_ 2).N = (ah.at_ 2).N:=S8 (d:=6) (show [(Fld.mk 3 0 (-1) (-1) (-1) 0 0 []),(Fld.mk 8 0 (-1) (-1) (-1) 0 0 []),(Fld.mk 3 0 (-1) (-1) (-1) 0 0 []),(Fld.mk 8 0 (-1) 0 (-1) 0 0 [])][2]? = _ from rfl) (by decide)
  have aD:=De (v:=v) (d:=6) (t:=ah) (l:=[(Fld.mk 3 0 (-1) (-1) (-1) 0 0 []),(Fld.mk 8 0 (-1) (-1) (-1) 0 0 []),(Fld.mk 3 0 (-1) (-1) (-1) 0 0 []),(Fld.mk 8 0 (-1) 0 (-1) 0 0 [])]) (i:=3) (show [(Fld.mk 3 0 (-1) (-1) (-1) 0 0 []),(Fld.mk 8 0 (-1) (-1) (-1) 0 0 []),(Fld.mk 3 0 (-1) (-1) (-1) 0 0 []),(Fld.mk 8 0 (-1) 0 (-1) 0 0 [])][3]? = _ from rfl) (by decide)
  simp only [Y1,Ct,Bf,List.flatMap_map,List.length_map,aU,aV,aW,aD.1,aD.2]
  try simp only [be4_i32',BB,Y2,Cu,Bv,Cv,Cy,Cx]
  have rg_:v < 1 ∨ (1 ≤ v ∧ v < 2) ∨ (2 ≤ v ∧ v < 5) ∨ (5 ≤ v ∧ v < 8) ∨ (8 ≤ v ∧ v < 9) ∨ (9 ≤ v ∧ v < 13) ∨ 13 ≤ v:=by omega
  rcases rg_ with g_ | g_ | g_ | g_ | g_ | g_ | g_ <;>
   ((first | have c0:v ≤ 12:=by omega | have c0:¬ v ≤ 12:=by omega); (first | have c1:v ≥ 1:=by omega | have c1:¬ v ≥ 1:=by omega); (first | have c2:v ≥ 2:=by omega | have c2:¬ v ≥ 2:=by omega); (first | have c3:v ≥ 5:=by omega | have c3:¬ v ≥ 5:=by omega); (first | have c4:v ≥ 8:=by omega | have c4:¬ v ≥ 8:=by omega); (first | have c5:v ≥ 9:=by omega | have c5:¬ v ≥ 9:=by omega); (first | have c6:v ≥ 13:=by omega | have c6:¬ v ≥ 13:=by omega); first | (simp [D4,N1,D0,Fld.tag,Fld.has,M3,Fld.kind,Fld.null,Fld.of,Fld.sub,E3,H8,D3,C3,C2,D2,V6,V7,c0,c1,c2,c3,c4,c5,c6,h0]; done) | (by_cases n0:Fld.nul (Fld.mk 8 0 (-1) 0 (-1) 0 0 []) v (ah.at_ 3) = true <;> (try have m0:=El n0) <;> (simp [D4,N1,D0,Fld.tag,Fld.has,M3,Fld.kind,Fld.null,Fld.of,Fld.sub,E3,H8,D3,C3,C2,D2,V6,V7,c0,c1,c2,c3,c4,c5,c6,n0,h0])))
 unfold H5
 simp only [Y1,Ct,Bf,List.flatMap_map,List.length_map,f42n,aE,aF,f44n,aG]
 simp only [al,ay]
 try simp only [be4_i32',BB,Y2,Cu,Bv,Cv,Cy,Cx]
 have hkn:(C2 [(Fld.mk 11 0 (-1) (-1) (-1) 0 10 [(Fld.mk 8 0 12 (-1) (-1) 0 0 []),(Fld.mk 7 13 (-1) (-1) (-1) 0 0 []),(Fld.mk 11 0 (-1) (-1) (-1) 0 10 [(Fld.mk 3 0 (-1) (-1) (-1) 0 0 []),(Fld.mk 2 0 (-1) (-1) (-1) 0 0 []),(Fld.mk 4 0 (-1) (-1) (-1) 0 0 []),(Fld.mk 4 2 (-1) (-1) (-1) (-1) 0 []),(Fld.mk 4 5 (-1) (-1) (-1) (-1) 0 []),(Fld.mk 11 8 (-1) (-1) (-1) 0 10 [(Fld.mk 3 0 (-1) (-1) (-1) 0 0 []),(Fld.mk 8 0 (-1) 0 (-1) 0 0 [])]),(Fld.mk 8 8 (-1) 8 (-1) 0 0 []),(Fld.mk 10 0 (-1) (-1) 0 0 0 [(Fld.mk 3 0 (-1) (-1) (-1) (-1) 0 []),(Fld.mk 3 0 (-1) (-1) (-1) (-1) 0 [])])])]),(Fld.mk 3 1 (-1) (-1) (-1) 0 0 []),(Fld.mk 11 0 (-1) (-1) 0 0 10 [(Fld.mk 3 0 (-1) (-1) (-1) 0 0 []),(Fld.mk 8 0 (-1) (-1) (-1) 0 0 []),(Fld.mk 3 0 (-1) (-1) (-1) 0 0 []),(Fld.mk 8 0 (-1) 0 (-1) 0 0 [])])]).toNat = 1:=by decide +kernel
 have rg_:v < 1 ∨ (1 ≤ v ∧ v < 2) ∨ (2 ≤ v ∧ v < 5) ∨ (5 ≤ v ∧ v < 8) ∨ (8 ≤ v ∧ v < 9) ∨ (9 ≤ v ∧ v < 13) ∨ 13 ≤ v:=by omega
 rcases rg_ with g_ | g_ | g_ | g_ | g_ | g_ | g_ <;>
  ((first | have c0:v ≤ 12:=by omega | have c0:¬ v ≤ 12:=by omega); (first | have c1:v ≥ 1:=by omega | have c1:¬ v ≥ 1:=by omega); (first | have c2:v ≥ 2:=by omega | have c2:¬ v ≥ 2:=by omega); (first | have c3:v ≥ 5:=by omega | have c3:¬ v ≥ 5:=by omega); (first | have c4:v ≥ 8:=by omega | have c4:¬ v ≥ 8:=by omega); (first | have c5:v ≥ 9:=by omega | have c5:¬ v ≥ 9:=by omega); (first | have c6:v ≥ 13:=by omega | have c6:¬ v ≥ 13:=by omega); first | (simp [F7,F8,sProduceResponseF,D4,N1,D0,Fld.tag,Fld.has,M3,Fld.kind,Fld.null,Fld.of,Fld.sub,E3,H8,D3,C3,hkn,D2,V6,V7,H3,H4,Fld.usual,Fld.usual.usuals,B5,G8,C8,c0,c1,c2,c3,c4,c5,c6,h0]; done) | (rcases hL0:(t.at_ 2).L with _ | ⟨yL0,lL0⟩ <;> (simp [F7,F8,sProduceResponseF,D4,N1,D0,Fld.tag,Fld.has,M3,Fld.kind,Fld.null,Fld.of,Fld.sub,E3,H8,D3,C3,hkn,D2,V6,V7,c0,c1,c2,c3,c4,c5,c6,hL0,H3,H4,Fld.usual,Fld.usual.usuals,B5,G8,C8,h0] <;> (congr 1; omega))))
set_option maxHeartbeats 4000000 in
theorem NO (v:Int) (h0:0 ≤ v) (h1:v < 32768) (t:Tree) (hsz:t.size ≤ 8388608):((if (decide (v ≥ 9)) = true then (uv ((lst ((C5 v 8 sProduceResponseF t).at_ 2)).length + 1)) else (be 4 (lst ((C5 v 8 sProduceResponseF t).at_ 2)).length)) ++ ((lst ((C5 v 8 sProduceResponseF t).at_ 2)).flatMap fun ab=>(be 4 ((IntKind.i32.wrap (ab.at_ 0).N))) ++ ((if (decide (v ≥ 9)) = true then (uv ((ab.at_ 1).S.length + 1) ++ (ab.at_ 1).S) else (be 2 (ab.at_ 1).S.length ++ (ab.at_ 1).S)) ++ ((be 4 ((IntKind.i32.wrap (ab.at_ 2).N))) ++ ((if (decide (v ≥ 9)) = true then (if (ab.at_ 3).null = true then uv 0 else uv ((D9 (ab.at_ 3)).length + 1) ++ (D9 (ab.at_ 3))) else (if (ab.at_ 3).null = true then be 2 (-1) else be 2 (D9 (ab.at_ 3)).length ++ (D9 (ab.at_ 3)))) ++ (if (decide (v ≥ 9)) = true then (uv ab.U.length) ++ (D7 ab.U) else [])))))).length < 4294967296:=by
 have el:∀ y:Tree,(fun ab:Tree=>(be 4 ((IntKind.i32.wrap (ab.at_ 0).N))) ++ ((if (decide (v ≥ 9)) = true then (uv ((ab.at_ 1).S.length + 1) ++ (ab.at_ 1).S) else (be 2 (ab.at_ 1).S.length ++ (ab.at_ 1).S)) ++ ((be 4 ((IntKind.i32.wrap (ab.at_ 2).N))) ++ ((if (decide (v ≥ 9)) = true then (if (ab.at_ 3).null = true then uv 0 else uv ((D9 (ab.at_ 3)).length + 1) ++ (D9 (ab.at_ 3))) else (if (ab.at_ 3).null = true then be 2 (-1) else be 2 (D9 (ab.at_ 3)).length ++ (D9 (ab.at_ 3)))) ++ (if (decide (v ≥ 9)) = true then (uv ab.U.length) ++ (D7 ab.U) else []))))) (N2 (C5 v 7) (Fld.mk 10 0 (-1) (-1) (-1) 0 10 [(Fld.mk 3 0 (-1) (-1) (-1) 0 0 []),(Fld.mk 8 0 (-1) (-1) (-1) 0 0 []),(Fld.mk 3 0 (-1) (-1) (-1) 0 0 []),(Fld.mk 8 0 (-1) 0 (-1) 0 0 [])]) (Fld.nul (Fld.mk 10 0 (-1) (-1) (-1) 0 10 [(Fld.mk 3 0 (-1) (-1) (-1) 0 0 []),(Fld.mk 8 0 (-1) (-1) (-1) 0 0 []),(Fld.mk 3 0 (-1) (-1) (-1) 0 0 []),(Fld.mk 8 0 (-1) 0 (-1) 0 0 [])]) v y) y) = D4 7 [(Fld.mk 3 0 (-1) (-1) (-1) 0 0 []),(Fld.mk 8 0 (-1) (-1) (-1) 0 0 []),(Fld.mk 3 0 (-1) (-1) (-1) 0 0 []),(Fld.mk 8 0 (-1) 0 (-1) 0 0 [])] v (decide (v ≥ 9)) y:=by
  intro y
  dsimp only
  obtain ⟨g1,g2⟩:=Y4 (v:=v) (d:=7) (x1:=0) (x2:=-1) (x5:=0) (x6:=10) (s:=[(Fld.mk 3 0 (-1) (-1) (-1) 0 0 []),(Fld.mk 8 0 (-1) (-1) (-1) 0 0 []),(Fld.mk 3 0 (-1) (-1) (-1) 0 0 []),(Fld.mk 8 0 (-1) 0 (-1) 0 0 [])]) (b:=Fld.nul z4 v y) (x:=y)
  simp only [g1,g2]
  have ae:((C5 v 7 [(Fld.mk 3 0 (-1) (-1) (-1) 0 0 []),(Fld.mk 8 0 (-1) (-1) (-1) 0 0 []),(Fld.mk 3 0 (-1) (-1) (-1) 0 0 []),(Fld.mk 8 0 (-1) 0 (-1) 0 0 [])] y).at_ 0).N = (y.at_ 0).N:=S8 (d:=6) (show [(Fld.mk 3 0 (-1) (-1) (-1) 0 0 []),(Fld.mk 8 0 (-1) (-1) (-1) 0 0 []),(Fld.mk 3 0 (-1) (-1) (-1) 0 0 []),(Fld.mk 8 0 (-1) 0 (-1) 0 0 [])][0]? = _ from rfl) (by decide)
  have af:=Dh (v:=v) (d:=6) (t:=y) (l:=[(Fld.mk 3 0 (-1) (-1) (-1) 0 0 []),(Fld.mk 8 0 (-1) (-1) (-1) 0 0 []),(Fld.mk 3 0 (-1) (-1) (-1) 0 0 []),(Fld.mk 8 0 (-1) 0 (-1) 0 0 [])]) (i:=1) (show [(Fld.mk 3 0 (-1) (-1) (-1) 0 0 []),(Fld.mk 8 0 (-1) (-1) (-1) 0 0 []),(Fld.mk 3 0 (-1) (-1) (-1) 0 0 []),(Fld.mk 8 0 (-1) 0 (-1) 0 0 [])][1]? = _ from rfl) (by decide)
  have ag:((C5 v 7 [(Fld.mk 3 0 (-1) (-1) (-1) 0 0 []),(Fld.mk 8 0 (-1) (-1) (-1) 0 0 []),(Fld.mk 3 0 (-1) (-1) (-1) 0 0 []),(Fld.mk 8 0 (-1) 0 (-1) 0 0 [])] y).at_ 2).N = (y.at_ 2).N:=S8 (d:=6) (show [(Fld.mk 3 0 (-1) (-1) (-1) 0 0 []),(Fld.mk 8 0 (-1) (-1) (-1) 0 0 []),(Fld.mk 3 0 (-1) (-1) (-1) 0 0 []),(Fld.mk 8 0 (-1) 0 (-1) 0 0 [])][2]? = _ from rfl) (by decide)
  have ac:=De (v:=v) (d:=6) (t:=y) (l:=[(Fld.mk 3 0 (-1) (-1) (-1) 0 0 []),(Fld.mk 8 0 (-1) (-1) (-1) 0 0 []),(Fld.mk 3 0 (-1) (-1) (-1) 0 0 []),(Fld.mk 8 0 (-1) 0 (-1) 0 0 [])]) (i:=3) (show [(Fld.mk 3 0 (-1) (-1) (-1) 0 0 []),(Fld.mk 8 0 (-1) (-1) (-1) 0 0 []),(Fld.mk 3 0 (-1) (-1) (-1) 0 0 []),(Fld.mk 8 0 (-1) 0 (-1) 0 0 [])][3]? = _ from rfl) (by decide)
  simp only [Y1,Ct,Bf,List.flatMap_map,List.length_map,ae,af,ag,ac.1,ac.2]
  try simp only [be4_i32',BB,Y2,Cu,Bv,Cv,Cy,Cx]
  by_cases c0:v ≥ 9 <;> by_cases n0:Fld.nul (Fld.mk 8 0 (-1) 0 (-1) 0 0 []) v (y.at_ 3) = true <;> (try have m0:=El n0) <;> first | (exfalso; omega) | simp [D4,N1,D0,Fld.tag,Fld.has,M3,Fld.kind,Fld.null,Fld.of,Fld.sub,E3,H8,D3,C3,C2,D2,V6,V7,c0,n0,h0]
 obtain ⟨_,f⟩:=Eo (v:=v) (d:=7) (t:=t) (l:=sProduceResponseF) (i:=2) (show sProduceResponseF[2]? = _ from rfl)
 simp only [f,List.flatMap_map,List.length_map]
 simp only [el]
 exact NF (c:=320) (t:=t) (fun y=>NE (k:=4) (by decide +kernel) rfl (by decide +kernel) rfl) (Ec t 2) (by omega)
abbrev G9:=World → (Nat → Nat → Prop) → Prop
structure MvF (P:G9):Prop where
 move:∀ {w w':World} {F F' M:Nat → Nat → Prop},Step w w' M → (∀ b o,F b o → b < w.heap.size → ¬ M b o) → (∀ b o,F b o → b < w.heap.size → F' b o) → P w F → P w' F'
def Ey:G9:=fun _ _=>True
def J2 (P Q:G9):G9:=fun w F=>P w F ∧ Q w F
def GQ (p:Prop):G9:=fun _ _=>p
theorem MvF.no:MvF Ey:=⟨fun _ _ _ _=>trivial⟩
theorem MvF.and {P Q:G9} (h:MvF P) (h':MvF Q):MvF (J2 P Q):=⟨fun hs hM hF g=>⟨h.move hs hM hF g.1,h'.move hs hM hF g.2⟩⟩
theorem MvF.is (p:Prop):MvF (GQ p):=⟨fun _ _ _ g=>g⟩
theorem MvF.mono {P:G9} (h:MvF P) {w:World} {F F':Nat → Nat → Prop} (hF:∀ b o,F b o → b < w.heap.size → F' b o) (g:P w F):P w F':=h.move (Step.refl w C7) B2 hF g
def Dl (A:Option Addr) (X:Bs):G9:=fun w F=>∀ ad,A = some ad → ∃ b o,ad = ⟨b,o,none⟩ ∧ AtF w F b o [.string (bs X)]
theorem MvF.text (A:Option Addr) (X:Bs):MvF (Dl A X):=⟨fun hs hM hF g ad hA=>by
 obtain ⟨b,o,h1,h2⟩:=g ad hA
 exact ⟨b,o,h1,h2.move hs hM hF⟩⟩
def JD (A:Option Addr) (c:Nat) (X:Bs):G9:=fun w F=>Octs w F A c X
theorem MvF.octs (A:Option Addr) (c:Nat) (X:Bs):MvF (JD A c X):=⟨fun hs hM hF g=>Octs.move g hs hM hF⟩
def JE (m:Option Nat) (u:List (Int × Bs)):G9:=fun w F=>MapR w F m u
theorem JF {d:Int} (hd:IntKind.i32.wrap d = d) (N:Int):(IntKind.i32.wrap N == d) = decide (be 4 N = be 4 d):=by
 rw [Bool.eq_iff_iff,beq_iff_eq,decide_eq_true_iff]
 constructor
 ·intro h
  rw [← be4_i32' N,h]
 intro h
 have h1:=Gv N []
 have h2:=Gv d []
 rw [h,h2] at h1
 rw [D5,D5] at h1
 rw [← hd,I3,I3]
 omega
theorem NP (u:List (Int × Bs)):u.isEmpty = decide (u.length = 0):=by cases u <;> rfl
theorem NQ {w:World} {F:Nat → Nat → Prop} {m:Option Nat} {u:List (Int × Bs)} (h:MapR w F m u ∧ (u = [] → m = none)):m.isNone = u.isEmpty:=by
 cases u with
 | nil=>rw [h.2 rfl]; rfl
 | cons x r =>
  cases m with
  | none=>have:=h.1.none_ rfl; cases this
  | some k=>rfl
def tagsM (m:Option Nat) (u:List (Int × Bs)):G9:=fun w F=>MapR w F m u ∧ (u = [] → m = none)
theorem MvF.tagsM (m:Option Nat) (u:List (Int × Bs)):MvF (tagsM m u):=⟨fun hs hM hF g=>⟨MapR.move g.1 hs hM hF,g.2⟩⟩
theorem MvF.tags (m:Option Nat) (u:List (Int × Bs)):MvF (JE m u):=⟨fun hs hM hF g=>MapR.move g hs hM hF⟩
def JG (b o:Nat) (cs:List Value):G9:=fun w F=>AtF w F b o cs
theorem MvF.at_ (b o:Nat) (cs:List Value):MvF (JG b o cs):=⟨fun hs hM hF g=>AtF.move g hs hM hF⟩
abbrev rdo (br:Nat) (A:Option Addr) (m c:Nat):Ob:=⟨br,0,[.slice A m c,.bool false],true⟩
theorem NR {br:Nat} {A A':Option Addr} {m c m' c':Nat} {tb:Tb} {rs:List Rw} {b o:Nat} (h:H2 (rdo br A m c :: tb) rs b o):H2 (rdo br A' m' c' :: tb) rs b o:=by
 rcases h with ⟨i,ob,hi,h1⟩ | h
 ·cases i with
  | zero =>
   simp only [List.getElem?_cons_zero,Option.some.injEq] at hi
   subst hi
   exact .inl ⟨0,_,rfl,h1⟩
  | succ i=>exact .inl ⟨i + 1,ob,hi,h1⟩
 exact .inr h
theorem Ez {G:Nat → Nat → Prop} {w0 w:World} {br:Nat} {A A':Option Addr} {m c m' c':Nat} {tb:Tb} {rs:List Rw} {b o:Nat} (h:H1 G w0 w (rdo br A m c :: tb) rs b o):H1 G w0 w (rdo br A' m' c' :: tb) rs b o :=
 ⟨h.1,h.2.1,fun ha=>h.2.2 (NR ha)⟩
theorem EnvOk.rdo {n br:Nat} {A A':Option Addr} {m c m' c':Nat} {tb:Tb} {env:B8} {a:Act} (h:EnvOk n (rdo br A m c :: tb) env a):EnvOk n (rdo br A' m' c' :: tb) env a:=by
 refine h.table fun i hi=>?_
 cases i with
 | zero=>exact ⟨by simp,rfl,rfl⟩
 | succ i=>exact ⟨by simpa using hi,rfl,rfl⟩
structure RS (w0:World) (M F:Nat → Nat → Prop) (n br:Nat) (tb:Tb) (env:B8) (P:G9) (s:Bs) (a:Act) (w:World):Prop where
 mv:MvF P
 ex:∃ A m c,WOk w0 M w (rdo br A m c :: tb) [] ∧ RdS w (H1 F w0 w (rdo br none 0 0 :: tb) []) A m c s
 env_:EnvOk n (rdo br none 0 0 :: tb) env a
 fact:P w (H1 F w0 w (rdo br none 0 0 :: tb) [])
section
variable {Pr:Program} {ops opsA opsB opsC:Array Oper} {Q:Exit → Act → World → Prop} {w0:World} {M F:Nat → Nat → Prop} {n br:Nat} {tb:Tb} {env:B8} {P:G9} {s:Bs} {a:Act} {w:World}
theorem RS.mk' {A:Option Addr} {m c:Nat} (hW:WOk w0 M w (rdo br A m c :: tb) []) (hr:RdS w (H1 F w0 w (rdo br A m c :: tb) []) A m c s) (hE:EnvOk n (rdo br A m c :: tb) env a) (mv:MvF P) (hP:P w (H1 F w0 w (rdo br A m c :: tb) [])):RS w0 M F n br tb env P s a w :=
 ⟨mv,⟨A,m,c,hW,hr.move (Step.refl w C7) B2 fun b o h _=>Ez h⟩,hE.rdo,mv.mono (fun b o h _=>Ez h) hP⟩
theorem RS.open_ (h:RS w0 M F n br tb env P s a w):∃ A m c,WOk w0 M w (rdo br A m c :: tb) [] ∧ RdS w (H1 F w0 w (rdo br A m c :: tb) []) A m c s ∧ EnvOk n (rdo br A m c :: tb) env a ∧ P w (H1 F w0 w (rdo br A m c :: tb) []):=by
 obtain ⟨A,m,c,hW,hr⟩:=h.ex
 exact ⟨A,m,c,hW,hr.move (Step.refl w C7) B2 fun b o h _=>Ez h,h.env_.rdo,h.mv.mono (fun b o h _=>Ez h) h.fact⟩
theorem RS.cast {t:Bs} (h:RS w0 M F n br tb env P s a w) (e:s = t):RS w0 M F n br tb env P t a w:=e ▸ h
theorem RS.weak {P':G9} (h:RS w0 M F n br tb env P s a w) (mv:MvF P') (hP:∀ w F,P w F → P' w F):RS w0 M F n br tb env P' s a w:=⟨mv,h.ex,h.env_,hP _ _ h.fact⟩
theorem RS.pk {env':B8} (h:RS w0 M F n br tb env P s a w) (e:ME.pick env (K3 env') = some env':=by kernel_rfl):RS w0 M F n br tb env' P s a w:=⟨h.mv,h.ex,h.env_.pk e,h.fact⟩
theorem RS.envEq {env':B8} (h:RS w0 M F n br tb env P s a w) (e:env = env'):RS w0 M F n br tb env' P s a w:=e ▸ h
theorem RS.tbEq {tb':Tb} (h:RS w0 M F n br tb env P s a w) (e:tb = tb'):RS w0 M F n br tb' env P s a w:=e ▸ h
theorem RS.recast (h:RS w0 M F n br tb env P s a w) (k:Nat) (x y:SV) (hx:lk env k = some x) (hy:y.val (rdo br none 0 0 :: tb) = x.val (rdo br none 0 0 :: tb)) (ho:y.ok (rdo br none 0 0 :: tb)):RS w0 M F n br tb ((k,y) :: env) P s a w:=⟨h.mv,h.ex,h.env_.recast k x y hx hy ho,h.fact⟩
theorem I4 {L:List Nat} (idxs rest:List Nat) (env':B8) (h:RS w0 M F n br tb env P s a w) (k:∀ a',RS w0 M F n br tb env' P s a' w → wpOps Pr ops Q rest a' w) (e:∀ A m c,G7 Pr ops n (rdo br A m c :: tb) idxs (K3 env') env = some env':=by intro _ _ _; kernel_rfl) (hl:L = idxs ++ rest:=by rfl):wpOps Pr ops Q L a w:=by
 obtain ⟨A,m,c,hW,hr,hE,hP⟩:=h.open_
 exact F9 idxs rest (K3 env') hW hE (e A m c) hl fun a' hE'=>k a' (RS.mk' hW hr hE' h.mv hP)
theorem E1 {id:Nat} (env':B8) (h:RS w0 M F n br tb env P s a w) (k:∀ a',RS w0 M F n br tb env' P s a' w → Q .normal a' w) (e:∀ A m c,G7 Pr ops n (rdo br A m c :: tb) (List.range ops.size) (K3 env') env = some env':=by intro _ _ _; kernel_rfl):(Code.region id ops false).wp Pr Q a w :=
 E4 (List.range ops.size) rfl (I4 (List.range ops.size) [] env' h (fun a' h'=>B4 (k a' h')) e (List.append_nil _).symm)
theorem NS {id:Nat} {y:Code} (env':B8) (h:RS w0 M F n br tb env P s a w) (k:∀ a',RS w0 M F n br tb env' P s a' w → y.wp Pr Q a' w) (e:∀ A m c,G7 Pr ops n (rdo br A m c :: tb) (List.range ops.size) (K3 env') env = some env':=by intro _ _ _; kernel_rfl):(Code.seq (.region id ops false) y).wp Pr Q a w :=
 wp_seq (E1 env' h (fun a' h'=>A4 (k a' h')) e)
def Dm (Pr:Program) (f:FuncId) {τ:Type} (X rest:Bs) (val:τ → Value) (fact:τ → G9):Prop :=
 ∀ {br:Nat} {A:Option Addr} {m c:Nat} {w:World} {F:Nat → Nat → Prop},Str w br [.slice A m c,.bool false] → RdS w F A m c (X ++ rest) → (∀ b o,F b o → ¬ G5 br b o) →
  Calls Pr f #[.pointer (some ⟨br,0,none⟩)] w (RdPost w br (Fp F w) rest fun v w'=>∃ x,v = val x ∧ fact x w' (Fp F w))
def Q4 (Pr:Program) (f:FuncId) (X rest:Bs) (v0:Value):Prop :=
 ∀ {br:Nat} {A:Option Addr} {m c:Nat} {w:World} {F:Nat → Nat → Prop},Str w br [.slice A m c,.bool false] → RdS w F A m c (X ++ rest) → (∀ b o,F b o → ¬ G5 br b o) →
  Calls Pr f #[.pointer (some ⟨br,0,none⟩)] w (RdPost w br (Fp F w) rest fun v w'=>v = v0)
theorem RdPost.fp {w:World} {br:Nat} {F:Nat → Nat → Prop} {rest:Bs} {Q Q':Value → World → Prop} {e:Ending} {w':World} (hq:∀ v w',Q v w' → Q' v w') (h:RdPost w br F rest Q e w'):RdPost w br (Fp F w) rest Q' e w':=by
 obtain ⟨v,A',n',c',h1,h2,h3,h4,h5⟩:=h
 exact ⟨v,A',n',c',h1,h2,h3.move (Step.refl _ C7) B2 fun b o g _=>.inl g,h4,hq _ _ h5⟩
theorem RdPost.q {w:World} {br:Nat} {F:Nat → Nat → Prop} {rest:Bs} {Q Q':Value → World → Prop} {e:Ending} {w':World} (hq:∀ v w',Q v w' → Q' v w') (h:RdPost w br F rest Q e w'):RdPost w br F rest Q' e w':=by
 obtain ⟨v,A',n',c',h1,h2,h3,h4,h5⟩:=h
 exact ⟨v,A',n',c',h1,h2,h3,h4,hq _ _ h5⟩
theorem Dn {i d:Nat} {f:FuncId} {τ:Type} {X rest:Bs} {val:τ → Value} {fact:τ → G9} {N:Act → World → Prop} (h:RS w0 M F n br tb env P (X ++ rest) a w) (hc:Dm Pr f X rest val fact) (hm:∀ x,MvF (fact x))
  (hf:∀ args w,(callFunc f args).run Pr w = .ok (.enter f args) w) (K:∀ x P' a' w',(∀ w F,P' w F → P w F ∧ fact x w F) → RS w0 M F n br tb ((d,.v (val x)) :: env) P' rest a' w' → N a' w')
  (he:∀ A m c,L5 (rdo br A m c :: tb) env ops n i = some (f,[.pointer (some ⟨br,0,none⟩)],d):=by intro _ _ _; kernel_rfl):wpOp Pr ops Q i N a w:=by
 obtain ⟨A,m,c,hW,hr,hE,hP⟩:=h.open_
 refine D6 hE (he A m c) hf (hc (Str.of hW 0 rfl) hr (P8 0 rfl)) ?_
 rintro e_ w1 ⟨_,A1,n1,c1,rfl,hs,hr1,hst,x,rfl,hx⟩
 refine ⟨_,rfl,fun a1 hE1=>?_⟩
 obtain ⟨hW2,hF2,hL⟩:=hW.wrote 0 (rdo br A1 n1 c1 :: tb) rfl hst hs
 exact K x (J2 P (fact x)) a1 w1 (fun _ _ g=>g) (RS.mk' hW2 (hr1.move (Step.refl _ C7) B2 hL) hE1.rdo (h.mv.and (hm x)) ⟨h.mv.move hF2.step immM hF2.to' hP,(hm x).mono hL hx⟩)
theorem EA {i d:Nat} {f:FuncId} {X rest:Bs} {v0:Value} {N:Act → World → Prop} (h:RS w0 M F n br tb env P (X ++ rest) a w) (hc:Q4 Pr f X rest v0)
  (hf:∀ args w,(callFunc f args).run Pr w = .ok (.enter f args) w) (K:∀ a' w',RS w0 M F n br tb ((d,.v v0) :: env) P rest a' w' → N a' w')
  (he:∀ A m c,L5 (rdo br A m c :: tb) env ops n i = some (f,[.pointer (some ⟨br,0,none⟩)],d):=by intro _ _ _; kernel_rfl):wpOp Pr ops Q i N a w:=by
 obtain ⟨A,m,c,hW,hr,hE,hP⟩:=h.open_
 refine D6 hE (he A m c) hf (hc (Str.of hW 0 rfl) hr (P8 0 rfl)) ?_
 rintro e_ w1 ⟨_,A1,n1,c1,rfl,hs,hr1,hst,rfl⟩
 refine ⟨_,rfl,fun a1 hE1=>?_⟩
 obtain ⟨hW2,hF2,hL⟩:=hW.wrote 0 (rdo br A1 n1 c1 :: tb) rfl hst hs
 exact K a1 w1 (RS.mk' hW2 (hr1.move (Step.refl _ C7) B2 hL) hE1.rdo h.mv (h.mv.move hF2.step immM hF2.to' hP))
theorem GR {i d:Nat} {f:FuncId} {v0:Value} {N:Act → World → Prop} (h:RS w0 M F n br tb env P s a w) (hc:∀ {br:Nat} {A:Option Addr} {m c:Nat} {w:World},Str w br [.slice A m c,.bool false] → Calls Pr f #[.pointer (some ⟨br,0,none⟩)] w (fun e w'=>e = .returned v0 ∧ w' = w))
  (hf:∀ args w,(callFunc f args).run Pr w = .ok (.enter f args) w) (K:∀ a',RS w0 M F n br tb ((d,.v v0) :: env) P s a' w → N a' w)
  (he:∀ A m c,L5 (rdo br A m c :: tb) env ops n i = some (f,[.pointer (some ⟨br,0,none⟩)],d):=by intro _ _ _; kernel_rfl):wpOp Pr ops Q i N a w:=by
 obtain ⟨A,m,c,hW,hr,hE,hP⟩:=h.open_
 refine D6 hE (he A m c) hf (hc (Str.of hW 0 rfl)) ?_
 rintro e_ _ ⟨rfl,rfl⟩
 exact ⟨_,rfl,fun a1 hE1=>K a1 (RS.mk' hW hr hE1 h.mv hP)⟩
theorem BP {i:Nat} (tb':Tb) (j:Nat) {N:Act → World → Prop} (h:RS w0 M F n br tb env P s a w) (K:∀ w',RS w0 M F n br tb' env P s a w' → N a w')
  (he:∀ A m c,Cb Pr (rdo br A m c :: tb) env ops i = some (j + 1,(C0 tb' j).cells):=by intro _ _ _; kernel_rfl) (ht:Tb.put tb j (C0 tb' j).cells = tb':=by rfl):wpOp Pr ops Q i N a w:=by
 obtain ⟨A,m,c,hW,hr,hE,hP⟩:=h.open_
 refine I9 hW hE (he A m c) fun w1 hF1 hW1 hE1=>K w1 ?_
 have e:Tb.put (rdo br A m c :: tb) (j + 1) (C0 tb' j).cells = rdo br A m c :: tb':=by
  show rdo br A m c :: Tb.put tb j (C0 tb' j).cells = _
  rw [ht]
 rw [e] at hF1 hW1 hE1
 exact RS.mk' hW1 (hr.move hF1.step immM hF1.to') hE1 h.mv (h.mv.move hF1.step immM hF1.to' hP)
theorem GS {i d:Nat} (cs:List Value) {N:Act → World → Prop} (h:RS w0 M F n br tb env P s a w)
  (K:∀ b a' w',w0.heap.size ≤ b → RS w0 M F n br (tb ++ [⟨b,0,cs,true⟩]) ((d,.p (tb.length + 1) 0) :: env) P s a' w' → N a' w')
  (he:Bt Pr env ops n i = some (d,cs):=by kernel_rfl):wpOp Pr ops Q i N a w:=by
 obtain ⟨A,m,c,hW,hr,hE,hP⟩:=h.open_
 refine N6 hW hE he fun b a1 w1 hb hb0 hF1 hW1 hE1=>K b a1 w1 hb0 ?_
 exact RS.mk' hW1 (hr.move hF1.step immM hF1.to') hE1 h.mv (h.mv.move hF1.step immM hF1.to' hP)
theorem JH {k:Nat} (h:Nat.blt 0 k = true):List.range k = [0] ++ (List.range k).drop 1:=by
 cases k with
 | zero=>cases h
 | succ k=>rw [List.range_succ_eq_map]; rfl
theorem Do {id d:Nat} {f:FuncId} {τ:Type} {X rest:Bs} {val:τ → Value} {fact:τ → G9} (env':τ → B8) (h:RS w0 M F n br tb env P (X ++ rest) a w) (hc:Dm Pr f X rest val fact) (hm:∀ x,MvF (fact x))
  (hf:∀ args w,(callFunc f args).run Pr w = .ok (.enter f args) w) (K:∀ x P' a' w',(∀ w F,P' w F → P w F ∧ fact x w F) → RS w0 M F n br tb (env' x) P' rest a' w' → Q .normal a' w')
  (he:∀ A m c,L5 (rdo br A m c :: tb) env ops n 0 = some (f,[.pointer (some ⟨br,0,none⟩)],d):=by intro _ _ _; kernel_rfl)
  (e:∀ x A m c,G7 Pr ops n (rdo br A m c :: tb) ((List.range ops.size).drop 1) (K3 (env' x)) ((d,.v (val x)) :: env) = some (env' x):=by intro _ _ _ _; kernel_rfl) (hs:Nat.blt 0 ops.size = true:=by kernel_rfl):(Code.region id ops false).wp Pr Q a w:=by
 refine E4 _ (JH hs) (B1 (Dn h hc hm hf (fun x P' a' w' hP hS=>?_) he))
 exact I4 ((List.range ops.size).drop 1) [] (env' x) hS (fun a2 h2=>B4 (K x P' a2 w' hP h2)) (e x) (List.append_nil _).symm
theorem O6 {id d:Nat} {f:FuncId} {X rest:Bs} {v0:Value} (env':B8) (h:RS w0 M F n br tb env P (X ++ rest) a w) (hc:Q4 Pr f X rest v0)
  (hf:∀ args w,(callFunc f args).run Pr w = .ok (.enter f args) w) (K:∀ a' w',RS w0 M F n br tb env' P rest a' w' → Q .normal a' w')
  (he:∀ A m c,L5 (rdo br A m c :: tb) env ops n 0 = some (f,[.pointer (some ⟨br,0,none⟩)],d):=by intro _ _ _; kernel_rfl)
  (e:∀ A m c,G7 Pr ops n (rdo br A m c :: tb) ((List.range ops.size).drop 1) (K3 env') ((d,.v v0) :: env) = some env':=by intro _ _ _; kernel_rfl) (hs:Nat.blt 0 ops.size = true:=by kernel_rfl):(Code.region id ops false).wp Pr Q a w:=by
 refine E4 _ (JH hs) (B1 (EA h hc hf (fun a' w' hS=>?_) he))
 exact I4 ((List.range ops.size).drop 1) [] env' hS (fun a2 h2=>B4 (K a2 w' h2)) e (List.append_nil _).symm
theorem EB {idA idB idC d1 d2:Nat} {o:Operand} {b:Bool} {f1 f2:FuncId} {X1 X2 rest:Bs} {v0:Value} (envA env':B8) (h:RS w0 M F n br tb env P ((if b = true then X1 else X2) ++ rest) a w)
  (hc1:Q4 Pr f1 X1 rest v0) (hf1:∀ args w,(callFunc f1 args).run Pr w = .ok (.enter f1 args) w) (hc2:Q4 Pr f2 X2 rest v0) (hf2:∀ args w,(callFunc f2 args).run Pr w = .ok (.enter f2 args) w)
  (K:∀ a' w',RS w0 M F n br tb env' P rest a' w' → Q .normal a' w')
  (eA:∀ A m c,G7 Pr opsA n (rdo br A m c :: tb) (List.range opsA.size) (K3 envA) env = some envA:=by intro _ _ _; kernel_rfl) (ho:E7 envA o = some (.v (.bool b)):=by kernel_rfl)
  (he1:∀ A m c,L5 (rdo br A m c :: tb) envA opsB n 0 = some (f1,[.pointer (some ⟨br,0,none⟩)],d1):=by intro _ _ _; kernel_rfl) (he2:∀ A m c,L5 (rdo br A m c :: tb) envA opsC n 0 = some (f2,[.pointer (some ⟨br,0,none⟩)],d2):=by intro _ _ _; kernel_rfl)
  (e1:∀ A m c,G7 Pr opsB n (rdo br A m c :: tb) ((List.range opsB.size).drop 1) (K3 env') ((d1,.v v0) :: envA) = some env':=by intro _ _ _; kernel_rfl) (e2:∀ A m c,G7 Pr opsC n (rdo br A m c :: tb) ((List.range opsC.size).drop 1) (K3 env') ((d2,.v v0) :: envA) = some env':=by intro _ _ _; kernel_rfl)
  (hs1:Nat.blt 0 opsB.size = true:=by kernel_rfl) (hs2:Nat.blt 0 opsC.size = true:=by kernel_rfl):(Code.seq (.region idA opsA false) (.cond o (.region idB opsB false) (.region idC opsC false))).wp Pr Q a w :=
 NS envA h (fun a1 h1=>E2 h1.env_ ho (fun hb=>O6 env' (h1.cast (by rw [if_pos hb])) hc1 hf1 K he1 e1 hs1) (fun hb=>O6 env' (h1.cast (by rw [hb]; rfl)) hc2 hf2 K he2 e2 hs2)) eA
def Dp (P:Program) (ops:Array Oper) (n:Nat) (tb:Tb) (env:B8) (keys:List Nat):Option (Nat × List Value × B8) :=
 match G2 P ops n tb (List.range (ops.size - 1)) env with
 | some e=>match Cb P tb e ops (ops.size - 1),pick e keys with
  | some (i,cs),some e'=>some (i,cs,e')
  | _,_=>none
 | none=>none
theorem M0 {id:Nat} (tb':Tb) (j:Nat) (env':B8) (h:RS w0 M F n br tb env P s a w) (K:∀ a' w',RS w0 M F n br tb' env' P s a' w' → Q .normal a' w')
  (he:∀ A m c,Dp Pr ops n (rdo br A m c :: tb) env (K3 env') = some (j + 1,(C0 tb' j).cells,env'):=by intro _ _ _; kernel_rfl) (ht:Tb.put tb j (C0 tb' j).cells = tb':=by rfl) (hs:Nat.blt 0 ops.size = true:=by kernel_rfl):(Code.region id ops false).wp Pr Q a w:=by
 obtain ⟨A,m,c,hW,hr,hE,hP⟩:=h.open_
 have h1:=he A m c
 unfold Dp at h1
 split at h1
 ·rename_i e he'
  split at h1
  ·rename_i i cs e' g1 g2
   simp only [Option.some.injEq,Prod.mk.injEq] at h1
   obtain ⟨rfl,rfl,rfl⟩:=h1
   have hr0:List.range ops.size = List.range (ops.size - 1) ++ [ops.size - 1]:=by
    have:0 < ops.size:=by simpa [Nat.blt_eq] using hs
    rw [← List.range_succ]; congr 1; omega
   refine E4 _ hr0 (O1 hW.cells hE he' fun a1 hE1=>B1 (I9 hW hE1 g1 fun w1 hF1 hW1 hE2=>B4 (K a1 w1 ?_)))
   have e:Tb.put (rdo br A m c :: tb) (j + 1) (C0 tb' j).cells = rdo br A m c :: tb':=by
    show rdo br A m c :: Tb.put tb j (C0 tb' j).cells = _
    rw [ht]
   rw [e] at hF1 hW1 hE2
   exact RS.mk' hW1 (hr.move hF1.step immM hF1.to') (hE2.pick g2) h.mv (h.mv.move hF1.step immM hF1.to' hP)
  cases h1
 cases h1
theorem EC {A0:Option Addr} {i d j:Nat} {t tn e:TypeId} {size bytes:Nat} {k kn:IntKind} {q:Int} (z:Value) {N:Act → World → Prop} (h:RS w0 M F n br tb env P s a w)
  (K:∀ g c a' w',w0.heap.size ≤ g → j ≤ c → RS w0 M F n br (tb ++ [⟨g,0,P4 z j,true⟩]) ((d,.v (.slice (some ⟨g,0,none⟩) j c)) :: env) P s a' w' → N a' w')
  (hq:q = (j:Int)) (hj:0 < j) (hb:j * bytes ≤ 140737488355328)
  (he:∀ A m c,M6 (rdo br A m c :: tb) env ops n i = some (t,tn,.slice A0 0 0,.int k q,d):=by intro _ _ _; kernel_rfl) (ht:J0 Pr t = some (e,size,bytes):=by kernel_rfl) (htn:Pr.underlying tn = some (.int kn):=by kernel_rfl) (hz:(Pr.info? e).bind (·.zero) = some z:=by kernel_rfl):wpOp Pr ops Q i N a w:=by
 obtain ⟨A,m,c,hW,hr,hE,hP⟩:=h.open_
 refine Ni hW hE (he A m c) ht htn hz hq hj hb fun g c1 a1 w1 hg hg0 hF1 hW1 hE1=>?_
 have hP1:=h.mv.move hF1.step immM hF1.to' hP
 have hr1:=hr.move hF1.step immM hF1.to'
 have hcap:j ≤ c1:=by
  obtain ⟨A',c',hv,_,_,h4⟩:=Dx (hW1.own 0 _ rfl)
  simp only [Rw.v,Value.slice.injEq,true_and] at hv
  rw [hv.2]; exact h4
 obtain ⟨hW2,hF2⟩:=hW1.layRowM (k:=0) rfl rfl hg0 [] (rdo br A m c :: (tb ++ [⟨g,0,P4 z j,true⟩])) rfl rfl
 exact K g c1 a1 w1 hg0 hcap (RS.mk' hW2 (hr1.move hF2.step immM hF2.to') (hE1.grow ⟨g,0,P4 z j,true⟩) h.mv (h.mv.move hF2.step immM hF2.to' hP1))
theorem JI {i d n':Nat} {f:FuncId} {fn:Func} {c:Code} {vs:List Value} {N:Act → World → Prop} (h:RS w0 M F n br tb env P s a w) (hf:∀ args w,(callFunc f args).run Pr w = .ok (.enter f args) w) (hfn:Pr.funcs[f]? = some fn) (hb:fn.body = some c) (hn:fn.ntmps = n')
  (K:∀ a2,RS w0 M F n' br tb (Bu 0 vs) P s a2 w → c.wp Pr (bodyPost Pr fn (fun e w'=>∃ v,e = .returned v ∧ ∀ a',EnvOk n (rdo br none 0 0 :: tb) ((d,.v v) :: env) a' → N a' w')) a2 w)
  (he:∀ A m c,L5 (rdo br A m c :: tb) env ops n i = some (f,vs,d):=by intro _ _ _; kernel_rfl) (hl:Nat.ble vs.length n' = true:=by kernel_rfl):wpOp Pr ops Q i N a w:=by
 obtain ⟨A,m,c,hW,hr,hE,hP⟩:=h.open_
 exact R1 h.env_ (he none 0 0) hf hfn hb hn hl fun a2 hE2=>K a2 (RS.mk' hW hr hE2.rdo h.mv hP)
theorem NT {n' d:Nat} {fn:Func} {tb0:Tb} {env0:B8} {v:Value} {N:Act → World → Prop} (h:RS w0 M F n' br tb env P s a w) (K:∀ a',RS w0 M F n br tb ((d,.v v) :: env0) P s a' w → N a' w) (hp:Pl (rdo br none 0 0 :: tb0) (rdo br none 0 0 :: tb))
  (hr:∀ A m c,Q5 Pr (rdo br A m c :: tb) env fn.results = some v:=by intro _ _ _; kernel_rfl):bodyPost Pr fn (fun e w'=>∃ v,e = .returned v ∧ ∀ a',EnvOk n (rdo br none 0 0 :: tb0) ((d,.v v) :: env0) a' → N a' w') .ret a w:=by
 obtain ⟨A,m,c,hW,hrd,hE,hP⟩:=h.open_
 exact D1 hE hW.cells (hr A m c) ⟨v,rfl,fun a' hE'=>K a' (RS.mk' hW hrd (hE'.places hp).rdo h.mv hP)⟩
theorem JJ {n' d:Nat} {fn:Func} {tb0:Tb} {env0:B8} {v:Value} {N:Act → World → Prop} (h:RS w0 M F n' br tb env P s a w) (K:∀ a',RS w0 M F n br tb ((d,.v v) :: env0) P s a' w → N a' w) (hp:Pl (rdo br none 0 0 :: tb0) (rdo br none 0 0 :: tb))
  (hr:∀ A m c,Q5 Pr (rdo br A m c :: tb) env fn.results = some v:=by intro _ _ _; kernel_rfl):bodyPost Pr fn (fun e w'=>∃ v,e = .returned v ∧ ∀ a',EnvOk n (rdo br none 0 0 :: tb0) ((d,.v v) :: env0) a' → N a' w') .normal a w :=
 NT h K hp hr
end
def BQ:B8 → B8
 | []=>[]
 | (k,.v x) :: r=>(k,.v x) :: BQ r
 | (k,.p i j) :: r=>(k,.p (match i with | 0=>1 | 1=>0 | i=>i) j) :: BQ r
theorem NU {n:Nat} {o1 o2:Ob} {env:B8} {a:Act} (h:EnvOk n [o1,o2] env a):EnvOk n [o2,o1] (BQ env) a:=by
 have key:∀ (env:B8) (k:Nat) (x:SV),lk (BQ env) k = some x → ∃ y,lk env k = some y ∧ (y.ok [o1,o2] → x.val [o2,o1] = y.val [o1,o2] ∧ x.ok [o2,o1]):=by
  intro env
  induction env with
  | nil=>intro k x hx; cases hx
  | cons e r ih =>
   obtain ⟨k',sv⟩:=e
   intro k x hx
   cases sv with
   | v y =>
    simp only [BQ,lk] at hx ⊢
    split at hx
    ·rename_i hb
     simp only [Option.some.injEq] at hx
     subst hx
     exact ⟨_,rfl,fun _=>⟨rfl,trivial⟩⟩
    exact ih k x hx
   | p i j =>
    simp only [BQ,lk] at hx ⊢
    split at hx
    ·rename_i hb
     simp only [Option.some.injEq] at hx
     subst hx
     refine ⟨_,rfl,fun hok=>?_⟩
     have hok':i < 2:=hok
     match i,hok' with
     | 0,_=>exact ⟨rfl,show 1 < 2 by omega⟩
     | 1,_=>exact ⟨rfl,show 0 < 2 by omega⟩
    exact ih k x hx
 refine ⟨h.defers,h.size,fun k x hx=>?_⟩
 obtain ⟨y,hy,hv⟩:=key env k x hx
 obtain ⟨h1,h2⟩:=h.at_ k y hy
 obtain ⟨h3,h4⟩:=hv h2
 exact ⟨by rw [h3]; exact h1,h4⟩
theorem Bm {α:Type} {x y o:α} {i:Nat} (h:[y,x][i]? = some o):[x,y][1 - i]? = some o ∧ i < 2:=by
 match i,h with
 | 0,h=>exact ⟨h,by omega⟩
 | 1,h=>exact ⟨h,by omega⟩
 | i + 2,h=>simp at h
theorem WOk.swap2 {w0 w:World} {M:Nat → Nat → Prop} {o1 o2:Ob} (h:WOk w0 M w [o1,o2] []):WOk w0 M w [o2,o1] [] :=
 ⟨h.step,fun i o hi=>h.cells _ o (Bm hi).1,fun i o hi=>h.live _ o (Bm hi).1,fun i o hi=>h.rw_ _ o (Bm hi).1,fun i j o o' hij hi hj hw=>h.apart _ _ o o' (by have:=(Bm hi).2; have:=(Bm hj).2; omega) (Bm hi).1 (Bm hj).1 hw,h.own,h.ownM,fun i r hi=>by simp at hi,h.rr⟩
theorem NV {o1 o2:Ob} {b o:Nat} (h:H2 [o2,o1] [] b o):H2 [o1,o2] [] b o:=by
 rcases h with ⟨i,ob,hi,h1⟩ | ⟨i,r,hi,_⟩
 ·exact .inl ⟨_,ob,(Bm hi).1,h1⟩
 simp at hi
theorem RS.start {w0 w:World} {M F:Nat → Nat → Prop} {n br c:Nat} {A:Option Addr} {o1:Ob} {env:B8} {s:Bs} {a:Act} (hW:WOk w0 M w [o1,rdo br A s.length c] []) (hE:EnvOk n [o1,rdo br A s.length c] env a) (ho:Octs w (H1 F w0 w [o1,rdo br A s.length c] []) A c s) (env':B8) (he:pick (BQ env) (K3 env') = some env':=by kernel_rfl):RS w0 M F n br [o1] env' Ey s a w :=
 RS.mk' hW.swap2 ⟨rfl,ho.move (Step.refl w C7) B2 fun b o h _=>⟨h.1,h.2.1,fun ha=>h.2.2 (NV ha)⟩⟩ ((NU hE).pick he) MvF.no trivial
theorem BR {α:Type} {l:List α} {x y o:α} {i:Nat} (h:(l ++ [x,y])[i]? = some o):(i < l.length ∧ l[i]? = some o) ∨ (i = l.length ∧ o = x) ∨ (i = l.length + 1 ∧ o = y):=by
 rcases Nat.lt_or_ge i l.length with hl | hl
 ·rw [List.getElem?_append_left hl] at h; exact .inl ⟨hl,h⟩
 rw [List.getElem?_append_right hl] at h
 rcases hk:i - l.length with _ | _ | k
 ·rw [hk] at h; exact .inr (.inl ⟨by omega,(Option.some.inj h).symm⟩)
 ·rw [hk] at h; exact .inr (.inr ⟨by omega,(Option.some.inj h).symm⟩)
 rw [hk] at h; simp at h
theorem EE {α:Type} {l:List α} {x:α}:(l ++ [x])[l.length]? = some x:=by simp
section
variable {w0 w:World} {M:Nat → Nat → Prop} {tb:Tb} {rs:List Rw}
theorem WOk.splitL {b o o2:Nat} {cs1 cs2:List Value} (hW:WOk w0 M w (tb ++ [⟨b,o,cs1 ++ cs2,true⟩]) rs) (ho:o2 = o + cs1.length) :
  WOk w0 M w (tb ++ [⟨b,o2,cs2,true⟩,⟨b,o,cs1,true⟩]) rs ∧ Fr w (tb ++ [⟨b,o,cs1 ++ cs2,true⟩]) rs w (tb ++ [⟨b,o2,cs2,true⟩,⟨b,o,cs1,true⟩]) rs:=by
 subst ho
 have hi:(tb ++ [(⟨b,o,cs1 ++ cs2,true⟩:Ob)])[tb.length]? = some ⟨b,o,cs1 ++ cs2,true⟩:=EE
 have old:∀ {j:Nat} {q:Ob},j < tb.length → tb[j]? = some q → (tb ++ [(⟨b,o,cs1 ++ cs2,true⟩:Ob)])[j]? = some q:=fun {j q} hj h=>by rw [List.getElem?_append_left hj]; exact h
 have hlen:(cs1 ++ cs2).length = cs1.length + cs2.length:=List.length_append
 have act:∀ x y,H2 (tb ++ [⟨b,o + cs1.length,cs2,true⟩,⟨b,o,cs1,true⟩]) rs x y → H2 (tb ++ [⟨b,o,cs1 ++ cs2,true⟩]) rs x y:=fun x y ha=>by
  rcases ha with ⟨j,q,hj,h1,h2,h3,h4⟩ | ha
  ·rcases BR hj with ⟨hlt,hj⟩ | ⟨rfl,rfl⟩ | ⟨rfl,rfl⟩
   ·exact .inl ⟨j,q,old hlt hj,h1,h2,h3,h4⟩
   ·exact .inl ⟨_,_,hi,rfl,h2,by dsimp only at h3 ⊢; omega,by dsimp only at h4 ⊢; omega⟩
   exact .inl ⟨_,_,hi,rfl,h2,by dsimp only at h3 ⊢; omega,by dsimp only at h4 ⊢; omega⟩
  exact .inr ha
 refine ⟨⟨hW.step,?_,?_,?_,?_,hW.own,hW.ownM,?_,hW.rr⟩,⟨fun x y _ hn ha=>hn (act x y ha),Step.refl _ _⟩⟩
 ·intro j q hj p v hv
  rcases BR hj with ⟨hlt,hj⟩ | ⟨rfl,rfl⟩ | ⟨rfl,rfl⟩
  ·exact hW.cells j q (old hlt hj) p v hv
  ·have:=hW.cells _ _ hi (cs1.length + p) v (by dsimp only at hv ⊢; rw [List.getElem?_append_right (by omega),Nat.add_sub_cancel_left]; exact hv)
   dsimp only at this ⊢
   rwa [Nat.add_assoc]
  exact hW.cells _ _ hi p v (by dsimp only at hv ⊢; rw [List.getElem?_append_left (List.getElem?_eq_some_iff.1 hv).1]; exact hv)
 ·intro j q hj
  rcases BR hj with ⟨hlt,hj⟩ | ⟨rfl,rfl⟩ | ⟨rfl,rfl⟩
  ·exact hW.live j q (old hlt hj)
  ·have:=hW.live _ _ hi; exact this
  have:=hW.live _ _ hi; exact this
 ·intro j q hj hr p hp
  rcases BR hj with ⟨hlt,hj⟩ | ⟨rfl,rfl⟩ | ⟨rfl,rfl⟩
  ·exact hW.rw_ j q (old hlt hj) hr p hp
  ·have:=hW.rw_ _ _ hi rfl (cs1.length + p) (by dsimp only at hp ⊢; omega)
   dsimp only at this ⊢
   rwa [Nat.add_assoc]
  exact hW.rw_ _ _ hi rfl p (by dsimp only at hp ⊢; omega)
 ·intro j k q q' hjk hj hk hw
  rcases BR hj with ⟨hlj,hj⟩ | ⟨rfl,rfl⟩ | ⟨rfl,rfl⟩ <;> rcases BR hk with ⟨hlk,hk⟩ | ⟨rfl,rfl⟩ | ⟨rfl,rfl⟩
  ·exact hW.apart j k q q' hjk (old hlj hj) (old hlk hk) hw
  ·have:=hW.apart j _ q _ (by omega) (old hlj hj) hi (.inr rfl)
   dsimp only at this ⊢; omega
  ·have:=hW.apart j _ q _ (by omega) (old hlj hj) hi (.inr rfl)
   dsimp only at this ⊢; omega
  ·have:=hW.apart _ k _ q' (by omega) hi (old hlk hk) (.inl rfl)
   dsimp only at this ⊢; omega
  ·exact absurd rfl hjk
  ·exact .inr (.inr (Nat.le_refl _))
  ·have:=hW.apart _ k _ q' (by omega) hi (old hlk hk) (.inl rfl)
   dsimp only at this ⊢; omega
  ·exact .inr (.inl (Nat.le_refl _))
  exact absurd rfl hjk
 intro j r hj g hg k q hk
 rcases BR hk with ⟨hlk,hk⟩ | ⟨rfl,rfl⟩ | ⟨rfl,rfl⟩
 ·exact hW.rtb j r hj g hg k q (old hlk hk)
 ·have:=hW.rtb j r hj g hg _ _ hi; exact this
 have:=hW.rtb j r hj g hg _ _ hi; exact this
theorem WOk.atLast {G:Nat → Nat → Prop} {b o:Nat} {cs:List Value} (hW:WOk w0 M w (tb ++ [⟨b,o,cs,true⟩]) []) (hb:w0.heap.size ≤ b):AtF w (H1 G w0 w tb []) b o cs:=fun j v hj=>by
 have hlt:j < cs.length:=(List.getElem?_eq_some_iff.1 hj).1
 refine ⟨⟨.inr hb,?_,fun ha=>?_⟩,?_⟩
 ·have:=hW.live _ _ EE; exact this
 ·rcases ha with ⟨i,q,hi,hr,h2,h3,h4⟩ | ⟨i,r,hi,_⟩
  ·have hil:i < tb.length:=(List.getElem?_eq_some_iff.1 hi).1
   have:=hW.apart i _ q _ (by omega) (by rw [List.getElem?_append_left hil]; exact hi) EE (.inr rfl)
   dsimp only at this; omega
  simp at hi
 have:=hW.cells _ _ EE j v hj; exact this
end
def T7 (g size:Nat) (cl:DV → List Value) (ok:World → (Nat → Nat → Prop) → DV → Prop) (rel:DV → Tree → Prop) (L:List Tree) (k:Nat):G9:=fun w F=>∃ ds:Nat → DV,∀ i,i < k → (cl (ds i)).length = size ∧ AtF w F g (0 + i * size) (cl (ds i)) ∧ ok w F (ds i) ∧ rel (ds i) (L.getD i .zero)
theorem MvF.done {g size:Nat} {cl:DV → List Value} {ok:World → (Nat → Nat → Prop) → DV → Prop} {rel:DV → Tree → Prop} {L:List Tree} {k:Nat} (mv:V8 ok):MvF (T7 g size cl ok rel L k):=⟨fun hs hM hF h=>by
 obtain ⟨ds,h⟩:=h
 refine ⟨ds,fun i hi=>?_⟩
 obtain ⟨h1,h2,h3,h4⟩:=h i hi
 exact ⟨h1,h2.move hs hM hF,mv _ hs hM hF h3,h4⟩⟩
abbrev I5 (g size:Nat) (z:Value) (l k:Nat):Ob:=⟨g,k * size,P4 z (l - k),true⟩
def Y8 (size:Nat) (cl:DV → List Value) (ok:World → (Nat → Nat → Prop) → DV → Prop) (rel:DV → Tree → Prop) (A:Option Addr) (c:Nat) (L:List Tree) (f:Nat → DV):G9:=fun w F=>Slots w F size A c L.length (fun i=>cl (f i)) ∧ (∀ i,i < L.length → ok w F (f i)) ∧ ∀ i,i < L.length → rel (f i) (L.getD i .zero)
theorem MvF.lst {size:Nat} {cl:DV → List Value} {ok:World → (Nat → Nat → Prop) → DV → Prop} {rel:DV → Tree → Prop} {A:Option Addr} {c:Nat} {L:List Tree} {f:Nat → DV} (mv:V8 ok):MvF (Y8 size cl ok rel A c L f):=⟨fun hs hM hF h =>
 ⟨h.1.move hs hM hF,fun i hi=>mv _ hs hM hF (h.2.1 i hi),h.2.2⟩⟩
section
variable {Pr:Program} {ops:Array Oper} {Q:Exit → Act → World → Prop} {w0:World} {M F:Nat → Nat → Prop} {n br:Nat} {tb:Tb} {env:B8} {P:G9} {s:Bs} {a:Act} {w:World}
 {g size:Nat} {cl:DV → List Value} {ok:World → (Nat → Nat → Prop) → DV → Prop} {rel:DV → Tree → Prop} {L:List Tree} {z:Value}
theorem RS.pull {ι:Type} {Qf:ι → G9} (h:RS w0 M F n br tb env (J2 P (fun w F=>∃ x,Qf x w F)) s a w) (mP:MvF P) (mv:∀ x,MvF (Qf x)):∃ x,RS w0 M F n br tb env (J2 P (Qf x)) s a w:=by
 obtain ⟨h1,x,hx⟩:=h.fact
 exact ⟨x,mP.and (mv x),h.ex,h.env_,h1,hx⟩
theorem RS.drop {b o:Nat} {cs:List Value} (h:RS w0 M F n br (tb ++ [⟨b,o,cs,true⟩]) env P s a w) (hb:w0.heap.size ≤ b) (hl:O0 (tb.length + 1) env = true):RS w0 M F n br tb env (J2 P (JG b o cs)) s a w:=by
 obtain ⟨A,m,c,hW,hr,hE,hP⟩:=h.open_
 have hW':WOk w0 M w ((rdo br A m c :: tb) ++ [⟨b,o,cs,true⟩]) []:=hW
 have h1:=hW'.cutTb (tb.length + 1)
 have hF:=Fr.cutTb w ((rdo br A m c :: tb) ++ [⟨b,o,cs,true⟩]) [] (tb.length + 1)
 have e:((rdo br A m c :: tb) ++ [(⟨b,o,cs,true⟩:Ob)]).take (tb.length + 1) = rdo br A m c :: tb:=by
  show List.take ((rdo br A m c :: tb).length) _ = _
  exact List.take_left
 have hE1:=hE.cutTb (tb.length + 1) hl
 have e2:(rdo br A m c :: (tb ++ [(⟨b,o,cs,true⟩:Ob)])).take (tb.length + 1) = rdo br A m c :: tb:=e
 rw [e] at h1 hF
 rw [e2] at hE1
 exact RS.mk' h1 (hr.move hF.step immM hF.to') hE1 (h.mv.and (MvF.at_ _ _ _)) ⟨h.mv.move hF.step immM hF.to' hP,hW'.atLast hb⟩
theorem RS.dropT {b o:Nat} {cs:List Value} (h:RS w0 M F n br (tb ++ [⟨b,o,cs,true⟩]) env P s a w) (hb:w0.heap.size ≤ b) (hl:O0 (tb.length + 1) env = true):RS w0 M F n br tb env P s a w :=
 (h.drop hb hl).weak h.mv fun _ _ g=>g.1
theorem RS.next {l k:Nat} (h:RS w0 M F n br (tb ++ [I5 g size z l k]) env P s a w) (hk:k < l) (hz:z.cells.size = size) (hl:O0 (tb.length + 1) env = true):RS w0 M F n br (tb ++ [I5 g size z l (k + 1),⟨g,k * size,z.cells.toList,true⟩]) env P s a w:=by
 obtain ⟨A,m,c,hW,hr,hE,hP⟩:=h.open_
 have e:P4 z (l - k) = z.cells.toList ++ P4 z (l - (k + 1)):=by rw [show l - k = (l - (k + 1)) + 1 by omega,Nj]
 have hW':WOk w0 M w ((rdo br A m c :: tb) ++ [⟨g,k * size,z.cells.toList ++ P4 z (l - (k + 1)),true⟩]) []:=by rw [← e]; exact hW
 obtain ⟨h1,hF⟩:=hW'.splitL (o2:=(k + 1) * size) (by rw [Array.length_toList,hz,Nat.add_mul,Nat.one_mul])
 rw [← e] at hF
 have hE1:=hE.cutTb (tb.length + 1) hl
 have e2:(rdo br A m c :: (tb ++ [I5 g size z l k])).take (tb.length + 1) = rdo br A m c :: tb:=by
  show List.take ((rdo br A m c :: tb).length) ((rdo br A m c :: tb) ++ _) = _
  exact List.take_left
 rw [e2] at hE1
 have hE2:=(hE1.grow (I5 g size z l (k + 1))).grow ⟨g,k * size,z.cells.toList,true⟩
 have e3:((rdo br A m c :: tb) ++ [I5 g size z l (k + 1)]) ++ [(⟨g,k * size,z.cells.toList,true⟩:Ob)] = rdo br A m c :: (tb ++ [I5 g size z l (k + 1),⟨g,k * size,z.cells.toList,true⟩]):=by simp
 rw [e3] at hE2
 exact RS.mk' h1 (hr.move hF.step immM hF.to') hE2 h.mv (h.mv.move hF.step immM hF.to' hP)
theorem RS.thing {k:Nat} {D:DV} {X:G9} (h:RS w0 M F n br (tb ++ [I5 g size z L.length (k + 1),⟨g,k * size,cl D,true⟩]) env X s a w) (hg:w0.heap.size ≤ g) {t:Tree} (ht:L[k]? = some t) (mv:V8 ok) (mP:MvF P) (hcl:(cl D).length = size)
  (hx:∀ w F,X w F → P w F ∧ T7 g size cl ok rel L k w F ∧ ok w F D ∧ rel D t) (hl:O0 (tb.length + 2) env = true):RS w0 M F n br (tb ++ [I5 g size z L.length (k + 1)]) env (J2 P (T7 g size cl ok rel L (k + 1))) s a w:=by
 have h':RS w0 M F n br ((tb ++ [I5 g size z L.length (k + 1)]) ++ [⟨g,k * size,cl D,true⟩]) env X s a w:=by
  rw [List.append_assoc]; exact h
 refine (h'.drop hg (by simpa using hl)).weak (mP.and (MvF.done mv)) fun w F hf=>?_
 obtain ⟨hf,hat⟩:=hf
 obtain ⟨h1,⟨ds,h2⟩,h3,h4⟩:=hx w F hf
 refine ⟨h1,fun i=>if i = k then D else ds i,fun i hi=>?_⟩
 by_cases hik:i = k
 ·subst hik
  simp only [if_true]
  exact ⟨hcl,by rw [Nat.zero_add]; exact hat,h3,by rw [List.getD_eq_getElem?_getD,ht]; exact h4⟩
 simp only [if_neg hik]
 exact h2 i (by omega)
theorem RS.listEnd {c:Nat} (h:RS w0 M F n br (tb ++ [I5 g size z L.length L.length]) env (J2 P (T7 g size cl ok rel L L.length)) s a w) (hg:w0.heap.size ≤ g) (mv:V8 ok) (mP:MvF P) (hc:L.length ≤ c) (hsm:L.length ≤ 1099511627776) (h0:0 < L.length)
  (hl:O0 (tb.length + 1) env = true):∃ f:Nat → DV,RS w0 M F n br tb env (J2 P (Y8 size cl ok rel (some ⟨g,0,none⟩) c L f)) s a w:=by
 have mE:MvF (fun w F=>∃ f:Nat → DV,Y8 size cl ok rel (some ⟨g,0,none⟩) c L f w F):=⟨fun hs hM hF hx=>by
  obtain ⟨f,hx⟩:=hx
  exact ⟨f,(MvF.lst mv).move hs hM hF hx⟩⟩
 refine RS.pull (Qf:=fun f=>Y8 size cl ok rel (some ⟨g,0,none⟩) c L f) ((h.drop hg hl).weak (mP.and mE) fun w F hf=>?_) mP fun f=>MvF.lst mv
 obtain ⟨⟨h1,ds,h2⟩,_⟩:=hf
 refine ⟨h1,ds,⟨hc,hsm,fun h=>by (cases h),fun ad hA _=>?_⟩,fun i hi=>(h2 i hi).2.2.1,fun i hi=>(h2 i hi).2.2.2⟩
 obtain rfl:=Option.some.inj hA
 exact ⟨g,0,rfl,fun i hi=>⟨(h2 i hi).1,(h2 i hi).2.1⟩⟩
theorem EF {c:Code} (gf:Tree → Bs) (rest:Bs) (envk:Nat → B8) (h:RS w0 M F n br (tb ++ [⟨g,0,P4 z L.length,true⟩]) (envk 0) P (L.flatMap gf ++ rest) a w) (mv:V8 ok)
  (body:∀ k t a w,L[k]? = some t → k < L.length → RS w0 M F n br (tb ++ [I5 g size z L.length k]) (envk k) (J2 P (T7 g size cl ok rel L k)) (gf t ++ ((L.drop (k + 1)).flatMap gf ++ rest)) a w →
   c.wp Pr (Exit.then (fun a' w'=>RS w0 M F n br (tb ++ [I5 g size z L.length (k + 1)]) (envk (k + 1)) (J2 P (T7 g size cl ok rel L (k + 1))) ((L.drop (k + 1)).flatMap gf ++ rest) a' w') Q) a w)
  (fin:∀ a w,RS w0 M F n br (tb ++ [I5 g size z L.length L.length]) (envk L.length) (J2 P (T7 g size cl ok rel L L.length)) rest a w → c.wp Pr (Exit.then (fun _ _=>False) Q) a w):(Code.loop c).wp Pr Q a w:=by
 refine wp_loop_ghost (fun q a_ w_=>∃ k,q = L.length - k ∧ k ≤ L.length ∧ RS w0 M F n br (tb ++ [I5 g size z L.length k]) (envk k) (J2 P (T7 g size cl ok rel L k)) ((L.drop k).flatMap gf ++ rest) a_ w_) L.length
  ⟨0,by omega,Nat.zero_le _,?_⟩ ?_
 ·have e:I5 g size z L.length 0 = ⟨g,0,P4 z L.length,true⟩:=by simp only [I5,Nat.zero_mul,Nat.sub_zero]
  rw [e,List.drop_zero]
  exact h.weak (h.mv.and (MvF.done mv)) fun w F hP=>⟨hP,fun _=>Bh,fun i hi=>absurd hi (Nat.not_lt_zero i)⟩
 rintro q aq wq ⟨k,rfl,hk,hS⟩
 rcases Nat.lt_or_ge k L.length with hlt | hge
 ·obtain ⟨t,ht⟩:∃ t,L[k]? = some t:=⟨_,List.getElem?_eq_getElem hlt⟩
  have e:(L.drop k).flatMap gf ++ rest = gf t ++ ((L.drop (k + 1)).flatMap gf ++ rest):=by
   rw [T5 ht,List.flatMap_cons,List.append_assoc]
  refine wp_mono (body k t aq wq ht hlt (hS.cast e)) fun e a' w' hq=>?_
  cases e <;> first | exact hq | exact ⟨L.length - (k + 1),by omega,k + 1,rfl,hlt,hq⟩
 obtain rfl:k = L.length:=by omega
 rw [List.drop_length] at hS
 refine wp_mono (fin aq wq hS) fun e a' w' hq=>?_
 cases e <;> first | exact hq | exact hq.elim
theorem EG {c:Code} (h:c.wp Pr (Exit.then (fun _ _=>False) Q) a w):(Code.loop c).wp Pr Q a w:=by
 refine wp_loop_ghost (fun _ a_ w_=>a_ = a ∧ w_ = w) 0 ⟨rfl,rfl⟩ ?_
 rintro q _ _ ⟨rfl,rfl⟩
 refine wp_mono h fun e a' w' hq=>?_
 cases e <;> first | exact hq | exact hq.elim
theorem EH {x y z:Code} {Mid:Act → World → Prop} (h1:x.wp Pr (Exit.then (fun a w=>y.wp Pr (Exit.then Mid Q) a w) Q) a w) (h2:∀ a' w',Mid a' w' → z.wp Pr Q a' w'):(Code.seq x (.seq y z)).wp Pr Q a w :=
 wp_seq (Je h1 fun a' w' hy=>wp_seq (Je hy h2))
end
end Go.Proofs.YtoclgihkbmaolacGreatDoor.ME