/- The texts of a claim, put together: the engine, the contracts, the law. Own work. -/
import Derived.Test.YtdlaobdadlmcdaaGreatDoorWt2P1
import Derived.Lib.EndianBits
import Derived.Scope
import Derived.Lib.AppendZeros
import Derived.Deep.LoopGhost
namespace Go.Proofs.YtdlaobdadlmcdaaGreatDoor.ME
open Go
open Go.RowKit
set_option linter.unusedVariables false
set_option linter.unusedSimpArgs false
set_option maxRecDepth 20000
def qjZ (d:Nat):Prop:=∀ (cf:List Value) (f:Fld) (ct:List Value) (t:Tree) (w:World) (F:Nat → Nat → Prop),FldR w F cf f → f.depth ≤ d → TreeR w F ct t →
  Calls Tryz.prog 32 #[.agg cf.toArray,.agg ct.toArray] w (qcI w (.bool (f.usual t)))
theorem qhV {d:Nat} (hu:qjZ d) (cf:List Value) (f:Fld) (ct:List Value) (t:Tree) (w:World) (F:Nat → Nat → Prop) (hf:FldR w F cf f) (hd:f.depth ≤ d + 1) (ht:TreeR w F ct t) :
  Calls Tryz.prog 32 #[.agg cf.toArray,.agg ct.toArray] w (qcI w (.bool (f.usual t))):=by
 obtain ⟨k1,y2,y3,y4,y5,y6,y7,l8,A9,aA,dE,rfl,rfl,dF,eo⟩:=hf.open_
 have ep:=dF.small
 obtain ⟨af,ab,aC,aK,aB,ah,ai,bS,bT,bt,bu,fh,rfl,rfl,eu,fi,gO,fj⟩:=ht.open_
 have ev:=eu.small
 have ew:=fi.small
 refine enter (n:=91) Tryz.func32 rfl Tryz.ntmps32 kz fun a hE=>?_
 have hW:=WOk.start w Nil
 refine qaf [0,1,2] kz ?_
 refine qan (qby hW hE (d:=2) (cs:=(z6 k1 y2 y3 y4 y5 y6 y7 A9 l8.length aA)) kz fun dG gP gQ fk fm fo dH dI=>?_)
 refine qan (qby dH dI (d:=3) (cs:=(z1 af ah ab.length ai aC bS aK.length bT bt aB.length bu)) kz fun dJ gR gS fq fr ft aa dK=>?_)
 refine qak [2] [] [(2,.p 0 0),(3,.p 1 0)] aa dK fun gT dL=>?_
 refine qag (qab ?_)
 refine wp_seq (qas [(2,.p 0 0),(3,.p 1 0),(10,.v (.int .i64 k1))] aa dL fun gU dM=>?_)
 refine wp_block (qas [(2,.p 0 0),(3,.p 1 0),(10,.v (.int .i64 k1)),(11,.v (.bool (k1 == 0)))] aa dM fun gV bM=>?_)
 refine qax bM (b:=k1 == 0) kz (fun bN=>?_) (fun bN=>?_)
 ·
  have fv:k1 = 0:=by simpa using bN
  refine qas [(4,.v (.bool ((IntKind.i64.wrap (zB 64 af &&& zB 64 1).toNat) == y6)))] aa bM fun gW dN=>?_
  refine wp_ret (qaz (qat (qaK dN aa.cells (v:=.bool ((IntKind.i64.wrap (zB 64 af &&& zB 64 1).toNat) == y6)) kz ?_)))
  refine ⟨congrArg (fun b_=>Ending.returned (Value.bool b_)) ?_,aa.step⟩
  first
   | (rw [qdi ‹_›]; simp only [and1]; done)
   | (rw [qb3 ‹_› ‹_›]; exact qb2 hz (by omega); done)
   | (rw [qb3 ‹_› ‹_›]; exact qbR (k:=k) (by omega) (by omega) ‹_›; done)
   | (rw [qcu ‹_› ‹_› (by omega) ‹_›]; done)
   | (rw [qcK ‹_› ‹_› (by omega) ‹_›]; done)
   | (rw [qcL ‹_› ‹_› ‹_› ‹_› ‹_›]; done)
   | (rw [qcG ‹_› ‹_› ‹_› ‹_› ‹_› ‹_›,huu,qcb (by omega),Bool.true_and]; done)
   | (rw [qca ‹_› ‹_› ‹_› ‹_› ‹_› ‹_›]; done)
 have fw:k1 ≠ 0:=by simpa using bN
 refine qas [(2,.p 0 0),(3,.p 1 0),(10,.v (.int .i64 k1)),(19,.v (.bool (k1 == 7)))] aa bM fun gX bO=>?_
 refine qax bO (b:=k1 == 7) kz (fun bP=>?_) (fun bP=>?_)
 ·
  have fx:k1 = 7:=by simpa using bP
  refine wp_seq (qas [(22,.v (.slice ah ab.length ai)),(23,.v (.int .i64 ((ab.length:Nat):Int))),(24,.v (.int .i64 0))] aa bO fun gY dO=>?_)
  refine wp_block (wp_loop_ghost (fun n_ a_ w_=>∃ (k:Nat),n_ = ab.length - k ∧ k ≤ ab.length ∧ (∀ q,q < k → q < 16 → (((ab.getD q 0).toNat:Nat):Int) = 0) ∧ LInv aa 91 [⟨dG,0,[.int .i64 k1,.int .i64 y2,.int .i64 y3,.int .i64 y4,.int .i64 y5,.int .i64 y6,.int .i64 y7,.slice A9 l8.length aA],true⟩,⟨dJ,0,[.int .i64 af,.slice ah ab.length ai,.bool aC,.slice bS aK.length bT,.slice bt aB.length bu],true⟩] [] [(22,.v (.slice ah ab.length ai)),(23,.v (.int .i64 ((ab.length:Nat):Int))),(24,.v (.int .i64 ((k:Nat):Int)))] a_ w_) (ab.length) ⟨0,by omega,by omega,fun q h_=>absurd h_ (Nat.not_lt_zero q),dO.pk,aa,Fr.refl _ _ _⟩ ?_)
  rintro gZ g9 hC ⟨k,fy,fz,hz,dP,ae,bU⟩
  refine qas [(22,.v (.slice ah ab.length ai)),(23,.v (.int .i64 ((ab.length:Nat):Int))),(24,.v (.int .i64 ((k:Nat):Int))),(25,.v (.bool (decide (((k:Nat):Int) < ((ab.length:Nat):Int)))))] ae dP fun hJ bQ=>?_
  refine wp_seq (qax bQ (b:=decide (((k:Nat):Int) < ((ab.length:Nat):Int))) kz (fun bR=>?_) (fun bR=>?_))
  ·
   have fA:=zD bR
   refine wp_skip (qab (wp_seq (wp_block (qaf [0,1,2,3,4] kz ?_))))
   refine qak [0] [1,2,3,4] [(22,.v (.slice ah ab.length ai)),(23,.v (.int .i64 ((ab.length:Nat):Int))),(24,.v (.int .i64 ((k:Nat):Int))),(26,.v (.int .i64 ((k:Nat):Int)))] ae bQ fun hK dQ=>?_
   obtain ⟨fB,fC,dR,fD,bV⟩:=Slots.get eu (i:=k) (by omega)
   refine qan (qaB dQ (t:=22) (A:=ah) (m:=ab.length) (q:=((k:Nat):Int)) (d:=27) kz (e:=5) (size:=1) (bytes:=1) kz dR rfl (by omega) fun hZ dS=>?_)
   refine qan (qaW dS (t:=5) (b:=fB) (o:=fC + k * 1) (d:=28) kz (cs:=[.int .u8 ((ab.getD k 0).toNat:Int)]) (v:=.int .u8 ((ab.getD k 0).toNat:Int)) kz (AtF.move bV ae.step nilM qbi).at_ fun ia dT=>?_)
   refine qak [3,4] [] [(5,.v (.int .i64 ((k:Nat):Int))),(6,.v (.int .u8 ((ab.getD k 0).toNat:Int))),(22,.v (.slice ah ab.length ai)),(23,.v (.int .i64 ((ab.length:Nat):Int))),(24,.v (.int .i64 ((k:Nat):Int)))] ae dT fun ib dU=>?_
   refine qag (qab ?_)
   refine qaf [0,1,2,3,4,5] kz ?_
   refine qak [0,1,2] [3,4,5] [(6,.v (.int .u8 ((ab.getD k 0).toNat:Int))),(22,.v (.slice ah ab.length ai)),(23,.v (.int .i64 ((ab.length:Nat):Int))),(24,.v (.int .i64 ((k:Nat):Int))),(31,.v (.bool (decide (((k:Nat):Int) < 16))))] ae dU fun ic bW=>?_
   refine (zO (decide (((k:Nat):Int) < 16))).elim (fun aL=>?_) (fun aL=>?_)
   ·
    have fE:=zD aL
    have dV:=bW
    rw [aL] at dV
    refine qak [3,4,5] [] [(22,.v (.slice ah ab.length ai)),(23,.v (.int .i64 ((ab.length:Nat):Int))),(24,.v (.int .i64 ((k:Nat):Int))),(34,.v (.bool (((ab.getD k 0).toNat:Int) != 0)))] ae dV fun ig aM=>?_
    refine qag (qab ?_)
    refine qax aM (b:=((ab.getD k 0).toNat:Int) != 0) kz (fun aN=>?_) (fun aN=>?_)
    ·
     have ey:((ab.getD k 0).toNat:Int) ≠ 0:=by simpa using aN
     refine qas [(4,.v (.bool false))] ae aM fun fF bX=>?_
     refine wp_ret (qaz (qat (qat (qaz (qat (qaz (qat (qaK bX ae.cells (v:=.bool false) kz ?_))))))))
     refine ⟨congrArg (fun b_=>Ending.returned (Value.bool b_)) ?_,ae.step⟩
     first
      | (rw [qdi ‹_›]; simp only [and1]; done)
      | (rw [qb3 ‹_› ‹_›]; exact qb2 hz (by omega); done)
      | (rw [qb3 ‹_› ‹_›]; exact qbR (k:=k) (by omega) (by omega) ‹_›; done)
      | (rw [qcu ‹_› ‹_› (by omega) ‹_›]; done)
      | (rw [qcK ‹_› ‹_› (by omega) ‹_›]; done)
      | (rw [qcL ‹_› ‹_› ‹_› ‹_› ‹_›]; done)
      | (rw [qcG ‹_› ‹_› ‹_› ‹_› ‹_› ‹_›,huu,qcb (by omega),Bool.true_and]; done)
      | (rw [qca ‹_› ‹_› ‹_› ‹_› ‹_› ‹_›]; done)
    have ez:((ab.getD k 0).toNat:Int) = 0:=by simpa using aN
    refine wp_skip (qav (qab (qau [0,1] kz ?_)))
    refine qak [0,1] [] [(22,.v (.slice ah ab.length ai)),(23,.v (.int .i64 ((ab.length:Nat):Int))),(24,.v (.int .i64 (IntKind.i64.wrap (((k:Nat):Int) + 1))))] ae aM fun fG bw=>?_
    refine qag (qab ?_)
    have bY:IntKind.i64.wrap (((k:Nat):Int) + 1) = ((k + 1:Nat):Int):=qaS (by omega)
    rw [bY] at bw
    exact ⟨ab.length - (k + 1),by omega,k + 1,rfl,by omega,fun q hq bZ=>by rcases Nat.lt_succ_iff_lt_or_eq.1 hq with h_ | h_; exact hz q h_ bZ; rw [h_] at bZ ⊢; first | assumption | omega,bw.pk,ae,bU⟩
   have eB:=zF aL
   have cd:=bW
   rw [aL] at cd
   refine qak [3,4,5] [] [(22,.v (.slice ah ab.length ai)),(23,.v (.int .i64 ((ab.length:Nat):Int))),(24,.v (.int .i64 ((k:Nat):Int))),(34,.v (.bool false))] ae cd fun fH bx=>?_
   refine qag (qab ?_)
   refine qaq bx (b:=false) kz rfl ?_
   refine wp_skip (qav (qab (qau [0,1] kz ?_)))
   refine qak [0,1] [] [(22,.v (.slice ah ab.length ai)),(23,.v (.int .i64 ((ab.length:Nat):Int))),(24,.v (.int .i64 (IntKind.i64.wrap (((k:Nat):Int) + 1))))] ae bx fun fI bz=>?_
   refine qag (qab ?_)
   have ce:IntKind.i64.wrap (((k:Nat):Int) + 1) = ((k + 1:Nat):Int):=qaS (by omega)
   rw [ce] at bz
   exact ⟨ab.length - (k + 1),by omega,k + 1,rfl,by omega,fun q hq bZ=>by rcases Nat.lt_succ_iff_lt_or_eq.1 hq with h_ | h_; exact hz q h_ bZ; rw [h_] at bZ ⊢; first | assumption | omega,bz.pk,ae,bU⟩
  have eC:=zF bR
  refine wp_exit (qay (qay (qaQ (qab (qas [(4,.v (.bool true))] ae bQ fun fJ cm=>?_)))))
  refine wp_ret (qaz (qat (qaK cm ae.cells (v:=.bool true) kz ?_)))
  refine ⟨congrArg (fun b_=>Ending.returned (Value.bool b_)) ?_,ae.step⟩
  first
   | (rw [qdi ‹_›]; simp only [and1]; done)
   | (rw [qb3 ‹_› ‹_›]; exact qb2 hz (by omega); done)
   | (rw [qb3 ‹_› ‹_›]; exact qbR (k:=k) (by omega) (by omega) ‹_›; done)
   | (rw [qcu ‹_› ‹_› (by omega) ‹_›]; done)
   | (rw [qcK ‹_› ‹_› (by omega) ‹_›]; done)
   | (rw [qcL ‹_› ‹_› ‹_› ‹_› ‹_›]; done)
   | (rw [qcG ‹_› ‹_› ‹_› ‹_› ‹_› ‹_›,huu,qcb (by omega),Bool.true_and]; done)
   | (rw [qca ‹_› ‹_› ‹_› ‹_› ‹_› ‹_›]; done)
 have eD:k1 ≠ 7:=by simpa using bP
 refine wp_seq (qas [(2,.p 0 0),(3,.p 1 0),(10,.v (.int .i64 k1)),(36,.v (.bool (k1 == 8)))] aa bO fun fK aD=>?_)
 refine qax aD (b:=k1 == 8) kz (fun aE=>?_) (fun aE=>?_)
 ·
  have eE:k1 = 8:=by simpa using aE
  refine wp_skip (qab (qa9 aD (b:=k1 == 8) kz (aE) ?_))
  refine wp_seq (qas [(3,.p 1 0),(41,.v (.bool (decide (y4 ≥ 0))))] aa aD fun fL aO=>?_)
  refine qax aO (b:=decide (y4 ≥ 0)) kz (fun aP=>?_) (fun aP=>?_)
  ·
   have eF:=zD aP
   refine qas [(4,.v (.bool aC))] aa aO fun fM cq=>?_
   refine wp_ret (qat (qaz (qat (qaK cq aa.cells (v:=.bool aC) kz ?_))))
   refine ⟨congrArg (fun b_=>Ending.returned (Value.bool b_)) ?_,aa.step⟩
   first
    | (rw [qdi ‹_›]; simp only [and1]; done)
    | (rw [qb3 ‹_› ‹_›]; exact qb2 hz (by omega); done)
    | (rw [qb3 ‹_› ‹_›]; exact qbR (k:=k) (by omega) (by omega) ‹_›; done)
    | (rw [qcu ‹_› ‹_› (by omega) ‹_›]; done)
    | (rw [qcK ‹_› ‹_› (by omega) ‹_›]; done)
    | (rw [qcL ‹_› ‹_› ‹_› ‹_› ‹_›]; done)
    | (rw [qcG ‹_› ‹_› ‹_› ‹_› ‹_› ‹_›,huu,qcb (by omega),Bool.true_and]; done)
    | (rw [qca ‹_› ‹_› ‹_› ‹_› ‹_› ‹_›]; done)
  have eG:=zF aP
  refine wp_skip (qab (qas [(4,.v (.bool (((ab.length:Nat):Int) == 0)))] aa aO fun fN cr=>?_))
  refine wp_ret (qaz (qat (qaK cr aa.cells (v:=.bool (((ab.length:Nat):Int) == 0)) kz ?_)))
  refine ⟨congrArg (fun b_=>Ending.returned (Value.bool b_)) ?_,aa.step⟩
  first
   | (rw [qdi ‹_›]; simp only [and1]; done)
   | (rw [qb3 ‹_› ‹_›]; exact qb2 hz (by omega); done)
   | (rw [qb3 ‹_› ‹_›]; exact qbR (k:=k) (by omega) (by omega) ‹_›; done)
   | (rw [qcu ‹_› ‹_› (by omega) ‹_›]; done)
   | (rw [qcK ‹_› ‹_› (by omega) ‹_›]; done)
   | (rw [qcL ‹_› ‹_› ‹_› ‹_› ‹_›]; done)
   | (rw [qcG ‹_› ‹_› ‹_› ‹_› ‹_› ‹_›,huu,qcb (by omega),Bool.true_and]; done)
   | (rw [qca ‹_› ‹_› ‹_› ‹_› ‹_› ‹_›]; done)
 have eH:k1 ≠ 8:=by simpa using aE
 refine qau [0,1] kz ?_
 refine qak [0,1] [] [(2,.p 0 0),(3,.p 1 0),(10,.v (.int .i64 k1)),(36,.v (.bool (k1 == 9)))] aa aD fun fO aQ=>?_
 refine qag (qab ?_)
 refine qax aQ (b:=k1 == 9) kz (fun aR=>?_) (fun aR=>?_)
 ·
  have eI:k1 = 9:=by simpa using aR
  refine wp_seq (qas [(3,.p 1 0),(41,.v (.bool (decide (y4 ≥ 0))))] aa aQ fun fP aS=>?_)
  refine qax aS (b:=decide (y4 ≥ 0)) kz (fun aT=>?_) (fun aT=>?_)
  ·
   have eJ:=zD aT
   refine qas [(4,.v (.bool aC))] aa aS fun fQ cu=>?_
   refine wp_ret (qat (qaz (qat (qaK cu aa.cells (v:=.bool aC) kz ?_))))
   refine ⟨congrArg (fun b_=>Ending.returned (Value.bool b_)) ?_,aa.step⟩
   first
    | (rw [qdi ‹_›]; simp only [and1]; done)
    | (rw [qb3 ‹_› ‹_›]; exact qb2 hz (by omega); done)
    | (rw [qb3 ‹_› ‹_›]; exact qbR (k:=k) (by omega) (by omega) ‹_›; done)
    | (rw [qcu ‹_› ‹_› (by omega) ‹_›]; done)
    | (rw [qcK ‹_› ‹_› (by omega) ‹_›]; done)
    | (rw [qcL ‹_› ‹_› ‹_› ‹_› ‹_›]; done)
    | (rw [qcG ‹_› ‹_› ‹_› ‹_› ‹_› ‹_›,huu,qcb (by omega),Bool.true_and]; done)
    | (rw [qca ‹_› ‹_› ‹_› ‹_› ‹_› ‹_›]; done)
  have eK:=zF aT
  refine wp_skip (qab (qas [(4,.v (.bool (((ab.length:Nat):Int) == 0)))] aa aS fun fR cw=>?_))
  refine wp_ret (qaz (qat (qaK cw aa.cells (v:=.bool (((ab.length:Nat):Int) == 0)) kz ?_)))
  refine ⟨congrArg (fun b_=>Ending.returned (Value.bool b_)) ?_,aa.step⟩
  first
   | (rw [qdi ‹_›]; simp only [and1]; done)
   | (rw [qb3 ‹_› ‹_›]; exact qb2 hz (by omega); done)
   | (rw [qb3 ‹_› ‹_›]; exact qbR (k:=k) (by omega) (by omega) ‹_›; done)
   | (rw [qcu ‹_› ‹_› (by omega) ‹_›]; done)
   | (rw [qcK ‹_› ‹_› (by omega) ‹_›]; done)
   | (rw [qcL ‹_› ‹_› ‹_› ‹_› ‹_›]; done)
   | (rw [qcG ‹_› ‹_› ‹_› ‹_› ‹_› ‹_›,huu,qcb (by omega),Bool.true_and]; done)
   | (rw [qca ‹_› ‹_› ‹_› ‹_› ‹_› ‹_›]; done)
 have eL:k1 ≠ 9:=by simpa using aR
 refine qas [(2,.p 0 0),(3,.p 1 0),(10,.v (.int .i64 k1)),(48,.v (.bool (k1 == 11)))] aa aQ fun fS aU=>?_
 refine qax aU (b:=k1 == 11) kz (fun aV=>?_) (fun aV=>?_)
 ·
  have eM:k1 = 11:=by simpa using aV
  refine qas [(4,.v (.bool (((aK.length:Nat):Int) == 0)))] aa aU fun fT cz=>?_
  refine wp_ret (qaz (qat (qaK cz aa.cells (v:=.bool (((aK.length:Nat):Int) == 0)) kz ?_)))
  refine ⟨congrArg (fun b_=>Ending.returned (Value.bool b_)) ?_,aa.step⟩
  first
   | (rw [qdi ‹_›]; simp only [and1]; done)
   | (rw [qb3 ‹_› ‹_›]; exact qb2 hz (by omega); done)
   | (rw [qb3 ‹_› ‹_›]; exact qbR (k:=k) (by omega) (by omega) ‹_›; done)
   | (rw [qcu ‹_› ‹_› (by omega) ‹_›]; done)
   | (rw [qcK ‹_› ‹_› (by omega) ‹_›]; done)
   | (rw [qcL ‹_› ‹_› ‹_› ‹_› ‹_›]; done)
   | (rw [qcG ‹_› ‹_› ‹_› ‹_› ‹_› ‹_›,huu,qcb (by omega),Bool.true_and]; done)
   | (rw [qca ‹_› ‹_› ‹_› ‹_› ‹_› ‹_›]; done)
 have eN:k1 ≠ 11:=by simpa using aV
 refine qas [(2,.p 0 0),(3,.p 1 0),(54,.v (.bool (k1 == 10)))] aa aU fun fU aW=>?_
 refine qax aW (b:=k1 == 10) kz (fun aX=>?_) (fun aX=>?_)
 ·
  have eO:k1 = 10:=by simpa using aX
  refine wp_seq (qas [(2,.p 0 0),(3,.p 1 0),(57,.v (.slice A9 l8.length aA)),(58,.v (.int .i64 ((l8.length:Nat):Int))),(59,.v (.int .i64 0))] aa aW fun fV cA=>?_)
  refine wp_block (wp_loop_ghost (fun n_ a_ w_=>∃ (k:Nat),n_ = l8.length - k ∧ k ≤ l8.length ∧ (usuals l8 (Tree.mk af ab aC aK aB) 0 = usuals (l8.drop k) (Tree.mk af ab aC aK aB) k) ∧ LInv aa 91 [⟨dG,0,[.int .i64 k1,.int .i64 y2,.int .i64 y3,.int .i64 y4,.int .i64 y5,.int .i64 y6,.int .i64 y7,.slice A9 l8.length aA],true⟩,⟨dJ,0,[.int .i64 af,.slice ah ab.length ai,.bool aC,.slice bS aK.length bT,.slice bt aB.length bu],true⟩] [] [(2,.p 0 0),(3,.p 1 0),(57,.v (.slice A9 l8.length aA)),(58,.v (.int .i64 ((l8.length:Nat):Int))),(59,.v (.int .i64 ((k:Nat):Int)))] a_ w_) (l8.length) ⟨0,by omega,by omega,rfl,cA.pk,aa,Fr.refl _ _ _⟩ ?_)
  rintro fW fX fY ⟨k,eP,eQ,huu,cB,ac,cC⟩
  refine qas [(2,.p 0 0),(3,.p 1 0),(57,.v (.slice A9 l8.length aA)),(58,.v (.int .i64 ((l8.length:Nat):Int))),(59,.v (.int .i64 ((k:Nat):Int))),(60,.v (.bool (decide (((k:Nat):Int) < ((l8.length:Nat):Int)))))] ac cB fun fZ aY=>?_
  refine wp_seq (qax aY (b:=decide (((k:Nat):Int) < ((l8.length:Nat):Int))) kz (fun aZ=>?_) (fun aZ=>?_))
  ·
   have eR:=zD aZ
   refine wp_skip (qab (wp_seq (wp_block (qaf [0,1,2,3,4,5] kz ?_))))
   refine qak [0] [1,2,3,4,5] [(2,.p 0 0),(3,.p 1 0),(57,.v (.slice A9 l8.length aA)),(58,.v (.int .i64 ((l8.length:Nat):Int))),(59,.v (.int .i64 ((k:Nat):Int))),(61,.v (.int .i64 ((k:Nat):Int)))] ac aY fun f5 cD=>?_
   obtain ⟨dW,dX,cE,eS,ba⟩:=Slots.get dF (i:=k) (by omega)
   obtain ⟨dY,aF⟩:∃ x,l8[k]? = some x:=⟨_,List.getElem?_eq_getElem (by omega)⟩
   have bd:=eo k dY aF
   obtain ⟨aj,ak,al,am,ao,ap,ar,au,aI,aJ,eU,rfl,bf,dZ,f7⟩:=bd.open_
   rw [bf] at bd
   have d5:=dZ.small
   rw [bf] at ba
   refine qan (qaB cD (t:=29) (A:=A9) (m:=l8.length) (q:=((k:Nat):Int)) (d:=62) kz (e:=51) (size:=8) (bytes:=80) kz cE rfl (by omega) fun f8 cG=>?_)
   refine qan (qaW cG (t:=51) (b:=dW) (o:=dX + k * 8) (d:=63) kz (cs:=(z6 aj ak al am ao ap ar aI au.length aJ)) (v:=.agg #[.int .i64 aj,.int .i64 ak,.int .i64 al,.int .i64 am,.int .i64 ao,.int .i64 ap,.int .i64 ar,.slice aI au.length aJ]) kz (AtF.move ba ac.step nilM qbi).at_ fun f9 cH=>?_)
   refine qan (qaM ac cH (d:=8) (cs:=z10) kz fun ga gb gc eV eW cI bA cJ=>?_)
   refine qak [4] [5] [(2,.p 0 0),(3,.p 1 0),(7,.v (.int .i64 ((k:Nat):Int))),(8,.p 2 0),(57,.v (.slice A9 l8.length aA)),(58,.v (.int .i64 ((l8.length:Nat):Int))),(59,.v (.int .i64 ((k:Nat):Int))),(63,.v (.agg #[.int .i64 aj,.int .i64 ak,.int .i64 al,.int .i64 am,.int .i64 ao,.int .i64 ap,.int .i64 ar,.slice aI au.length aJ]))] bA cJ fun gd cK=>?_
   refine qan (qao bA cK (oi:=2) (cs:=(z6 aj ak al am ao ap ar aI au.length aJ)) kz fun ge cL cM cN=>?_)
   refine qag (qab ?_)
   refine qaE 6 kz cM fun gg cO av cP=>?_
   refine qaF [0,1,2] [(2,.p 0 0),(3,.p 1 0),(57,.v (.slice A9 l8.length aA)),(58,.v (.int .i64 ((l8.length:Nat):Int))),(59,.v (.int .i64 ((k:Nat):Int))),(64,.v (.agg #[.int .i64 aj,.int .i64 ak,.int .i64 al,.int .i64 am,.int .i64 ao,.int .i64 ap,.int .i64 ar,.slice aI au.length aJ])),(65,.v (.agg #[.int .i64 af,.slice ah ab.length ai,.bool aC,.slice bS aK.length bT,.slice bt aB.length bu])),(66,.v (.int .i64 ((k:Nat):Int)))] 3 (qaa (qac (qaa (qaa (qac (qaa (qac (qaa qae)))))))) (fun _ h=>h.cells) cP cN fun gh cQ=>?_
   refine qap (i:=3) kz (qal cQ (f:=30) (vs:=[.agg #[.int .i64 af,.slice ah ab.length ai,.bool aC,.slice bS aK.length bT,.slice bt aB.length bu],.int .i64 ((k:Nat):Int)]) (d:=67) kz Tryz.call30 (sAt _ _ k _ _ (ht.move av.step nilM av.imm)) ?_)
   rintro e_ gi ⟨eX,rfl,cR,aw⟩
   have bg:=cR.move aw nilM (fun b o h_ hb_=>av.laid (G:=F) aw b o (.inl h_) (Nat.lt_of_lt_of_le hb_ aw.size))
   obtain ⟨d6,d7,d8,d9,ea,eb,ec,ee,ef,eg,eh,eY,eZ,bh,ei,ej,gj,gk⟩:=bg.open_
   rw [bh] at bg
   have ek:=ei.small
   have em:=ej.small
   rw [bh]
   refine ⟨_,rfl,fun gl cS=>?_⟩
   have ax:=av.next_nil aw
   have bi:=av.frN aw
   have cT:=TT.ofW bi ax
   refine ⟨fun _=>cT,?_⟩
   refine qap (i:=4) kz (qal cS (f:=32) (vs:=[.agg #[.int .i64 aj,.int .i64 ak,.int .i64 al,.int .i64 am,.int .i64 ao,.int .i64 ap,.int .i64 ar,.slice aI au.length aJ],.agg #[.int .i64 d6,.slice eb d7.length ec,.bool d8,.slice ee d9.length ef,.slice eg ea.length eh]]) (d:=68) kz Tryz.call32 ( hu _ _ _ _ _ _ (bd.move ax.step nilM ax.imm) (by have h_:=qeq aF; rw [qfC] at hd; omega) bg) ?_)
   rintro e_ gm ⟨rfl,bB⟩
   refine ⟨_,rfl,fun gn cU=>?_⟩
   have ag:=ax.next_nil bB
   have bC:=ax.frN bB
   have bD:=TT.ofW (bi.trans bC) ag
   refine ⟨fun _=>bD,?_⟩
   refine qaF [5] [(2,.p 0 0),(3,.p 1 0),(57,.v (.slice A9 l8.length aA)),(58,.v (.int .i64 ((l8.length:Nat):Int))),(59,.v (.int .i64 ((k:Nat):Int))),(69,.v (.bool (!(Fld.usual (Fld.mk aj ak al am ao ap ar au) (Tree.at_ (Tree.mk af ab aC aK aB) k)))))] 0 (qaa (qac (qaa (qaa (qac (qaa (qac (qaa qae)))))))) (fun _ h=>h.cells) bD cU fun gp bj=>?_
   refine qaC kz ?_ _
   refine qab (qax bj (b:=!(Fld.usual (Fld.mk aj ak al am ao ap ar au) (Tree.at_ (Tree.mk af ab aC aK aB) k))) kz (fun bk=>?_) (fun bk=>?_))
   ·
    refine qas [(4,.v (.bool false))] ag bj fun gq cV=>?_
    refine wp_ret (qaz (qat (qat (qaz (qat (qaz (qat (qaK cV ag.cells (v:=.bool false) kz ?_))))))))
    refine ⟨congrArg (fun b_=>Ending.returned (Value.bool b_)) ?_,ag.step⟩
    first
     | (rw [qdi ‹_›]; simp only [and1]; done)
     | (rw [qb3 ‹_› ‹_›]; exact qb2 hz (by omega); done)
     | (rw [qb3 ‹_› ‹_›]; exact qbR (k:=k) (by omega) (by omega) ‹_›; done)
     | (rw [qcu ‹_› ‹_› (by omega) ‹_›]; done)
     | (rw [qcK ‹_› ‹_› (by omega) ‹_›]; done)
     | (rw [qcL ‹_› ‹_› ‹_› ‹_› ‹_›]; done)
     | (rw [qcG ‹_› ‹_› ‹_› ‹_› ‹_› ‹_›,huu,qcb (by omega),Bool.true_and]; done)
     | (rw [qca ‹_› ‹_› ‹_› ‹_› ‹_› ‹_›]; done)
     | (rw [qcG ‹_› ‹_› ‹_› ‹_› ‹_› ‹_›,huu,qhM aF (by simpa using bk),Bool.false_and]; done)
   refine wp_skip (qav (qab (qau [0,1] kz ?_)))
   refine qak [0,1] [] [(2,.p 0 0),(3,.p 1 0),(57,.v (.slice A9 l8.length aA)),(58,.v (.int .i64 ((l8.length:Nat):Int))),(59,.v (.int .i64 (IntKind.i64.wrap (((k:Nat):Int) + 1))))] ag bj fun gt cW=>?_
   refine qag (qab ?_)
   obtain ⟨bE,cX,cY⟩:=ag.cutB cW 2 [⟨dG,0,(z6 k1 y2 y3 y4 y5 y6 y7 A9 l8.length aA),true⟩,⟨dJ,0,(z1 af ah ab.length ai aC bS aK.length bT bt aB.length bu),true⟩] [(2,.p 0 0),(3,.p 1 0),(57,.v (.slice A9 l8.length aA)),(58,.v (.int .i64 ((l8.length:Nat):Int))),(59,.v (.int .i64 (IntKind.i64.wrap (((k:Nat):Int) + 1))))]
   have cZ:IntKind.i64.wrap (((k:Nat):Int) + 1) = ((k + 1:Nat):Int):=qaS (by omega)
   rw [cZ] at bE
   exact ⟨l8.length - (k + 1),by omega,k + 1,rfl,by omega,by rw [huu]; exact qhL aF (by simpa using bk),bE.pk,cX,((((((cC.trans cI).trans cL).trans cO).trans bi).trans bC).trans cY)⟩
  have e9:=zF aZ
  refine wp_exit (qay (qay (qaQ (qab (qaf [0,1,2,3,4,5,6,7] kz ?_)))))
  refine qak [0,1,2,3] [4,5,6,7] [(72,.v (.slice A9 l8.length aA)),(74,.v (.slice bt aB.length bu))] ac aY fun gv c5=>?_
  refine qan (qal c5 (f:=35) (vs:=[.slice A9 l8.length aA,.slice bt aB.length bu]) (d:=75) kz Tryz.call35 (qgP _ _ l8 _ _ aB _ _ ⟨dE,(dF.move ac.step nilM ac.imm),(fun i_ x_ h_=>((eo i_ x_ h_).move ac.step nilM ac.imm))⟩ (fj.move ac.step nilM ac.imm)) ?_)
  rintro e_ gw ⟨gx,gy,rfl,c6,bn⟩
  have fb:=c6.move (Step.refl _ Nil) nilM (ac.laid (G:=F) bn)
  refine ⟨_,rfl,fun gz da=>?_⟩
  have bo:=ac.next_nil bn
  have fe:=ac.frN bn
  refine qak [5,6,7] [] [(4,.v (.bool ((((qaj l8 aB).length:Nat):Int) == 0)))] bo da fun gA db=>?_
  refine qag (qab ?_)
  refine wp_ret (qaz (qat (qaK db bo.cells (v:=.bool ((((qaj l8 aB).length:Nat):Int) == 0)) kz ?_)))
  refine ⟨congrArg (fun b_=>Ending.returned (Value.bool b_)) ?_,bo.step⟩
  first
   | (rw [qdi ‹_›]; simp only [and1]; done)
   | (rw [qb3 ‹_› ‹_›]; exact qb2 hz (by omega); done)
   | (rw [qb3 ‹_› ‹_›]; exact qbR (k:=k) (by omega) (by omega) ‹_›; done)
   | (rw [qcu ‹_› ‹_› (by omega) ‹_›]; done)
   | (rw [qcK ‹_› ‹_› (by omega) ‹_›]; done)
   | (rw [qcL ‹_› ‹_› ‹_› ‹_› ‹_›]; done)
   | (rw [qcG ‹_› ‹_› ‹_› ‹_› ‹_› ‹_›,huu,qcb (by omega),Bool.true_and]; done)
   | (rw [qca ‹_› ‹_› ‹_› ‹_› ‹_› ‹_›]; done)
 have ff:k1 ≠ 10:=by simpa using aX
 refine wp_skip (qav (qab (qaE 13 kz aa fun gB fg bF dc=>?_)))
 refine qaF [0,1,2,3,6,7,8,9] [(79,.v (.int .i64 af)),(81,.v (.int .i64 k1)),(85,.v (.int .i64 y6)),(87,.v (.int .i64 k1))] 6 (qaa qae) (fun _ h=>h.cells) dc aW fun gC de=>?_
 refine qap (i:=4) kz (qal de (f:=66) (vs:=[.int .i64 k1]) (d:=82) kz Tryz.call66 (qjW k1 _) ?_)
 rintro e_ gD ⟨rfl,bG⟩
 refine ⟨_,rfl,fun gE df=>?_⟩
 have bH:=bF.next_nil bG
 have ay:=bF.frN bG
 have dg:=TT.ofW ay bH
 refine ⟨fun _=>dg,?_⟩
 refine qap (i:=5) kz (qal df (f:=65) (vs:=[.int .i64 af,.int .i64 ((qbN k1:Nat):Int)]) (d:=83) kz Tryz.call65 (qf0 af (qbN k1) (by first | decide | exact qbW _ | omega) _) ?_)
 rintro e_ gF ⟨dh,di,rfl,dj,dl⟩
 refine ⟨_,rfl,fun gG dp=>?_⟩
 obtain ⟨bp,aG⟩:=bH.frFresh dl (brow dh di 5 (be (qbN k1) af)) (Nat.le_refl _) dj
 have dq:=TT.ofW (ay.trans aG) bp
 refine ⟨fun _=>dq,?_⟩
 refine qap (i:=10) kz (qal dp (f:=66) (vs:=[.int .i64 k1]) (d:=88) kz Tryz.call66 (qjW k1 _) ?_)
 rintro e_ gH ⟨rfl,bI⟩
 refine ⟨_,rfl,fun gI dr=>?_⟩
 have bJ:=bp.next_nil bI
 have bq:=bp.frN bI
 have dt:=TT.ofW ((ay.trans aG).trans bq) bJ
 refine ⟨fun _=>dt,?_⟩
 refine qap (i:=11) kz (qal dr (f:=65) (vs:=[.int .i64 y6,.int .i64 ((qbN k1:Nat):Int)]) (d:=89) kz Tryz.call65 (qf0 y6 (qbN k1) (by first | decide | exact qbW _ | omega) _) ?_)
 rintro e_ gJ ⟨du,dv,rfl,dw,dx⟩
 refine ⟨_,rfl,fun gK dy=>?_⟩
 obtain ⟨az,bK⟩:=bJ.frFresh dx (brow du dv 5 (be (qbN k1) y6)) (Nat.le_refl _) dw
 have dz:=TT.ofW (((ay.trans aG).trans bq).trans bK) az
 refine ⟨fun _=>dz,?_⟩
 refine qap (i:=12) kz (qal dy (f:=36) (vs:=[.slice dh ((be (qbN k1) af).length) di,.slice du ((be (qbN k1) y6).length) dv]) (d:=90) kz Tryz.call36 (qeM _ _ _ _ (be (qbN k1) af) (be (qbN k1) y6) _ _ (qcF (az.own 0 _ rfl) (by first | omega | (rw [qbt]; decide) | (simp only [be_length]; exact Nat.le_trans (qbW _) (by decide)) | (have:=hroom; omega) | (have:=hmade; omega) | (simp only [List.length_append,List.length_nil]; omega)) (F:=fun _ _=>True) (fun _ _ _=>trivial)) (qcF (az.own 1 _ rfl) (by first | omega | (rw [qbt]; decide) | (simp only [be_length]; exact Nat.le_trans (qbW _) (by decide)) | (have:=hroom; omega) | (have:=hmade; omega) | (simp only [List.length_append,List.length_nil]; omega)) (F:=fun _ _=>True) (fun _ _ _=>trivial))) ?_)
 rintro e_ gL ⟨rfl,bL⟩
 refine ⟨_,rfl,fun gM dA=>?_⟩
 have aH:=az.next_nil bL
 have dB:=az.frN bL
 have dC:=TT.ofW ((((ay.trans aG).trans bq).trans bK).trans dB) aH
 refine ⟨fun _=>dC,?_⟩
 refine qap (i:=13) kz (qbq [4] aH.cells dA (env':=[(4,.v (.bool (decide (be (qbN k1) af = be (qbN k1) y6))))]) kz fun gN dD=>?_)
 refine ⟨fun h=>absurd rfl h,?_⟩
 refine qaC kz ?_ _
 refine qab (wp_ret (qaK dD aH.cells (v:=.bool (decide (be (qbN k1) af = be (qbN k1) y6))) kz ?_))
 refine ⟨congrArg (fun b_=>Ending.returned (Value.bool b_)) ?_,aH.step⟩
 first
  | (rw [qdi ‹_›]; simp only [and1]; done)
  | (rw [qb3 ‹_› ‹_›]; exact qb2 hz (by omega); done)
  | (rw [qb3 ‹_› ‹_›]; exact qbR (k:=k) (by omega) (by omega) ‹_›; done)
  | (rw [qcu ‹_› ‹_› (by omega) ‹_›]; done)
  | (rw [qcK ‹_› ‹_› (by omega) ‹_›]; done)
  | (rw [qcL ‹_› ‹_› ‹_› ‹_› ‹_›]; done)
  | (rw [qcG ‹_› ‹_› ‹_› ‹_› ‹_› ‹_›,huu,qcb (by omega),Bool.true_and]; done)
  | (rw [qca ‹_› ‹_› ‹_› ‹_› ‹_› ‹_›]; done)
theorem qip:∀ d,qjZ d
 | 0=>fun cf f ct t w F hf hd ht=>by
  obtain ⟨k,x1,x2,x3,x4,x5,x6,l,A,c,xs,rfl,_⟩:=hf.open_
  rw [qfC] at hd; omega
 | d + 1=>qhV (qip d)
abbrev z92 (x0) (x1) (x2) (x3) (x4) (x5) (x6) (x7) (x8) (x9) (x10) (x11):=([⟨x0,0,(z1 x1 x2 x3 x4 x5 x6 x7 x8 x9 x10 x11),true⟩]:Tb)
theorem ql2 (W:Fld → Tree → Bs) (A:Option Addr) (c:Nat) (l:List Fld) (v:Int) (flex:Bool) (ct:List Value) (t:Tree) (w:World) (F:Nat → Nat → Prop) (hW_:∀ cf f ct t w F,f ∈ l → FldR w F cf f → TreeR w F ct t → (W f t).length ≤ 1099511627776 → Calls Tryz.prog 62 #[.agg cf.toArray,.int .i64 v,.bool flex,.agg ct.toArray] w (qez w 5 (W f t))) (hl:FldsR w F A c l) (ht:TreeR w F ct t) (hroom:(qeF W l v flex t).length ≤ 1099511627776) :
  Calls Tryz.prog 29 #[.slice A l.length c,.int .i64 v,.bool flex,.agg ct.toArray] w (qez w 5 (qeF W l v flex t)):=by
 obtain ⟨xfs,h1,h2⟩:=hl.ex
 have hsm:=h1.small
 obtain ⟨n1,s2,b3,l4,u5,A6,c7,A8,c9,aU,aV,l3,rfl,rfl,l5,l6,o9,l7⟩:=ht.open_
 have ld:=l5.small
 have lf:=l6.small
 have hkr:=qeI l
 refine enter (n:=132) Tryz.func29 rfl Tryz.ntmps29 kz fun a hE=>?_
 have hW:=WOk.start w Nil
 refine qaf [0,1] kz ?_
 refine qan (qby hW hE (d:=7) (cs:=(z1 n1 A6 s2.length c7 b3 A8 l4.length c9 aU u5.length aV)) kz fun cH pa pb l9 ma mc cz j1=>?_)
 refine qak [1] [] [(0,.v (.slice A l.length c)),(1,.v (.int .i64 v)),(2,.v (.bool flex)),(7,.p 0 0)] cz j1 fun pc j2=>?_
 refine qag (qab ?_)
 refine qas [(0,.v (.slice A l.length c)),(1,.v (.int .i64 v)),(2,.v (.bool flex)),(7,.p 0 0),(9,.v (.slice none 0 0)),(10,.v (.slice none 0 0))] cz j2 fun pd j3=>?_
 refine qas [(0,.v (.slice A l.length c)),(1,.v (.int .i64 v)),(2,.v (.bool flex)),(7,.p 0 0),(9,.v (.slice none 0 0)),(10,.v (.slice none 0 0)),(11,.v (.int .i64 0))] cz j3 fun pe j4=>?_
 refine wp_seq (qas [(0,.v (.slice A l.length c)),(1,.v (.int .i64 v)),(2,.v (.bool flex)),(7,.p 0 0),(9,.v (.slice none 0 0)),(10,.v (.slice none 0 0)),(11,.v (.int .i64 0)),(21,.v (.slice A l.length c)),(22,.v (.int .i64 ((l.length:Nat):Int))),(23,.v (.int .i64 0))] cz j4 fun pf j5=>?_)
 refine wp_block ?_
 have eI:=cz.addNil 5 1
 have md:=cz.frNil 5 1
 have htot:(qaZ W l v (Tree.mk n1 s2 b3 l4 u5) 0).length ≤ 1099511627776:=by have h_:=hroom; rw [qeF,List.length_append] at h_; omega
 refine wp_loop_ghost (fun n_ a_ w_=>∃ (k:Nat) (A_:Option Addr) (c_:Nat) (dn:Bs),n_ = l.length - k ∧ k ≤ l.length ∧ (dn ++ qaZ W (l.drop k) v (Tree.mk n1 s2 b3 l4 u5) k = qaZ W l v (Tree.mk n1 s2 b3 l4 u5) 0) ∧ LInv eI 132 [⟨cH,0,[.int .i64 n1,.slice A6 s2.length c7,.bool b3,.slice A8 l4.length c9,.slice aU u5.length aV],true⟩] [brow A_ c_ 5 dn] [(0,.v (.slice A l.length c)),(1,.v (.int .i64 v)),(2,.v (.bool flex)),(7,.p 0 0),(9,.v (.slice A_ dn.length c_)),(10,.v (.slice none 0 0)),(11,.v (.int .i64 0)),(21,.v (.slice A l.length c)),(22,.v (.int .i64 ((l.length:Nat):Int))),(23,.v (.int .i64 ((k:Nat):Int)))] a_ w_) (l.length) ⟨0,none,0,[],by omega,by omega,rfl,j5.pk,eI,Fr.refl _ _ _⟩ ?_
 rintro pg ph pi ⟨k,A_,c_,dn,me,mf,hB,j6,az,ei⟩
 refine qas [(0,.v (.slice A l.length c)),(1,.v (.int .i64 v)),(2,.v (.bool flex)),(7,.p 0 0),(9,.v (.slice A_ dn.length c_)),(10,.v (.slice none 0 0)),(11,.v (.int .i64 0)),(21,.v (.slice A l.length c)),(22,.v (.int .i64 ((l.length:Nat):Int))),(23,.v (.int .i64 ((k:Nat):Int))),(24,.v (.bool (decide (((k:Nat):Int) < ((l.length:Nat):Int)))))] az j6 fun pj ej=>?_
 refine wp_seq (qax ej (b:=decide (((k:Nat):Int) < ((l.length:Nat):Int))) kz (fun ek=>?_) (fun ek=>?_))
 ·
  have mg:=of_decide_eq_true ek
  refine wp_skip (qab (wp_seq (wp_block (qaf [0,1,2,3,4,5] kz ?_))))
  refine qak [0] [1,2,3,4,5] [(0,.v (.slice A l.length c)),(1,.v (.int .i64 v)),(2,.v (.bool flex)),(7,.p 0 0),(9,.v (.slice A_ dn.length c_)),(10,.v (.slice none 0 0)),(11,.v (.int .i64 0)),(21,.v (.slice A l.length c)),(22,.v (.int .i64 ((l.length:Nat):Int))),(23,.v (.int .i64 ((k:Nat):Int))),(25,.v (.int .i64 ((k:Nat):Int)))] az ej fun pl j7=>?_
  obtain ⟨mh,mi,j8,mj,dA⟩:=Slots.get h1 (i:=k) (by omega)
  obtain ⟨ml,bi⟩:∃ x,l[k]? = some x:=⟨_,List.getElem?_eq_getElem (by omega)⟩
  have em:=h2 k ml bi
  obtain ⟨aA,aB,aC,aD,ax,aE,aF,aG,dy,dz,mn,rfl,dB,mo,pm⟩:=em.open_
  rw [dB] at em
  have lg:=mo.small
  rw [dB] at dA
  refine qan (qaB j7 (t:=29) (A:=A) (m:=l.length) (q:=((k:Nat):Int)) (d:=26) kz (e:=51) (size:=8) (bytes:=80) kz j8 rfl (by omega) fun pn j9=>?_)
  refine qan (qaW j9 (t:=51) (b:=mh) (o:=mi + k * 8) (d:=27) kz (cs:=(z6 aA aB aC aD ax aE aF dy aG.length dz)) (v:=.agg #[.int .i64 aA,.int .i64 aB,.int .i64 aC,.int .i64 aD,.int .i64 ax,.int .i64 aE,.int .i64 aF,.slice dy aG.length dz]) kz (AtF.move dA az.step nilM qbi).at_ fun po ka=>?_)
  refine qan (qaM az ka (d:=13) (cs:=z10) kz fun pp pq pr mp mq eo eJ kd=>?_)
  refine qak [4] [5] [(0,.v (.slice A l.length c)),(1,.v (.int .i64 v)),(2,.v (.bool flex)),(7,.p 0 0),(9,.v (.slice A_ dn.length c_)),(10,.v (.slice none 0 0)),(11,.v (.int .i64 0)),(12,.v (.int .i64 ((k:Nat):Int))),(13,.p 1 0),(21,.v (.slice A l.length c)),(22,.v (.int .i64 ((l.length:Nat):Int))),(23,.v (.int .i64 ((k:Nat):Int))),(27,.v (.agg #[.int .i64 aA,.int .i64 aB,.int .i64 aC,.int .i64 aD,.int .i64 ax,.int .i64 aE,.int .i64 aF,.slice dy aG.length dz]))] eJ kd fun pt ke=>?_
  refine qan (qao eJ ke (oi:=1) (cs:=(z6 aA aB aC aD ax aE aF dy aG.length dz)) kz fun pu ep bG kf=>?_)
  refine qag (qab ?_)
  refine qaf [0,1,2,3,4,5,6,7] kz ?_
  refine qak [0,1,2,3] [4,5,6,7] [(0,.v (.slice A l.length c)),(1,.v (.int .i64 v)),(2,.v (.bool flex)),(7,.p 0 0),(9,.v (.slice A_ dn.length c_)),(10,.v (.slice none 0 0)),(11,.v (.int .i64 0)),(12,.v (.int .i64 ((k:Nat):Int))),(13,.p 1 0),(21,.v (.slice A l.length c)),(22,.v (.int .i64 ((l.length:Nat):Int))),(23,.v (.int .i64 ((k:Nat):Int))),(31,.v (.bool (decide (ax < 0))))] bG kf fun pv eK=>?_
  refine (Bool.eq_false_or_eq_true (decide (ax < 0))).elim (fun cI=>?_) (fun cI=>?_)
  ·
   have mr:=of_decide_eq_true cI
   have kg:=eK
   rw [cI] at kg
   refine qak [4,5] [6,7] [(0,.v (.slice A l.length c)),(1,.v (.int .i64 v)),(2,.v (.bool flex)),(7,.p 0 0),(9,.v (.slice A_ dn.length c_)),(10,.v (.slice none 0 0)),(11,.v (.int .i64 0)),(12,.v (.int .i64 ((k:Nat):Int))),(13,.p 1 0),(21,.v (.slice A l.length c)),(22,.v (.int .i64 ((l.length:Nat):Int))),(23,.v (.int .i64 ((k:Nat):Int))),(31,.v (.bool true)),(32,.v (.agg #[.int .i64 aA,.int .i64 aB,.int .i64 aC,.int .i64 aD,.int .i64 ax,.int .i64 aE,.int .i64 aF,.slice dy aG.length dz])),(33,.v (.int .i64 v))] bG kg fun pw eL=>?_
   refine qan (qal eL (f:=31) (vs:=[.agg #[.int .i64 aA,.int .i64 aB,.int .i64 aC,.int .i64 aD,.int .i64 ax,.int .i64 aE,.int .i64 aF,.slice dy aG.length dz],.int .i64 v]) (d:=34) kz Tryz.call31 (sHas aA aB aC aD ax aE aF aG _ _ v _) ?_)
   rintro e_ mt ⟨rfl,dC⟩
   refine ⟨_,rfl,fun mu eM=>?_⟩
   have bN:=bG.next_nil dC
   have dD:=bG.frN dC
   refine qak [7] [] [(0,.v (.slice A l.length c)),(1,.v (.int .i64 v)),(2,.v (.bool flex)),(7,.p 0 0),(9,.v (.slice A_ dn.length c_)),(10,.v (.slice none 0 0)),(11,.v (.int .i64 0)),(12,.v (.int .i64 ((k:Nat):Int))),(13,.p 1 0),(21,.v (.slice A l.length c)),(22,.v (.int .i64 ((l.length:Nat):Int))),(23,.v (.int .i64 ((k:Nat):Int))),(35,.v (.bool (Fld.has (Fld.mk aA aB aC aD ax aE aF aG) v)))] bN eM fun mw cJ=>?_
   refine qag (qab ?_)
   refine qax cJ (b:=Fld.has (Fld.mk aA aB aC aD ax aE aF aG) v) kz (fun eN=>?_) (fun eN=>?_)
   ·
    refine qcE 9 kz bN fun mx eO bj eP=>?_
    refine qaF [0,1,2,3,4,5] [(0,.v (.slice A l.length c)),(1,.v (.int .i64 v)),(2,.v (.bool flex)),(7,.p 0 0),(9,.v (.slice A_ dn.length c_)),(10,.v (.slice none 0 0)),(11,.v (.int .i64 0)),(21,.v (.slice A l.length c)),(22,.v (.int .i64 ((l.length:Nat):Int))),(23,.v (.int .i64 ((k:Nat):Int))),(36,.v (.slice A_ dn.length c_)),(37,.v (.agg #[.int .i64 aA,.int .i64 aB,.int .i64 aC,.int .i64 aD,.int .i64 ax,.int .i64 aE,.int .i64 aF,.slice dy aG.length dz])),(38,.v (.int .i64 v)),(39,.v (.bool flex)),(40,.v (.agg #[.int .i64 n1,.slice A6 s2.length c7,.bool b3,.slice A8 l4.length c9,.slice aU u5.length aV])),(41,.v (.int .i64 ((k:Nat):Int)))] 4 (qac (qaa (qaa (qac (qaa qae))))) (fun _ h=>h.cells) eP cJ fun my eQ=>?_
    refine qap (i:=6) kz (qal eQ (f:=30) (vs:=[.agg #[.int .i64 n1,.slice A6 s2.length c7,.bool b3,.slice A8 l4.length c9,.slice aU u5.length aV],.int .i64 ((k:Nat):Int)]) (d:=42) kz Tryz.call30 (sAt _ _ k _ _ (ht.move bj.step nilM bj.imm)) ?_)
    rintro e_ mz ⟨lh,rfl,eR,bk⟩
    have cK:=eR.move bk nilM (fun b o h_ hb_=>bj.laid (G:=F) bk b o (.inl h_) (Nat.lt_of_lt_of_le hb_ bk.size))
    obtain ⟨eu,ev,ew,ey,ez,eB,eC,eD,eE,eF,eG,li,lj,cL,kh,ki,mA,mB⟩:=cK.open_
    rw [cL] at cK
    have kj:=kh.small
    have km:=ki.small
    rw [cL]
    refine ⟨_,rfl,fun mC eS=>?_⟩
    have bO:=bj.next_nil bk
    have bP:=bj.frN bk
    have eU:=TT.ofW bP bO
    refine ⟨fun _=>eU,?_⟩
    refine qap (i:=7) kz (qal eS (f:=62) (vs:=[.agg #[.int .i64 aA,.int .i64 aB,.int .i64 aC,.int .i64 aD,.int .i64 ax,.int .i64 aE,.int .i64 aF,.slice dy aG.length dz],.int .i64 v,.bool flex,.agg #[.int .i64 eu,.slice eB ev.length eC,.bool ew,.slice eD ey.length eE,.slice eF ez.length eG]]) (d:=43) kz Tryz.call62 ( hW_ _ _ _ _ _ _ (List.mem_of_getElem? bi) (em.move bO.step nilM bO.imm) cK (by have h_:=congrArg List.length hB; rw [qe0 bi ‹_› ‹_›] at h_; simp only [List.length_append] at h_; omega)) ?_)
    rintro e_ mD ⟨cM,cN,rfl,eV,eW⟩
    refine ⟨_,rfl,fun mF eX=>?_⟩
    obtain ⟨bQ,cO⟩:=bO.frFresh eW (brow cM cN 5 (W (Fld.mk aA aB aC aD ax aE aF aG) (Tree.at_ (Tree.mk n1 s2 b3 l4 u5) k))) (Nat.le_refl _) eV
    have ko:(W (Fld.mk aA aB aC aD ax aE aF aG) (Tree.at_ (Tree.mk n1 s2 b3 l4 u5) k)).length ≤ 1099511627776:=by have h_:=congrArg List.length hB; rw [qe0 bi ‹_› ‹_›] at h_; simp only [List.length_append] at h_; omega
    have eY:=TT.ofW (bP.trans cO) bQ
    refine ⟨fun _=>eY,?_⟩
    refine qap (i:=8) kz (qaR bQ eX (k:=0) (d:=44) (t:=22) (e:=5) (size:=1) (bytes:=1) (A:=A_) (As:=cM) (m0:=dn.length) (c:=c_) (m:=((W (Fld.mk aA aB aC aD ax aE aF aG) (Tree.at_ (Tree.mk n1 s2 b3 l4 u5) k)).length)) (cs:=cN) (xs:=(bc dn)) (news:=bc (W (Fld.mk aA aB aC aD ax aE aF aG) (Tree.at_ (Tree.mk n1 s2 b3 l4 u5) k))) kz kz rfl (qbI (bQ.own 1 _ rfl) (qdF _)) (qbQ (bQ.own 1 _ rfl)) (by have h_:=congrArg List.length hB; rw [qe0 bi ‹_› ‹_›] at h_; simp only [List.length_append] at h_ ⊢; omega) fun aW aX mG mH dE eZ e9=>?_)
    have fb:(⟨aW,aX,5,1,dn.length + (W (Fld.mk aA aB aC aD ax aE aF aG) (Tree.at_ (Tree.mk n1 s2 b3 l4 u5) k)).length,bc dn ++ bc (W (Fld.mk aA aB aC aD ax aE aF aG) (Tree.at_ (Tree.mk n1 s2 b3 l4 u5) k))⟩:Rw) = brow aW aX 5 (dn ++ (W (Fld.mk aA aB aC aD ax aE aF aG) (Tree.at_ (Tree.mk n1 s2 b3 l4 u5) k))):=qcn (rfl) rfl
    obtain ⟨bR,dF⟩:=eZ.rowEq 0 [brow aW aX 5 (dn ++ (W (Fld.mk aA aB aC aD ax aE aF aG) (Tree.at_ (Tree.mk n1 s2 b3 l4 u5) k))),brow cM cN 5 (W (Fld.mk aA aB aC aD ax aE aF aG) (Tree.at_ (Tree.mk n1 s2 b3 l4 u5) k))] fb
    have fe:=EnvOk.pick e9 (ks:=[0,1,2,7,9,10,11,21,22,23,36,37,38,39,40,41,42,43,44]) (env':=[(0,.v (.slice A l.length c)),(1,.v (.int .i64 v)),(2,.v (.bool flex)),(7,.p 0 0),(9,.v (.slice A_ dn.length c_)),(10,.v (.slice none 0 0)),(11,.v (.int .i64 0)),(21,.v (.slice A l.length c)),(22,.v (.int .i64 ((l.length:Nat):Int))),(23,.v (.int .i64 ((k:Nat):Int))),(36,.v (.slice A_ dn.length c_)),(37,.v (.agg #[.int .i64 aA,.int .i64 aB,.int .i64 aC,.int .i64 aD,.int .i64 ax,.int .i64 aE,.int .i64 aF,.slice dy aG.length dz])),(38,.v (.int .i64 v)),(39,.v (.bool flex)),(40,.v (.agg #[.int .i64 n1,.slice A6 s2.length c7,.bool b3,.slice A8 l4.length c9,.slice aU u5.length aV])),(41,.v (.int .i64 ((k:Nat):Int))),(42,.v (.agg #[.int .i64 eu,.slice eB ev.length eC,.bool ew,.slice eD ey.length eE,.slice eF ez.length eG])),(43,.v (.slice cM ((W (Fld.mk aA aB aC aD ax aE aF aG) (Tree.at_ (Tree.mk n1 s2 b3 l4 u5) k)).length) cN)),(44,.v (.slice aW (dn.length + (W (Fld.mk aA aB aC aD ax aE aF aG) (Tree.at_ (Tree.mk n1 s2 b3 l4 u5) k)).length) aX))]) kz
    have ff:=fe.cast (env':=[(0,.v (.slice A l.length c)),(1,.v (.int .i64 v)),(2,.v (.bool flex)),(7,.p 0 0),(9,.v (.slice A_ dn.length c_)),(10,.v (.slice none 0 0)),(11,.v (.int .i64 0)),(21,.v (.slice A l.length c)),(22,.v (.int .i64 ((l.length:Nat):Int))),(23,.v (.int .i64 ((k:Nat):Int))),(36,.v (.slice A_ dn.length c_)),(37,.v (.agg #[.int .i64 aA,.int .i64 aB,.int .i64 aC,.int .i64 aD,.int .i64 ax,.int .i64 aE,.int .i64 aF,.slice dy aG.length dz])),(38,.v (.int .i64 v)),(39,.v (.bool flex)),(40,.v (.agg #[.int .i64 n1,.slice A6 s2.length c7,.bool b3,.slice A8 l4.length c9,.slice aU u5.length aV])),(41,.v (.int .i64 ((k:Nat):Int))),(42,.v (.agg #[.int .i64 eu,.slice eB ev.length eC,.bool ew,.slice eD ey.length eE,.slice eF ez.length eG])),(43,.v (.slice cM ((W (Fld.mk aA aB aC aD ax aE aF aG) (Tree.at_ (Tree.mk n1 s2 b3 l4 u5) k)).length) cN)),(44,.v (.slice aW ((dn ++ (W (Fld.mk aA aB aC aD ax aE aF aG) (Tree.at_ (Tree.mk n1 s2 b3 l4 u5) k))).length) aX))]) (by simp only [List.length_append,List.length_cons,List.length_nil,Nat.zero_add])
    have fg:=TT.ofW (((bP.trans cO).trans dE).trans dF) bR
    refine ⟨fun _=>fg,?_⟩
    refine qap (i:=9) kz (qbq [0,1,2,7,9,10,11,21,22,23] bR.cells ff (env':=[(0,.v (.slice A l.length c)),(1,.v (.int .i64 v)),(2,.v (.bool flex)),(7,.p 0 0),(9,.v (.slice aW ((dn ++ (W (Fld.mk aA aB aC aD ax aE aF aG) (Tree.at_ (Tree.mk n1 s2 b3 l4 u5) k))).length) aX)),(10,.v (.slice none 0 0)),(11,.v (.int .i64 0)),(21,.v (.slice A l.length c)),(22,.v (.int .i64 ((l.length:Nat):Int))),(23,.v (.int .i64 ((k:Nat):Int)))]) kz fun mI fh=>?_)
    refine ⟨fun h=>absurd rfl h,?_⟩
    refine qaC kz ?_ _
    refine qav (qab (qau [0,1] kz ?_))
    refine qak [0,1] [] [(0,.v (.slice A l.length c)),(1,.v (.int .i64 v)),(2,.v (.bool flex)),(7,.p 0 0),(9,.v (.slice aW ((dn ++ (W (Fld.mk aA aB aC aD ax aE aF aG) (Tree.at_ (Tree.mk n1 s2 b3 l4 u5) k))).length) aX)),(10,.v (.slice none 0 0)),(11,.v (.int .i64 0)),(21,.v (.slice A l.length c)),(22,.v (.int .i64 ((l.length:Nat):Int))),(23,.v (.int .i64 (IntKind.i64.wrap (((k:Nat):Int) + 1))))] bR fh fun mJ fi=>?_
    refine qag (qab ?_)
    obtain ⟨dG,fj,fk⟩:=bR.cutB fi 1 (z92 cH n1 A6 s2.length c7 b3 A8 l4.length c9 aU u5.length aV) [(0,.v (.slice A l.length c)),(1,.v (.int .i64 v)),(2,.v (.bool flex)),(7,.p 0 0),(9,.v (.slice aW ((dn ++ (W (Fld.mk aA aB aC aD ax aE aF aG) (Tree.at_ (Tree.mk n1 s2 b3 l4 u5) k))).length) aX)),(10,.v (.slice none 0 0)),(11,.v (.int .i64 0)),(21,.v (.slice A l.length c)),(22,.v (.int .i64 ((l.length:Nat):Int))),(23,.v (.int .i64 (IntKind.i64.wrap (((k:Nat):Int) + 1))))]
    obtain ⟨fm,fo⟩:=fj.cutR 1 [brow aW aX 5 (dn ++ (W (Fld.mk aA aB aC aD ax aE aF aG) (Tree.at_ (Tree.mk n1 s2 b3 l4 u5) k)))]
    have fq:IntKind.i64.wrap (((k:Nat):Int) + 1) = ((k + 1:Nat):Int):=qaS (by omega)
    rw [fq] at dG
    exact ⟨l.length - (k + 1),by omega,k + 1,aW,aX,dn ++ (W (Fld.mk aA aB aC aD ax aE aF aG) (Tree.at_ (Tree.mk n1 s2 b3 l4 u5) k)),rfl,by omega,by rw [List.append_assoc,← qe0 bi ‹_› ‹_›]; exact hB,dG.pk,fm,((((((((((ei.trans eo).trans ep).trans dD).trans eO).trans bP).trans cO).trans dE).trans dF).trans fk).trans fo)⟩
   refine wp_skip (qav (qab (qau [0,1] kz ?_)))
   refine qak [0,1] [] [(0,.v (.slice A l.length c)),(1,.v (.int .i64 v)),(2,.v (.bool flex)),(7,.p 0 0),(9,.v (.slice A_ dn.length c_)),(10,.v (.slice none 0 0)),(11,.v (.int .i64 0)),(21,.v (.slice A l.length c)),(22,.v (.int .i64 ((l.length:Nat):Int))),(23,.v (.int .i64 (IntKind.i64.wrap (((k:Nat):Int) + 1))))] bN cJ fun mK fr=>?_
   refine qag (qab ?_)
   obtain ⟨dH,ft,fv⟩:=bN.cutB fr 1 (z92 cH n1 A6 s2.length c7 b3 A8 l4.length c9 aU u5.length aV) [(0,.v (.slice A l.length c)),(1,.v (.int .i64 v)),(2,.v (.bool flex)),(7,.p 0 0),(9,.v (.slice A_ dn.length c_)),(10,.v (.slice none 0 0)),(11,.v (.int .i64 0)),(21,.v (.slice A l.length c)),(22,.v (.int .i64 ((l.length:Nat):Int))),(23,.v (.int .i64 (IntKind.i64.wrap (((k:Nat):Int) + 1))))]
   have fw:IntKind.i64.wrap (((k:Nat):Int) + 1) = ((k + 1:Nat):Int):=qaS (by omega)
   rw [fw] at dH
   exact ⟨l.length - (k + 1),by omega,k + 1,A_,c_,dn,rfl,by omega,by rw [← qiR bi ‹_›]; exact hB,dH.pk,ft,((((ei.trans eo).trans ep).trans dD).trans fv)⟩
  have lm:=of_decide_eq_false cI
  have fx:=eK.cast (env':=[(0,.v (.slice A l.length c)),(1,.v (.int .i64 v)),(2,.v (.bool flex)),(7,.p 0 0),(9,.v (.slice A_ dn.length c_)),(10,.v (.slice none 0 0)),(11,.v (.int .i64 0)),(12,.v (.int .i64 ((k:Nat):Int))),(13,.p 1 0),(21,.v (.slice A l.length c)),(22,.v (.int .i64 ((l.length:Nat):Int))),(23,.v (.int .i64 ((k:Nat):Int))),(31,.v (.bool false))]) (by rw [cI])
  refine qak [4,5,6,7] [] [(0,.v (.slice A l.length c)),(1,.v (.int .i64 v)),(2,.v (.bool flex)),(7,.p 0 0),(9,.v (.slice A_ dn.length c_)),(10,.v (.slice none 0 0)),(11,.v (.int .i64 0)),(12,.v (.int .i64 ((k:Nat):Int))),(13,.p 1 0),(21,.v (.slice A l.length c)),(22,.v (.int .i64 ((l.length:Nat):Int))),(23,.v (.int .i64 ((k:Nat):Int))),(35,.v (.bool false))] bG fx fun mL dI=>?_
  refine qag (qab ?_)
  refine qaq dI (b:=false) kz rfl ?_
  refine wp_skip (qav (qab (qau [0,1] kz ?_)))
  refine qak [0,1] [] [(0,.v (.slice A l.length c)),(1,.v (.int .i64 v)),(2,.v (.bool flex)),(7,.p 0 0),(9,.v (.slice A_ dn.length c_)),(10,.v (.slice none 0 0)),(11,.v (.int .i64 0)),(21,.v (.slice A l.length c)),(22,.v (.int .i64 ((l.length:Nat):Int))),(23,.v (.int .i64 (IntKind.i64.wrap (((k:Nat):Int) + 1))))] bG dI fun mM fy=>?_
  refine qag (qab ?_)
  obtain ⟨dJ,fz,fA⟩:=bG.cutB fy 1 (z92 cH n1 A6 s2.length c7 b3 A8 l4.length c9 aU u5.length aV) [(0,.v (.slice A l.length c)),(1,.v (.int .i64 v)),(2,.v (.bool flex)),(7,.p 0 0),(9,.v (.slice A_ dn.length c_)),(10,.v (.slice none 0 0)),(11,.v (.int .i64 0)),(21,.v (.slice A l.length c)),(22,.v (.int .i64 ((l.length:Nat):Int))),(23,.v (.int .i64 (IntKind.i64.wrap (((k:Nat):Int) + 1))))]
  have fB:IntKind.i64.wrap (((k:Nat):Int) + 1) = ((k + 1:Nat):Int):=qaS (by omega)
  rw [fB] at dJ
  exact ⟨l.length - (k + 1),by omega,k + 1,A_,c_,dn,rfl,by omega,by rw [← qiQ bi ‹_›]; exact hB,dJ.pk,fz,(((ei.trans eo).trans ep).trans fA)⟩
 have ln:=of_decide_eq_false ek
 refine wp_exit (qay (qay (qaQ (qab (wp_seq (qas [(0,.v (.slice A l.length c)),(1,.v (.int .i64 v)),(2,.v (.bool flex)),(7,.p 0 0),(9,.v (.slice A_ dn.length c_)),(10,.v (.slice none 0 0)),(11,.v (.int .i64 0)),(47,.v (.bool (!flex)))] az ej fun mN cP=>?_))))))
 refine qax cP (b:=!flex) kz (fun bS=>?_) (fun bS=>?_)
 ·
  refine qas [(8,.v (.slice A_ dn.length c_))] az cP fun mO fC=>?_
  refine wp_ret (qat (qaK fC az.cells (v:=.slice A_ dn.length c_) kz ?_))
  exact qbu az (k:=0) rfl (by rw [show flex = false by simpa using bS,qjH,← hB,qhk (by omega),List.append_nil])
 refine wp_skip (qab (wp_seq (qaf [0,1,2,3] kz ?_)))
 refine qak [0] [1,2,3] [(0,.v (.slice A l.length c)),(1,.v (.int .i64 v)),(2,.v (.bool flex)),(7,.p 0 0),(9,.v (.slice A_ dn.length c_)),(10,.v (.slice none 0 0)),(11,.v (.int .i64 0)),(49,.v (.slice A l.length c))] az cP fun mQ fD=>?_
 refine qan (qal fD (f:=63) (vs:=[.slice A l.length c]) (d:=50) kz Tryz.call63 (qk4 _ _ l _ _ ⟨xfs,(h1.move az.step nilM az.imm),(fun i_ x_ h_=>((h2 i_ x_ h_).move az.step nilM az.imm))⟩) ?_)
 rintro e_ mR ⟨rfl,dK⟩
 refine ⟨_,rfl,fun mS fE=>?_⟩
 have dL:=az.next_nil dK
 have lp:=az.frN dK
 refine qak [2,3] [] [(0,.v (.slice A l.length c)),(1,.v (.int .i64 v)),(2,.v (.bool flex)),(7,.p 0 0),(9,.v (.slice A_ dn.length c_)),(10,.v (.slice none 0 0)),(11,.v (.int .i64 0)),(51,.v (.int .i64 (IntKind.i64.wrap (qaD l)))),(52,.v (.int .i64 0))] dL fE fun mT dM=>?_
 refine qag (qab ?_)
 refine wp_block ?_
 have hdn:dn = qaZ W l v (Tree.mk n1 s2 b3 l4 u5) 0:=by rw [← hB,qhk (by omega),List.append_nil]
 have dN:dn = (qaZ W l v (Tree.mk n1 s2 b3 l4 u5) 0):=hdn
 have fF:=congrArg (brow A_ c_ 5) dN
 obtain ⟨dO,lq⟩:=dL.rowEq 0 [brow A_ c_ 5 (qaZ W l v (Tree.mk n1 s2 b3 l4 u5) 0)] fF
 rw [dN] at dM
 have hfx:flex = true:=by simpa using bS
 have htot2:(qaZ W l v (Tree.mk n1 s2 b3 l4 u5) 0).length + (uv (qa6 W l (Tree.mk n1 s2 b3 l4 u5) (qaD l).toNat + (qaj l u5).length)).length + ((qaN W l (Tree.mk n1 s2 b3 l4 u5) (qaD l).toNat).length + (qbn (qaj l u5)).length) ≤ 1099511627776:=by have h_:=hroom; rw [hfx,qgm] at h_; simpa only [List.length_append] using h_
 have hmono:=fun i (h_:i ≤ (qaD l).toNat)=>qiS W l (Tree.mk n1 s2 b3 l4 u5) h_
 have hcnt:=qib W l (Tree.mk n1 s2 b3 l4 u5)
 have hknn:=qjI l
 have fG:=EnvOk.pick dM (ks:=[0,1,2,7,9,10,11,51,52]) (env':=[(0,.v (.slice A l.length c)),(1,.v (.int .i64 v)),(2,.v (.bool flex)),(7,.p 0 0),(9,.v (.slice A_ ((qaZ W l v (Tree.mk n1 s2 b3 l4 u5) 0).length) c_)),(10,.v (.slice none 0 0)),(11,.v (.int .i64 0)),(51,.v (.int .i64 (IntKind.i64.wrap (qaD l)))),(52,.v (.int .i64 0))]) kz
 have fH:=fG.cast (env':=[(0,.v (.slice A l.length c)),(1,.v (.int .i64 v)),(2,.v (.bool flex)),(7,.p 0 0),(9,.v (.slice A_ ((qaZ W l v (Tree.mk n1 s2 b3 l4 u5) 0).length) c_)),(10,.v (.slice none 0 0)),(11,.v (.int .i64 0)),(51,.v (.int .i64 (((qaD l).toNat:Nat):Int))),(52,.v (.int .i64 0))]) (by rw [hknn])
 have dP:=dO.addNil 5 1
 have lr:=dO.frNil 5 1
 refine wp_loop_ghost (fun n_ a_ w_=>∃ (k2:Nat) (A2_:Option Addr) (c2_:Nat),n_ = (qaD l).toNat - k2 ∧ k2 ≤ (qaD l).toNat ∧ LInv dP 132 [⟨cH,0,[.int .i64 n1,.slice A6 s2.length c7,.bool b3,.slice A8 l4.length c9,.slice aU u5.length aV],true⟩] [brow A_ c_ 5 (qaZ W l v (Tree.mk n1 s2 b3 l4 u5) 0),brow A2_ c2_ 5 (qaN W l (Tree.mk n1 s2 b3 l4 u5) k2)] [(0,.v (.slice A l.length c)),(1,.v (.int .i64 v)),(2,.v (.bool flex)),(7,.p 0 0),(9,.v (.slice A_ ((qaZ W l v (Tree.mk n1 s2 b3 l4 u5) 0).length) c_)),(10,.v (.slice A2_ ((qaN W l (Tree.mk n1 s2 b3 l4 u5) k2).length) c2_)),(11,.v (.int .i64 ((qa6 W l (Tree.mk n1 s2 b3 l4 u5) k2:Nat):Int))),(51,.v (.int .i64 (((qaD l).toNat:Nat):Int))),(52,.v (.int .i64 ((k2:Nat):Int)))] a_ w_) ((qaD l).toNat) ⟨0,none,0,by omega,by omega,fH.pk,dP,Fr.refl _ _ _⟩ ?_
 rintro mU mV mW ⟨k2,A2_,c2_,ls,lu,fI,ao,fJ⟩
 refine qas [(0,.v (.slice A l.length c)),(1,.v (.int .i64 v)),(2,.v (.bool flex)),(7,.p 0 0),(9,.v (.slice A_ ((qaZ W l v (Tree.mk n1 s2 b3 l4 u5) 0).length) c_)),(10,.v (.slice A2_ ((qaN W l (Tree.mk n1 s2 b3 l4 u5) k2).length) c2_)),(11,.v (.int .i64 ((qa6 W l (Tree.mk n1 s2 b3 l4 u5) k2:Nat):Int))),(51,.v (.int .i64 (((qaD l).toNat:Nat):Int))),(52,.v (.int .i64 ((k2:Nat):Int))),(53,.v (.bool (decide (((k2:Nat):Int) < (((qaD l).toNat:Nat):Int)))))] ao fI fun mX cQ=>?_
 refine wp_seq (qax cQ (b:=decide (((k2:Nat):Int) < (((qaD l).toNat:Nat):Int))) kz (fun cR=>?_) (fun cR=>?_))
 ·
  have lv:=of_decide_eq_true cR
  refine wp_skip (qab (wp_seq (wp_block (qas [(0,.v (.slice A l.length c)),(1,.v (.int .i64 v)),(2,.v (.bool flex)),(7,.p 0 0),(9,.v (.slice A_ ((qaZ W l v (Tree.mk n1 s2 b3 l4 u5) 0).length) c_)),(10,.v (.slice A2_ ((qaN W l (Tree.mk n1 s2 b3 l4 u5) k2).length) c2_)),(11,.v (.int .i64 ((qa6 W l (Tree.mk n1 s2 b3 l4 u5) k2:Nat):Int))),(14,.v (.int .i64 ((k2:Nat):Int))),(51,.v (.int .i64 (((qaD l).toNat:Nat):Int))),(52,.v (.int .i64 ((k2:Nat):Int)))] ao cQ fun mY fK=>?_))))
  refine qas [(0,.v (.slice A l.length c)),(1,.v (.int .i64 v)),(2,.v (.bool flex)),(7,.p 0 0),(9,.v (.slice A_ ((qaZ W l v (Tree.mk n1 s2 b3 l4 u5) 0).length) c_)),(10,.v (.slice A2_ ((qaN W l (Tree.mk n1 s2 b3 l4 u5) k2).length) c2_)),(11,.v (.int .i64 ((qa6 W l (Tree.mk n1 s2 b3 l4 u5) k2:Nat):Int))),(14,.v (.int .i64 ((k2:Nat):Int))),(51,.v (.int .i64 (((qaD l).toNat:Nat):Int))),(52,.v (.int .i64 ((k2:Nat):Int))),(55,.v (.slice A l.length c)),(56,.v (.int .i64 ((l.length:Nat):Int))),(57,.v (.int .i64 0))] ao fK fun mZ dQ=>?_
  refine wp_block ?_
  have dR:(qaN W l (Tree.mk n1 s2 b3 l4 u5) k2) = (qaN W l (Tree.mk n1 s2 b3 l4 u5) k2 ++ []):=(List.append_nil _).symm
  have fL:=congrArg (brow A2_ c2_ 5) dR
  obtain ⟨dS,fM⟩:=ao.rowEq 1 [brow A_ c_ 5 (qaZ W l v (Tree.mk n1 s2 b3 l4 u5) 0),brow A2_ c2_ 5 (qaN W l (Tree.mk n1 s2 b3 l4 u5) k2 ++ [])] fL
  rw [dR] at dQ
  have hm2:=hmono (k2 + 1) (by omega)
  rw [qaN,List.length_append] at hm2
  have hc2:=hcnt (k2 + 1)
  rw [qa6,qaN,List.length_append] at hc2
  have hc3:=qhN W k2 (Tree.mk n1 s2 b3 l4 u5) l 0
  refine wp_loop_ghost (fun n_ a_ w_=>∃ (q:Nat) (A3_:Option Addr) (c3_:Nat) (dm:Bs) (cn:Nat),n_ = l.length - q ∧ q ≤ l.length ∧ (dm ++ tagB W (l.drop q) k2 (Tree.mk n1 s2 b3 l4 u5) q = tagB W l k2 (Tree.mk n1 s2 b3 l4 u5) 0) ∧ (cn + tagN W (l.drop q) k2 (Tree.mk n1 s2 b3 l4 u5) q = tagN W l k2 (Tree.mk n1 s2 b3 l4 u5) 0) ∧ LInv dS 132 [⟨cH,0,[.int .i64 n1,.slice A6 s2.length c7,.bool b3,.slice A8 l4.length c9,.slice aU u5.length aV],true⟩] [brow A_ c_ 5 (qaZ W l v (Tree.mk n1 s2 b3 l4 u5) 0),brow A3_ c3_ 5 (qaN W l (Tree.mk n1 s2 b3 l4 u5) k2 ++ dm)] [(0,.v (.slice A l.length c)),(1,.v (.int .i64 v)),(2,.v (.bool flex)),(7,.p 0 0),(9,.v (.slice A_ ((qaZ W l v (Tree.mk n1 s2 b3 l4 u5) 0).length) c_)),(10,.v (.slice A3_ ((qaN W l (Tree.mk n1 s2 b3 l4 u5) k2 ++ dm).length) c3_)),(11,.v (.int .i64 ((qa6 W l (Tree.mk n1 s2 b3 l4 u5) k2 + cn:Nat):Int))),(14,.v (.int .i64 ((k2:Nat):Int))),(51,.v (.int .i64 (((qaD l).toNat:Nat):Int))),(52,.v (.int .i64 ((k2:Nat):Int))),(55,.v (.slice A l.length c)),(56,.v (.int .i64 ((l.length:Nat):Int))),(57,.v (.int .i64 ((q:Nat):Int)))] a_ w_) (l.length) ⟨0,A2_,c2_,[],0,by omega,by omega,rfl,Nat.zero_add _,dQ.pk,dS,Fr.refl _ _ _⟩ ?_
  rintro m4 m5 m6 ⟨q,A3_,c3_,dm,cn,lw,lx,hB2,hN2,fN,aY,bT⟩
  refine qas [(0,.v (.slice A l.length c)),(1,.v (.int .i64 v)),(2,.v (.bool flex)),(7,.p 0 0),(9,.v (.slice A_ ((qaZ W l v (Tree.mk n1 s2 b3 l4 u5) 0).length) c_)),(10,.v (.slice A3_ ((qaN W l (Tree.mk n1 s2 b3 l4 u5) k2 ++ dm).length) c3_)),(11,.v (.int .i64 ((qa6 W l (Tree.mk n1 s2 b3 l4 u5) k2 + cn:Nat):Int))),(14,.v (.int .i64 ((k2:Nat):Int))),(51,.v (.int .i64 (((qaD l).toNat:Nat):Int))),(52,.v (.int .i64 ((k2:Nat):Int))),(55,.v (.slice A l.length c)),(56,.v (.int .i64 ((l.length:Nat):Int))),(57,.v (.int .i64 ((q:Nat):Int))),(58,.v (.bool (decide (((q:Nat):Int) < ((l.length:Nat):Int)))))] aY fN fun m7 cS=>?_
  refine wp_seq (qax cS (b:=decide (((q:Nat):Int) < ((l.length:Nat):Int))) kz (fun cT=>?_) (fun cT=>?_))
  ·
   have ly:=of_decide_eq_true cT
   refine wp_skip (qab (wp_seq (wp_block (qaf [0,1,2,3,4,5] kz ?_))))
   refine qak [0] [1,2,3,4,5] [(0,.v (.slice A l.length c)),(1,.v (.int .i64 v)),(2,.v (.bool flex)),(7,.p 0 0),(9,.v (.slice A_ ((qaZ W l v (Tree.mk n1 s2 b3 l4 u5) 0).length) c_)),(10,.v (.slice A3_ ((qaN W l (Tree.mk n1 s2 b3 l4 u5) k2 ++ dm).length) c3_)),(11,.v (.int .i64 ((qa6 W l (Tree.mk n1 s2 b3 l4 u5) k2 + cn:Nat):Int))),(14,.v (.int .i64 ((k2:Nat):Int))),(51,.v (.int .i64 (((qaD l).toNat:Nat):Int))),(52,.v (.int .i64 ((k2:Nat):Int))),(55,.v (.slice A l.length c)),(56,.v (.int .i64 ((l.length:Nat):Int))),(57,.v (.int .i64 ((q:Nat):Int))),(59,.v (.int .i64 ((q:Nat):Int)))] aY cS fun m8 fO=>?_
   obtain ⟨kp,kq,fP,lz,cU⟩:=Slots.get h1 (i:=q) (by omega)
   obtain ⟨ku,ap⟩:∃ x,l[q]? = some x:=⟨_,List.getElem?_eq_getElem (by omega)⟩
   have bU:=h2 q ku ap
   obtain ⟨ab,ac,ae,af,aa,ag,ah,ai,bn,bo,lA,rfl,cV,kv,m9⟩:=bU.open_
   rw [cV] at bU
   have kw:=kv.small
   rw [cV] at cU
   refine qan (qaB fO (t:=29) (A:=A) (m:=l.length) (q:=((q:Nat):Int)) (d:=60) kz (e:=51) (size:=8) (bytes:=80) kz fP rfl (by omega) fun nf fQ=>?_)
   refine qan (qaW fQ (t:=51) (b:=kp) (o:=kq + q * 8) (d:=61) kz (cs:=(z6 ab ac ae af aa ag ah bn ai.length bo)) (v:=.agg #[.int .i64 ab,.int .i64 ac,.int .i64 ae,.int .i64 af,.int .i64 aa,.int .i64 ag,.int .i64 ah,.slice bn ai.length bo]) kz (AtF.move cU aY.step nilM qbi).at_ fun ng fR=>?_)
   refine qan (qaM aY fR (d:=16) (cs:=z10) kz fun nh ni nj lB lC cW dT fS=>?_)
   refine qak [4] [5] [(0,.v (.slice A l.length c)),(1,.v (.int .i64 v)),(2,.v (.bool flex)),(7,.p 0 0),(9,.v (.slice A_ ((qaZ W l v (Tree.mk n1 s2 b3 l4 u5) 0).length) c_)),(10,.v (.slice A3_ ((qaN W l (Tree.mk n1 s2 b3 l4 u5) k2 ++ dm).length) c3_)),(11,.v (.int .i64 ((qa6 W l (Tree.mk n1 s2 b3 l4 u5) k2 + cn:Nat):Int))),(14,.v (.int .i64 ((k2:Nat):Int))),(15,.v (.int .i64 ((q:Nat):Int))),(16,.p 1 0),(51,.v (.int .i64 (((qaD l).toNat:Nat):Int))),(52,.v (.int .i64 ((k2:Nat):Int))),(55,.v (.slice A l.length c)),(56,.v (.int .i64 ((l.length:Nat):Int))),(57,.v (.int .i64 ((q:Nat):Int))),(61,.v (.agg #[.int .i64 ab,.int .i64 ac,.int .i64 ae,.int .i64 af,.int .i64 aa,.int .i64 ag,.int .i64 ah,.slice bn ai.length bo]))] dT fS fun nk fT=>?_
   refine qan (qao dT fT (oi:=1) (cs:=(z6 ab ac ae af aa ag ah bn ai.length bo)) kz fun nl cX fU fV=>?_)
   refine qag (qab ?_)
   refine qaE 12 kz fU fun nm cY aN cZ=>?_
   refine qaF [0,1,2,3,4] [(0,.v (.slice A l.length c)),(1,.v (.int .i64 v)),(2,.v (.bool flex)),(7,.p 0 0),(9,.v (.slice A_ ((qaZ W l v (Tree.mk n1 s2 b3 l4 u5) 0).length) c_)),(10,.v (.slice A3_ ((qaN W l (Tree.mk n1 s2 b3 l4 u5) k2 ++ dm).length) c3_)),(11,.v (.int .i64 ((qa6 W l (Tree.mk n1 s2 b3 l4 u5) k2 + cn:Nat):Int))),(14,.v (.int .i64 ((k2:Nat):Int))),(15,.v (.int .i64 ((q:Nat):Int))),(16,.p 1 0),(51,.v (.int .i64 (((qaD l).toNat:Nat):Int))),(52,.v (.int .i64 ((k2:Nat):Int))),(55,.v (.slice A l.length c)),(56,.v (.int .i64 ((l.length:Nat):Int))),(57,.v (.int .i64 ((q:Nat):Int))),(66,.v (.bool (aa == ((k2:Nat):Int))))] 7 (qaa (qac (qaa (qaa (qac (qac (qaa (qaa (qac (qaa qae)))))))))) (fun _ h=>h.cells) cZ fV fun np dU=>?_
   refine (Bool.eq_false_or_eq_true (aa == ((k2:Nat):Int))).elim (fun bp=>?_) (fun bp=>?_)
   ·
    have lD:aa = ((k2:Nat):Int):=by simpa using bp
    have fW:=dU
    rw [bp] at fW
    refine qaF [5,6,7] [(0,.v (.slice A l.length c)),(1,.v (.int .i64 v)),(2,.v (.bool flex)),(7,.p 0 0),(9,.v (.slice A_ ((qaZ W l v (Tree.mk n1 s2 b3 l4 u5) 0).length) c_)),(10,.v (.slice A3_ ((qaN W l (Tree.mk n1 s2 b3 l4 u5) k2 ++ dm).length) c3_)),(11,.v (.int .i64 ((qa6 W l (Tree.mk n1 s2 b3 l4 u5) k2 + cn:Nat):Int))),(14,.v (.int .i64 ((k2:Nat):Int))),(15,.v (.int .i64 ((q:Nat):Int))),(16,.p 1 0),(51,.v (.int .i64 (((qaD l).toNat:Nat):Int))),(52,.v (.int .i64 ((k2:Nat):Int))),(55,.v (.slice A l.length c)),(56,.v (.int .i64 ((l.length:Nat):Int))),(57,.v (.int .i64 ((q:Nat):Int))),(66,.v (.bool true)),(67,.v (.agg #[.int .i64 ab,.int .i64 ac,.int .i64 ae,.int .i64 af,.int .i64 aa,.int .i64 ag,.int .i64 ah,.slice bn ai.length bo])),(68,.v (.agg #[.int .i64 n1,.slice A6 s2.length c7,.bool b3,.slice A8 l4.length c9,.slice aU u5.length aV])),(69,.v (.int .i64 ((q:Nat):Int)))] 4 (qaa (qac (qaa (qaa (qac (qac (qaa (qaa (qac (qaa qae)))))))))) (fun _ h=>h.cells) cZ fW fun nr fX=>?_
    refine qap (i:=8) kz (qal fX (f:=30) (vs:=[.agg #[.int .i64 n1,.slice A6 s2.length c7,.bool b3,.slice A8 l4.length c9,.slice aU u5.length aV],.int .i64 ((q:Nat):Int)]) (d:=70) kz Tryz.call30 (sAt _ _ q _ _ (ht.move aN.step nilM aN.imm)) ?_)
    rintro e_ ns ⟨lE,rfl,fY,bq⟩
    have c5:=fY.move bq nilM (fun b o h_ hb_=>aN.laid (G:=F) bq b o (.inl h_) (Nat.lt_of_lt_of_le hb_ bq.size))
    obtain ⟨kx,ky,kA,kB,kC,kD,kE,kF,kG,kH,kI,lF,lG,c6,kJ,kK,nt,nu⟩:=c5.open_
    rw [c6] at c5
    have kL:=kJ.small
    have kM:=kK.small
    rw [c6]
    refine ⟨_,rfl,fun nv fZ=>?_⟩
    have bt:=aN.next_nil bq
    have bV:=aN.frN bq
    have f5:=TT.ofW bV bt
    refine ⟨fun _=>f5,?_⟩
    refine qap (i:=9) kz (qal fZ (f:=32) (vs:=[.agg #[.int .i64 ab,.int .i64 ac,.int .i64 ae,.int .i64 af,.int .i64 aa,.int .i64 ag,.int .i64 ah,.slice bn ai.length bo],.agg #[.int .i64 kx,.slice kD ky.length kE,.bool kA,.slice kF kB.length kG,.slice kH kC.length kI]]) (d:=71) kz Tryz.call32 (qip _ _ _ _ _ _ _ (bU.move bt.step nilM bt.imm) (Nat.le_refl _) c5) ?_)
    rintro e_ nw ⟨rfl,dV⟩
    refine ⟨_,rfl,fun nx f7=>?_⟩
    have bW:=bt.next_nil dV
    have da:=bt.frN dV
    have dW:=TT.ofW (bV.trans da) bW
    refine ⟨fun _=>dW,?_⟩
    refine qaF [10,11] [(0,.v (.slice A l.length c)),(1,.v (.int .i64 v)),(2,.v (.bool flex)),(7,.p 0 0),(9,.v (.slice A_ ((qaZ W l v (Tree.mk n1 s2 b3 l4 u5) 0).length) c_)),(10,.v (.slice A3_ ((qaN W l (Tree.mk n1 s2 b3 l4 u5) k2 ++ dm).length) c3_)),(11,.v (.int .i64 ((qa6 W l (Tree.mk n1 s2 b3 l4 u5) k2 + cn:Nat):Int))),(14,.v (.int .i64 ((k2:Nat):Int))),(15,.v (.int .i64 ((q:Nat):Int))),(16,.p 1 0),(51,.v (.int .i64 (((qaD l).toNat:Nat):Int))),(52,.v (.int .i64 ((k2:Nat):Int))),(55,.v (.slice A l.length c)),(56,.v (.int .i64 ((l.length:Nat):Int))),(57,.v (.int .i64 ((q:Nat):Int))),(73,.v (.bool (!(Fld.usual (Fld.mk ab ac ae af aa ag ah ai) (Tree.at_ (Tree.mk n1 s2 b3 l4 u5) q)))))] 0 (qaa (qac (qaa (qaa (qac (qac (qaa (qaa (qac (qaa qae)))))))))) (fun _ h=>h.cells) dW f7 fun ny db=>?_
    refine qaC kz ?_ _
    refine qab (qax db (b:=!(Fld.usual (Fld.mk ab ac ae af aa ag ah ai) (Tree.at_ (Tree.mk n1 s2 b3 l4 u5) q))) kz (fun ay=>?_) (fun ay=>?_))
    ·
     refine qaE 7 kz bW fun nz f8 bu f9=>?_
     refine qaF [0,1,2,3,4] [(0,.v (.slice A l.length c)),(1,.v (.int .i64 v)),(2,.v (.bool flex)),(7,.p 0 0),(9,.v (.slice A_ ((qaZ W l v (Tree.mk n1 s2 b3 l4 u5) 0).length) c_)),(10,.v (.slice A3_ ((qaN W l (Tree.mk n1 s2 b3 l4 u5) k2 ++ dm).length) c3_)),(11,.v (.int .i64 ((qa6 W l (Tree.mk n1 s2 b3 l4 u5) k2 + cn:Nat):Int))),(14,.v (.int .i64 ((k2:Nat):Int))),(51,.v (.int .i64 (((qaD l).toNat:Nat):Int))),(52,.v (.int .i64 ((k2:Nat):Int))),(55,.v (.slice A l.length c)),(56,.v (.int .i64 ((l.length:Nat):Int))),(57,.v (.int .i64 ((q:Nat):Int))),(74,.v (.agg #[.int .i64 ab,.int .i64 ac,.int .i64 ae,.int .i64 af,.int .i64 aa,.int .i64 ag,.int .i64 ah,.slice bn ai.length bo])),(75,.v (.int .i64 v)),(76,.v (.bool flex)),(77,.v (.agg #[.int .i64 n1,.slice A6 s2.length c7,.bool b3,.slice A8 l4.length c9,.slice aU u5.length aV])),(78,.v (.int .i64 ((q:Nat):Int)))] 3 (qaa (qac (qaa (qaa (qac (qac (qaa (qaa (qac (qaa qae)))))))))) (fun _ h=>h.cells) f9 db fun nA ga=>?_
     refine qap (i:=5) kz (qal ga (f:=30) (vs:=[.agg #[.int .i64 n1,.slice A6 s2.length c7,.bool b3,.slice A8 l4.length c9,.slice aU u5.length aV],.int .i64 ((q:Nat):Int)]) (d:=79) kz Tryz.call30 (sAt _ _ q _ _ (ht.move bu.step nilM bu.imm)) ?_)
     rintro e_ nB ⟨lH,rfl,gb,bw⟩
     have dc:=gb.move bw nilM (fun b o h_ hb_=>bu.laid (G:=F) bw b o (.inl h_) (Nat.lt_of_lt_of_le hb_ bw.size))
     obtain ⟨kN,kO,kP,kQ,kR,kS,kT,kU,kV,kW,kX,lI,lJ,de,kY,kZ,nC,nD⟩:=dc.open_
     rw [de] at dc
     have k5:=kY.small
     have k6:=kZ.small
     rw [de]
     refine ⟨_,rfl,fun nE gc=>?_⟩
     have bX:=bu.next_nil bw
     have df:=bu.frN bw
     have gd:=TT.ofW df bX
     refine ⟨fun _=>gd,?_⟩
     refine qap (i:=6) kz (qal gc (f:=62) (vs:=[.agg #[.int .i64 ab,.int .i64 ac,.int .i64 ae,.int .i64 af,.int .i64 aa,.int .i64 ag,.int .i64 ah,.slice bn ai.length bo],.int .i64 v,.bool flex,.agg #[.int .i64 kN,.slice kS kO.length kT,.bool kP,.slice kU kQ.length kV,.slice kW kR.length kX]]) (d:=80) kz Tryz.call62 ( hW_ _ _ _ _ _ _ (List.mem_of_getElem? ap) (bU.move bX.step nilM bX.imm) dc (by have h_:=congrArg List.length hB2; rw [qer ap (by omega) (by simpa using ay)] at h_; simp only [List.length_append] at h_; omega)) ?_)
     rintro e_ nF ⟨av,aw,rfl,ge,gg⟩
     refine ⟨_,rfl,fun nG gh=>?_⟩
     obtain ⟨bY,dX⟩:=bX.frFresh gg (brow av aw 5 (W (Fld.mk ab ac ae af aa ag ah ai) (Tree.at_ (Tree.mk n1 s2 b3 l4 u5) q))) (Nat.le_refl _) ge
     have k7:(W (Fld.mk ab ac ae af aa ag ah ai) (Tree.at_ (Tree.mk n1 s2 b3 l4 u5) q)).length ≤ 1099511627776:=by have h_:=congrArg List.length hB2; rw [qer ap (by omega) (by simpa using ay)] at h_; simp only [List.length_append] at h_; omega
     have gi:=TT.ofW (df.trans dX) bY
     refine ⟨fun _=>gi,?_⟩
     refine qap (i:=7) kz (qbq [0,1,2,7,9,10,11,14,17,51,52,55,56,57] bY.cells gh (env':=[(0,.v (.slice A l.length c)),(1,.v (.int .i64 v)),(2,.v (.bool flex)),(7,.p 0 0),(9,.v (.slice A_ ((qaZ W l v (Tree.mk n1 s2 b3 l4 u5) 0).length) c_)),(10,.v (.slice A3_ ((qaN W l (Tree.mk n1 s2 b3 l4 u5) k2 ++ dm).length) c3_)),(11,.v (.int .i64 ((qa6 W l (Tree.mk n1 s2 b3 l4 u5) k2 + cn:Nat):Int))),(14,.v (.int .i64 ((k2:Nat):Int))),(17,.v (.slice av ((W (Fld.mk ab ac ae af aa ag ah ai) (Tree.at_ (Tree.mk n1 s2 b3 l4 u5) q)).length) aw)),(51,.v (.int .i64 (((qaD l).toNat:Nat):Int))),(52,.v (.int .i64 ((k2:Nat):Int))),(55,.v (.slice A l.length c)),(56,.v (.int .i64 ((l.length:Nat):Int))),(57,.v (.int .i64 ((q:Nat):Int)))]) kz fun nH gj=>?_)
     refine ⟨fun h=>absurd rfl h,?_⟩
     refine qaC kz ?_ _
     refine qab (qaf [0,1,2,3,4,5,6,7,8,9,10,11,12] kz ?_)
     refine qak [0,1,2] [3,4,5,6,7,8,9,10,11,12] [(0,.v (.slice A l.length c)),(1,.v (.int .i64 v)),(2,.v (.bool flex)),(7,.p 0 0),(9,.v (.slice A_ ((qaZ W l v (Tree.mk n1 s2 b3 l4 u5) 0).length) c_)),(11,.v (.int .i64 ((qa6 W l (Tree.mk n1 s2 b3 l4 u5) k2 + cn:Nat):Int))),(14,.v (.int .i64 ((k2:Nat):Int))),(17,.v (.slice av ((W (Fld.mk ab ac ae af aa ag ah ai) (Tree.at_ (Tree.mk n1 s2 b3 l4 u5) q)).length) aw)),(51,.v (.int .i64 (((qaD l).toNat:Nat):Int))),(52,.v (.int .i64 ((k2:Nat):Int))),(55,.v (.slice A l.length c)),(56,.v (.int .i64 ((l.length:Nat):Int))),(57,.v (.int .i64 ((q:Nat):Int))),(81,.v (.slice A3_ ((qaN W l (Tree.mk n1 s2 b3 l4 u5) k2 ++ dm).length) c3_)),(83,.v (.int .u64 (IntKind.u64.wrap ((k2:Nat):Int))))] bY gj fun nI gk=>?_
     have gl:IntKind.u64.wrap ((k2:Nat):Int) = ((k2:Nat):Int):=by simp only [qc6,qaA,qbZ,IntKind.wrap_i64,IntKind.wrap_i32]; omega
     have gm:=EnvOk.pick gk (ks:=[0,1,2,7,9,11,14,17,51,52,55,56,57,81,83]) (env':=[(0,.v (.slice A l.length c)),(1,.v (.int .i64 v)),(2,.v (.bool flex)),(7,.p 0 0),(9,.v (.slice A_ ((qaZ W l v (Tree.mk n1 s2 b3 l4 u5) 0).length) c_)),(11,.v (.int .i64 ((qa6 W l (Tree.mk n1 s2 b3 l4 u5) k2 + cn:Nat):Int))),(14,.v (.int .i64 ((k2:Nat):Int))),(17,.v (.slice av ((W (Fld.mk ab ac ae af aa ag ah ai) (Tree.at_ (Tree.mk n1 s2 b3 l4 u5) q)).length) aw)),(51,.v (.int .i64 (((qaD l).toNat:Nat):Int))),(52,.v (.int .i64 ((k2:Nat):Int))),(55,.v (.slice A l.length c)),(56,.v (.int .i64 ((l.length:Nat):Int))),(57,.v (.int .i64 ((q:Nat):Int))),(81,.v (.slice A3_ ((qaN W l (Tree.mk n1 s2 b3 l4 u5) k2 ++ dm).length) c3_)),(83,.v (.int .u64 (IntKind.u64.wrap ((k2:Nat):Int))))]) kz
     have gn:=gm
     rw [gl] at gn
     refine qan (qal gn (f:=64) (vs:=[.int .u64 ((k2:Nat):Int)]) (d:=84) kz Tryz.call64 (qev k2 (by omega) _) ?_)
     rintro e_ nJ ⟨bH,bI,rfl,gp,gq⟩
     refine ⟨_,rfl,fun nK gt=>?_⟩
     obtain ⟨dg,gv⟩:=bY.frFresh gq (brow bH bI 5 (uv k2)) (Nat.le_refl _) gp
     refine qan (qaR dg gt (k:=1) (d:=85) (t:=22) (e:=5) (size:=1) (bytes:=1) (A:=A3_) (As:=bH) (m0:=((qaN W l (Tree.mk n1 s2 b3 l4 u5) k2 ++ dm).length)) (c:=c3_) (m:=((uv k2).length)) (cs:=bI) (xs:=(bc (qaN W l (Tree.mk n1 s2 b3 l4 u5) k2 ++ dm))) (news:=bc (uv k2)) kz kz rfl (qbI (dg.own 3 _ rfl) (qdF _)) (qbQ (dg.own 3 _ rfl)) (by have h_:=congrArg List.length hB2; rw [qer ap (by omega) (by simpa using ay)] at h_; simp only [List.length_append] at h_ ⊢; omega) fun aO aP nL nM gw gx gy=>?_)
     have gz:(⟨aO,aP,5,1,(qaN W l (Tree.mk n1 s2 b3 l4 u5) k2 ++ dm).length + (uv k2).length,bc (qaN W l (Tree.mk n1 s2 b3 l4 u5) k2 ++ dm) ++ bc (uv k2)⟩:Rw) = brow aO aP 5 (qaN W l (Tree.mk n1 s2 b3 l4 u5) k2 ++ dm ++ (uv k2)):=qcn (rfl) rfl
     obtain ⟨dY,gA⟩:=gx.rowEq 1 [brow A_ c_ 5 (qaZ W l v (Tree.mk n1 s2 b3 l4 u5) 0),brow aO aP 5 (qaN W l (Tree.mk n1 s2 b3 l4 u5) k2 ++ dm ++ (uv k2)),brow av aw 5 (W (Fld.mk ab ac ae af aa ag ah ai) (Tree.at_ (Tree.mk n1 s2 b3 l4 u5) q)),brow bH bI 5 (uv k2)] gz
     have gB:=EnvOk.pick gy (ks:=[0,1,2,7,9,11,14,17,51,52,55,56,57,81,83,84,85]) (env':=[(0,.v (.slice A l.length c)),(1,.v (.int .i64 v)),(2,.v (.bool flex)),(7,.p 0 0),(9,.v (.slice A_ ((qaZ W l v (Tree.mk n1 s2 b3 l4 u5) 0).length) c_)),(11,.v (.int .i64 ((qa6 W l (Tree.mk n1 s2 b3 l4 u5) k2 + cn:Nat):Int))),(14,.v (.int .i64 ((k2:Nat):Int))),(17,.v (.slice av ((W (Fld.mk ab ac ae af aa ag ah ai) (Tree.at_ (Tree.mk n1 s2 b3 l4 u5) q)).length) aw)),(51,.v (.int .i64 (((qaD l).toNat:Nat):Int))),(52,.v (.int .i64 ((k2:Nat):Int))),(55,.v (.slice A l.length c)),(56,.v (.int .i64 ((l.length:Nat):Int))),(57,.v (.int .i64 ((q:Nat):Int))),(81,.v (.slice A3_ ((qaN W l (Tree.mk n1 s2 b3 l4 u5) k2 ++ dm).length) c3_)),(83,.v (.int .u64 ((k2:Nat):Int))),(84,.v (.slice bH ((uv k2).length) bI)),(85,.v (.slice aO ((qaN W l (Tree.mk n1 s2 b3 l4 u5) k2 ++ dm).length + (uv k2).length) aP))]) kz
     have gC:=gB.cast (env':=[(0,.v (.slice A l.length c)),(1,.v (.int .i64 v)),(2,.v (.bool flex)),(7,.p 0 0),(9,.v (.slice A_ ((qaZ W l v (Tree.mk n1 s2 b3 l4 u5) 0).length) c_)),(11,.v (.int .i64 ((qa6 W l (Tree.mk n1 s2 b3 l4 u5) k2 + cn:Nat):Int))),(14,.v (.int .i64 ((k2:Nat):Int))),(17,.v (.slice av ((W (Fld.mk ab ac ae af aa ag ah ai) (Tree.at_ (Tree.mk n1 s2 b3 l4 u5) q)).length) aw)),(51,.v (.int .i64 (((qaD l).toNat:Nat):Int))),(52,.v (.int .i64 ((k2:Nat):Int))),(55,.v (.slice A l.length c)),(56,.v (.int .i64 ((l.length:Nat):Int))),(57,.v (.int .i64 ((q:Nat):Int))),(81,.v (.slice A3_ ((qaN W l (Tree.mk n1 s2 b3 l4 u5) k2 ++ dm).length) c3_)),(83,.v (.int .u64 ((k2:Nat):Int))),(84,.v (.slice bH ((uv k2).length) bI)),(85,.v (.slice aO ((qaN W l (Tree.mk n1 s2 b3 l4 u5) k2 ++ dm ++ (uv k2)).length) aP))]) (by simp only [List.length_append,List.length_cons,List.length_nil,Nat.zero_add])
     refine qak [5,6,7] [8,9,10,11,12] [(0,.v (.slice A l.length c)),(1,.v (.int .i64 v)),(2,.v (.bool flex)),(7,.p 0 0),(9,.v (.slice A_ ((qaZ W l v (Tree.mk n1 s2 b3 l4 u5) 0).length) c_)),(11,.v (.int .i64 ((qa6 W l (Tree.mk n1 s2 b3 l4 u5) k2 + cn:Nat):Int))),(14,.v (.int .i64 ((k2:Nat):Int))),(17,.v (.slice av ((W (Fld.mk ab ac ae af aa ag ah ai) (Tree.at_ (Tree.mk n1 s2 b3 l4 u5) q)).length) aw)),(51,.v (.int .i64 (((qaD l).toNat:Nat):Int))),(52,.v (.int .i64 ((k2:Nat):Int))),(55,.v (.slice A l.length c)),(56,.v (.int .i64 ((l.length:Nat):Int))),(57,.v (.int .i64 ((q:Nat):Int))),(85,.v (.slice aO ((qaN W l (Tree.mk n1 s2 b3 l4 u5) k2 ++ dm ++ (uv k2)).length) aP)),(88,.v (.int .u64 (IntKind.u64.wrap (((W (Fld.mk ab ac ae af aa ag ah ai) (Tree.at_ (Tree.mk n1 s2 b3 l4 u5) q)).length:Nat):Int))))] dY gC fun nN gD=>?_
     have gE:IntKind.u64.wrap (((W (Fld.mk ab ac ae af aa ag ah ai) (Tree.at_ (Tree.mk n1 s2 b3 l4 u5) q)).length:Nat):Int) = (((W (Fld.mk ab ac ae af aa ag ah ai) (Tree.at_ (Tree.mk n1 s2 b3 l4 u5) q)).length:Nat):Int):=by simp only [qc6,qaA,qbZ,IntKind.wrap_i64,IntKind.wrap_i32]; omega
     have gF:=EnvOk.pick gD (ks:=[0,1,2,7,9,11,14,17,51,52,55,56,57,85,88]) (env':=[(0,.v (.slice A l.length c)),(1,.v (.int .i64 v)),(2,.v (.bool flex)),(7,.p 0 0),(9,.v (.slice A_ ((qaZ W l v (Tree.mk n1 s2 b3 l4 u5) 0).length) c_)),(11,.v (.int .i64 ((qa6 W l (Tree.mk n1 s2 b3 l4 u5) k2 + cn:Nat):Int))),(14,.v (.int .i64 ((k2:Nat):Int))),(17,.v (.slice av ((W (Fld.mk ab ac ae af aa ag ah ai) (Tree.at_ (Tree.mk n1 s2 b3 l4 u5) q)).length) aw)),(51,.v (.int .i64 (((qaD l).toNat:Nat):Int))),(52,.v (.int .i64 ((k2:Nat):Int))),(55,.v (.slice A l.length c)),(56,.v (.int .i64 ((l.length:Nat):Int))),(57,.v (.int .i64 ((q:Nat):Int))),(85,.v (.slice aO ((qaN W l (Tree.mk n1 s2 b3 l4 u5) k2 ++ dm ++ (uv k2)).length) aP)),(88,.v (.int .u64 (IntKind.u64.wrap (((W (Fld.mk ab ac ae af aa ag ah ai) (Tree.at_ (Tree.mk n1 s2 b3 l4 u5) q)).length:Nat):Int))))]) kz
     have gG:=gF
     rw [gE] at gG
     refine qan (qal gG (f:=64) (vs:=[.int .u64 (((W (Fld.mk ab ac ae af aa ag ah ai) (Tree.at_ (Tree.mk n1 s2 b3 l4 u5) q)).length:Nat):Int)]) (d:=89) kz Tryz.call64 (qev ((W (Fld.mk ab ac ae af aa ag ah ai) (Tree.at_ (Tree.mk n1 s2 b3 l4 u5) q)).length) (by omega) _) ?_)
     rintro e_ nO ⟨cA,cB,rfl,gH,gI⟩
     refine ⟨_,rfl,fun nP gJ=>?_⟩
     obtain ⟨dh,gK⟩:=dY.frFresh gI (brow cA cB 5 (uv ((W (Fld.mk ab ac ae af aa ag ah ai) (Tree.at_ (Tree.mk n1 s2 b3 l4 u5) q)).length))) (Nat.le_refl _) gH
     refine qan (qaR dh gJ (k:=1) (d:=90) (t:=22) (e:=5) (size:=1) (bytes:=1) (A:=aO) (As:=cA) (m0:=((qaN W l (Tree.mk n1 s2 b3 l4 u5) k2 ++ dm ++ (uv k2)).length)) (c:=aP) (m:=((uv ((W (Fld.mk ab ac ae af aa ag ah ai) (Tree.at_ (Tree.mk n1 s2 b3 l4 u5) q)).length)).length)) (cs:=cB) (xs:=(bc (qaN W l (Tree.mk n1 s2 b3 l4 u5) k2 ++ dm ++ (uv k2)))) (news:=bc (uv ((W (Fld.mk ab ac ae af aa ag ah ai) (Tree.at_ (Tree.mk n1 s2 b3 l4 u5) q)).length))) kz kz rfl (qbI (dh.own 4 _ rfl) (qdF _)) (qbQ (dh.own 4 _ rfl)) (by have h_:=congrArg List.length hB2; rw [qer ap (by omega) (by simpa using ay)] at h_; simp only [List.length_append] at h_ ⊢; omega) fun aZ ba nQ nR gL gM gN=>?_)
     have gO:(⟨aZ,ba,5,1,(qaN W l (Tree.mk n1 s2 b3 l4 u5) k2 ++ dm ++ (uv k2)).length + (uv ((W (Fld.mk ab ac ae af aa ag ah ai) (Tree.at_ (Tree.mk n1 s2 b3 l4 u5) q)).length)).length,bc (qaN W l (Tree.mk n1 s2 b3 l4 u5) k2 ++ dm ++ (uv k2)) ++ bc (uv ((W (Fld.mk ab ac ae af aa ag ah ai) (Tree.at_ (Tree.mk n1 s2 b3 l4 u5) q)).length))⟩:Rw) = brow aZ ba 5 (qaN W l (Tree.mk n1 s2 b3 l4 u5) k2 ++ dm ++ (uv k2) ++ (uv ((W (Fld.mk ab ac ae af aa ag ah ai) (Tree.at_ (Tree.mk n1 s2 b3 l4 u5) q)).length))):=qcn (rfl) rfl
     obtain ⟨bZ,gP⟩:=gM.rowEq 1 [brow A_ c_ 5 (qaZ W l v (Tree.mk n1 s2 b3 l4 u5) 0),brow aZ ba 5 (qaN W l (Tree.mk n1 s2 b3 l4 u5) k2 ++ dm ++ (uv k2) ++ (uv ((W (Fld.mk ab ac ae af aa ag ah ai) (Tree.at_ (Tree.mk n1 s2 b3 l4 u5) q)).length))),brow av aw 5 (W (Fld.mk ab ac ae af aa ag ah ai) (Tree.at_ (Tree.mk n1 s2 b3 l4 u5) q)),brow bH bI 5 (uv k2),brow cA cB 5 (uv ((W (Fld.mk ab ac ae af aa ag ah ai) (Tree.at_ (Tree.mk n1 s2 b3 l4 u5) q)).length))] gO
     have gQ:=EnvOk.pick gN (ks:=[0,1,2,7,9,11,14,17,51,52,55,56,57,85,88,89,90]) (env':=[(0,.v (.slice A l.length c)),(1,.v (.int .i64 v)),(2,.v (.bool flex)),(7,.p 0 0),(9,.v (.slice A_ ((qaZ W l v (Tree.mk n1 s2 b3 l4 u5) 0).length) c_)),(11,.v (.int .i64 ((qa6 W l (Tree.mk n1 s2 b3 l4 u5) k2 + cn:Nat):Int))),(14,.v (.int .i64 ((k2:Nat):Int))),(17,.v (.slice av ((W (Fld.mk ab ac ae af aa ag ah ai) (Tree.at_ (Tree.mk n1 s2 b3 l4 u5) q)).length) aw)),(51,.v (.int .i64 (((qaD l).toNat:Nat):Int))),(52,.v (.int .i64 ((k2:Nat):Int))),(55,.v (.slice A l.length c)),(56,.v (.int .i64 ((l.length:Nat):Int))),(57,.v (.int .i64 ((q:Nat):Int))),(85,.v (.slice aO ((qaN W l (Tree.mk n1 s2 b3 l4 u5) k2 ++ dm ++ (uv k2)).length) aP)),(88,.v (.int .u64 (((W (Fld.mk ab ac ae af aa ag ah ai) (Tree.at_ (Tree.mk n1 s2 b3 l4 u5) q)).length:Nat):Int))),(89,.v (.slice cA ((uv ((W (Fld.mk ab ac ae af aa ag ah ai) (Tree.at_ (Tree.mk n1 s2 b3 l4 u5) q)).length)).length) cB)),(90,.v (.slice aZ ((qaN W l (Tree.mk n1 s2 b3 l4 u5) k2 ++ dm ++ (uv k2)).length + (uv ((W (Fld.mk ab ac ae af aa ag ah ai) (Tree.at_ (Tree.mk n1 s2 b3 l4 u5) q)).length)).length) ba))]) kz
     have gR:=gQ.cast (env':=[(0,.v (.slice A l.length c)),(1,.v (.int .i64 v)),(2,.v (.bool flex)),(7,.p 0 0),(9,.v (.slice A_ ((qaZ W l v (Tree.mk n1 s2 b3 l4 u5) 0).length) c_)),(11,.v (.int .i64 ((qa6 W l (Tree.mk n1 s2 b3 l4 u5) k2 + cn:Nat):Int))),(14,.v (.int .i64 ((k2:Nat):Int))),(17,.v (.slice av ((W (Fld.mk ab ac ae af aa ag ah ai) (Tree.at_ (Tree.mk n1 s2 b3 l4 u5) q)).length) aw)),(51,.v (.int .i64 (((qaD l).toNat:Nat):Int))),(52,.v (.int .i64 ((k2:Nat):Int))),(55,.v (.slice A l.length c)),(56,.v (.int .i64 ((l.length:Nat):Int))),(57,.v (.int .i64 ((q:Nat):Int))),(85,.v (.slice aO ((qaN W l (Tree.mk n1 s2 b3 l4 u5) k2 ++ dm ++ (uv k2)).length) aP)),(88,.v (.int .u64 (((W (Fld.mk ab ac ae af aa ag ah ai) (Tree.at_ (Tree.mk n1 s2 b3 l4 u5) q)).length:Nat):Int))),(89,.v (.slice cA ((uv ((W (Fld.mk ab ac ae af aa ag ah ai) (Tree.at_ (Tree.mk n1 s2 b3 l4 u5) q)).length)).length) cB)),(90,.v (.slice aZ ((qaN W l (Tree.mk n1 s2 b3 l4 u5) k2 ++ dm ++ (uv k2) ++ (uv ((W (Fld.mk ab ac ae af aa ag ah ai) (Tree.at_ (Tree.mk n1 s2 b3 l4 u5) q)).length))).length) ba))]) (by simp only [List.length_append,List.length_cons,List.length_nil,Nat.zero_add])
     refine qak [10] [11,12] [(0,.v (.slice A l.length c)),(1,.v (.int .i64 v)),(2,.v (.bool flex)),(7,.p 0 0),(9,.v (.slice A_ ((qaZ W l v (Tree.mk n1 s2 b3 l4 u5) 0).length) c_)),(11,.v (.int .i64 ((qa6 W l (Tree.mk n1 s2 b3 l4 u5) k2 + cn:Nat):Int))),(14,.v (.int .i64 ((k2:Nat):Int))),(51,.v (.int .i64 (((qaD l).toNat:Nat):Int))),(52,.v (.int .i64 ((k2:Nat):Int))),(55,.v (.slice A l.length c)),(56,.v (.int .i64 ((l.length:Nat):Int))),(57,.v (.int .i64 ((q:Nat):Int))),(90,.v (.slice aZ ((qaN W l (Tree.mk n1 s2 b3 l4 u5) k2 ++ dm ++ (uv k2) ++ (uv ((W (Fld.mk ab ac ae af aa ag ah ai) (Tree.at_ (Tree.mk n1 s2 b3 l4 u5) q)).length))).length) ba)),(91,.v (.slice av ((W (Fld.mk ab ac ae af aa ag ah ai) (Tree.at_ (Tree.mk n1 s2 b3 l4 u5) q)).length) aw))] bZ gR fun nS gS=>?_
     refine qan (qaR bZ gS (k:=1) (d:=92) (t:=22) (e:=5) (size:=1) (bytes:=1) (A:=aZ) (As:=av) (m0:=((qaN W l (Tree.mk n1 s2 b3 l4 u5) k2 ++ dm ++ (uv k2) ++ (uv ((W (Fld.mk ab ac ae af aa ag ah ai) (Tree.at_ (Tree.mk n1 s2 b3 l4 u5) q)).length))).length)) (c:=ba) (m:=((W (Fld.mk ab ac ae af aa ag ah ai) (Tree.at_ (Tree.mk n1 s2 b3 l4 u5) q)).length)) (cs:=aw) (xs:=(bc (qaN W l (Tree.mk n1 s2 b3 l4 u5) k2 ++ dm ++ (uv k2) ++ (uv ((W (Fld.mk ab ac ae af aa ag ah ai) (Tree.at_ (Tree.mk n1 s2 b3 l4 u5) q)).length))))) (news:=bc (W (Fld.mk ab ac ae af aa ag ah ai) (Tree.at_ (Tree.mk n1 s2 b3 l4 u5) q))) kz kz rfl (qbI (bZ.own 2 _ rfl) (qdF _)) (qbQ (bZ.own 2 _ rfl)) (by have h_:=congrArg List.length hB2; rw [qer ap (by omega) (by simpa using ay)] at h_; simp only [List.length_append] at h_ ⊢; omega) fun aI aJ nT nU gT gU gV=>?_)
     have gW:(⟨aI,aJ,5,1,(qaN W l (Tree.mk n1 s2 b3 l4 u5) k2 ++ dm ++ (uv k2) ++ (uv ((W (Fld.mk ab ac ae af aa ag ah ai) (Tree.at_ (Tree.mk n1 s2 b3 l4 u5) q)).length))).length + (W (Fld.mk ab ac ae af aa ag ah ai) (Tree.at_ (Tree.mk n1 s2 b3 l4 u5) q)).length,bc (qaN W l (Tree.mk n1 s2 b3 l4 u5) k2 ++ dm ++ (uv k2) ++ (uv ((W (Fld.mk ab ac ae af aa ag ah ai) (Tree.at_ (Tree.mk n1 s2 b3 l4 u5) q)).length))) ++ bc (W (Fld.mk ab ac ae af aa ag ah ai) (Tree.at_ (Tree.mk n1 s2 b3 l4 u5) q))⟩:Rw) = brow aI aJ 5 (qaN W l (Tree.mk n1 s2 b3 l4 u5) k2 ++ dm ++ (uv k2) ++ (uv ((W (Fld.mk ab ac ae af aa ag ah ai) (Tree.at_ (Tree.mk n1 s2 b3 l4 u5) q)).length)) ++ (W (Fld.mk ab ac ae af aa ag ah ai) (Tree.at_ (Tree.mk n1 s2 b3 l4 u5) q))):=qcn (rfl) rfl
     obtain ⟨cd,gX⟩:=gU.rowEq 1 [brow A_ c_ 5 (qaZ W l v (Tree.mk n1 s2 b3 l4 u5) 0),brow aI aJ 5 (qaN W l (Tree.mk n1 s2 b3 l4 u5) k2 ++ dm ++ (uv k2) ++ (uv ((W (Fld.mk ab ac ae af aa ag ah ai) (Tree.at_ (Tree.mk n1 s2 b3 l4 u5) q)).length)) ++ (W (Fld.mk ab ac ae af aa ag ah ai) (Tree.at_ (Tree.mk n1 s2 b3 l4 u5) q))),brow av aw 5 (W (Fld.mk ab ac ae af aa ag ah ai) (Tree.at_ (Tree.mk n1 s2 b3 l4 u5) q)),brow bH bI 5 (uv k2),brow cA cB 5 (uv ((W (Fld.mk ab ac ae af aa ag ah ai) (Tree.at_ (Tree.mk n1 s2 b3 l4 u5) q)).length))] gW
     have gY:=EnvOk.pick gV (ks:=[0,1,2,7,9,11,14,51,52,55,56,57,90,91,92]) (env':=[(0,.v (.slice A l.length c)),(1,.v (.int .i64 v)),(2,.v (.bool flex)),(7,.p 0 0),(9,.v (.slice A_ ((qaZ W l v (Tree.mk n1 s2 b3 l4 u5) 0).length) c_)),(11,.v (.int .i64 ((qa6 W l (Tree.mk n1 s2 b3 l4 u5) k2 + cn:Nat):Int))),(14,.v (.int .i64 ((k2:Nat):Int))),(51,.v (.int .i64 (((qaD l).toNat:Nat):Int))),(52,.v (.int .i64 ((k2:Nat):Int))),(55,.v (.slice A l.length c)),(56,.v (.int .i64 ((l.length:Nat):Int))),(57,.v (.int .i64 ((q:Nat):Int))),(90,.v (.slice aZ ((qaN W l (Tree.mk n1 s2 b3 l4 u5) k2 ++ dm ++ (uv k2) ++ (uv ((W (Fld.mk ab ac ae af aa ag ah ai) (Tree.at_ (Tree.mk n1 s2 b3 l4 u5) q)).length))).length) ba)),(91,.v (.slice av ((W (Fld.mk ab ac ae af aa ag ah ai) (Tree.at_ (Tree.mk n1 s2 b3 l4 u5) q)).length) aw)),(92,.v (.slice aI ((qaN W l (Tree.mk n1 s2 b3 l4 u5) k2 ++ dm ++ (uv k2) ++ (uv ((W (Fld.mk ab ac ae af aa ag ah ai) (Tree.at_ (Tree.mk n1 s2 b3 l4 u5) q)).length))).length + (W (Fld.mk ab ac ae af aa ag ah ai) (Tree.at_ (Tree.mk n1 s2 b3 l4 u5) q)).length) aJ))]) kz
     have gZ:=gY.cast (env':=[(0,.v (.slice A l.length c)),(1,.v (.int .i64 v)),(2,.v (.bool flex)),(7,.p 0 0),(9,.v (.slice A_ ((qaZ W l v (Tree.mk n1 s2 b3 l4 u5) 0).length) c_)),(11,.v (.int .i64 ((qa6 W l (Tree.mk n1 s2 b3 l4 u5) k2 + cn:Nat):Int))),(14,.v (.int .i64 ((k2:Nat):Int))),(51,.v (.int .i64 (((qaD l).toNat:Nat):Int))),(52,.v (.int .i64 ((k2:Nat):Int))),(55,.v (.slice A l.length c)),(56,.v (.int .i64 ((l.length:Nat):Int))),(57,.v (.int .i64 ((q:Nat):Int))),(90,.v (.slice aZ ((qaN W l (Tree.mk n1 s2 b3 l4 u5) k2 ++ dm ++ (uv k2) ++ (uv ((W (Fld.mk ab ac ae af aa ag ah ai) (Tree.at_ (Tree.mk n1 s2 b3 l4 u5) q)).length))).length) ba)),(91,.v (.slice av ((W (Fld.mk ab ac ae af aa ag ah ai) (Tree.at_ (Tree.mk n1 s2 b3 l4 u5) q)).length) aw)),(92,.v (.slice aI ((qaN W l (Tree.mk n1 s2 b3 l4 u5) k2 ++ dm ++ (uv k2) ++ (uv ((W (Fld.mk ab ac ae af aa ag ah ai) (Tree.at_ (Tree.mk n1 s2 b3 l4 u5) q)).length)) ++ (W (Fld.mk ab ac ae af aa ag ah ai) (Tree.at_ (Tree.mk n1 s2 b3 l4 u5) q))).length) aJ))]) (by simp only [List.length_append,List.length_cons,List.length_nil,Nat.zero_add])
     refine qak [12] [] [(0,.v (.slice A l.length c)),(1,.v (.int .i64 v)),(2,.v (.bool flex)),(7,.p 0 0),(9,.v (.slice A_ ((qaZ W l v (Tree.mk n1 s2 b3 l4 u5) 0).length) c_)),(10,.v (.slice aI ((qaN W l (Tree.mk n1 s2 b3 l4 u5) k2 ++ dm ++ (uv k2) ++ (uv ((W (Fld.mk ab ac ae af aa ag ah ai) (Tree.at_ (Tree.mk n1 s2 b3 l4 u5) q)).length)) ++ (W (Fld.mk ab ac ae af aa ag ah ai) (Tree.at_ (Tree.mk n1 s2 b3 l4 u5) q))).length) aJ)),(11,.v (.int .i64 ((qa6 W l (Tree.mk n1 s2 b3 l4 u5) k2 + cn:Nat):Int))),(14,.v (.int .i64 ((k2:Nat):Int))),(51,.v (.int .i64 (((qaD l).toNat:Nat):Int))),(52,.v (.int .i64 ((k2:Nat):Int))),(55,.v (.slice A l.length c)),(56,.v (.int .i64 ((l.length:Nat):Int))),(57,.v (.int .i64 ((q:Nat):Int)))] cd gZ fun nV g9=>?_
     refine qag (qab ?_)
     refine qau [0,1,2] kz ?_
     refine qak [0,1,2] [] [(0,.v (.slice A l.length c)),(1,.v (.int .i64 v)),(2,.v (.bool flex)),(7,.p 0 0),(9,.v (.slice A_ ((qaZ W l v (Tree.mk n1 s2 b3 l4 u5) 0).length) c_)),(10,.v (.slice aI ((qaN W l (Tree.mk n1 s2 b3 l4 u5) k2 ++ dm ++ (uv k2) ++ (uv ((W (Fld.mk ab ac ae af aa ag ah ai) (Tree.at_ (Tree.mk n1 s2 b3 l4 u5) q)).length)) ++ (W (Fld.mk ab ac ae af aa ag ah ai) (Tree.at_ (Tree.mk n1 s2 b3 l4 u5) q))).length) aJ)),(11,.v (.int .i64 (IntKind.i64.wrap (((qa6 W l (Tree.mk n1 s2 b3 l4 u5) k2 + cn:Nat):Int) + 1)))),(14,.v (.int .i64 ((k2:Nat):Int))),(51,.v (.int .i64 (((qaD l).toNat:Nat):Int))),(52,.v (.int .i64 ((k2:Nat):Int))),(55,.v (.slice A l.length c)),(56,.v (.int .i64 ((l.length:Nat):Int))),(57,.v (.int .i64 ((q:Nat):Int)))] cd g9 fun nW hC=>?_
     refine qag (qav (qab (qau [0,1] kz ?_)))
     refine qak [0,1] [] [(0,.v (.slice A l.length c)),(1,.v (.int .i64 v)),(2,.v (.bool flex)),(7,.p 0 0),(9,.v (.slice A_ ((qaZ W l v (Tree.mk n1 s2 b3 l4 u5) 0).length) c_)),(10,.v (.slice aI ((qaN W l (Tree.mk n1 s2 b3 l4 u5) k2 ++ dm ++ (uv k2) ++ (uv ((W (Fld.mk ab ac ae af aa ag ah ai) (Tree.at_ (Tree.mk n1 s2 b3 l4 u5) q)).length)) ++ (W (Fld.mk ab ac ae af aa ag ah ai) (Tree.at_ (Tree.mk n1 s2 b3 l4 u5) q))).length) aJ)),(11,.v (.int .i64 (IntKind.i64.wrap (((qa6 W l (Tree.mk n1 s2 b3 l4 u5) k2 + cn:Nat):Int) + 1)))),(14,.v (.int .i64 ((k2:Nat):Int))),(51,.v (.int .i64 (((qaD l).toNat:Nat):Int))),(52,.v (.int .i64 ((k2:Nat):Int))),(55,.v (.slice A l.length c)),(56,.v (.int .i64 ((l.length:Nat):Int))),(57,.v (.int .i64 (IntKind.i64.wrap (((q:Nat):Int) + 1))))] cd hC fun nX hJ=>?_
     refine qag (qab ?_)
     obtain ⟨ce,hK,hZ⟩:=cd.cutB hJ 1 (z92 cH n1 A6 s2.length c7 b3 A8 l4.length c9 aU u5.length aV) [(0,.v (.slice A l.length c)),(1,.v (.int .i64 v)),(2,.v (.bool flex)),(7,.p 0 0),(9,.v (.slice A_ ((qaZ W l v (Tree.mk n1 s2 b3 l4 u5) 0).length) c_)),(10,.v (.slice aI ((qaN W l (Tree.mk n1 s2 b3 l4 u5) k2 ++ dm ++ (uv k2) ++ (uv ((W (Fld.mk ab ac ae af aa ag ah ai) (Tree.at_ (Tree.mk n1 s2 b3 l4 u5) q)).length)) ++ (W (Fld.mk ab ac ae af aa ag ah ai) (Tree.at_ (Tree.mk n1 s2 b3 l4 u5) q))).length) aJ)),(11,.v (.int .i64 (IntKind.i64.wrap (((qa6 W l (Tree.mk n1 s2 b3 l4 u5) k2 + cn:Nat):Int) + 1)))),(14,.v (.int .i64 ((k2:Nat):Int))),(51,.v (.int .i64 (((qaD l).toNat:Nat):Int))),(52,.v (.int .i64 ((k2:Nat):Int))),(55,.v (.slice A l.length c)),(56,.v (.int .i64 ((l.length:Nat):Int))),(57,.v (.int .i64 (IntKind.i64.wrap (((q:Nat):Int) + 1))))]
     obtain ⟨ia,ib⟩:=hK.cutR 2 [brow A_ c_ 5 (qaZ W l v (Tree.mk n1 s2 b3 l4 u5) 0),brow aI aJ 5 (qaN W l (Tree.mk n1 s2 b3 l4 u5) k2 ++ dm ++ (uv k2) ++ (uv ((W (Fld.mk ab ac ae af aa ag ah ai) (Tree.at_ (Tree.mk n1 s2 b3 l4 u5) q)).length)) ++ (W (Fld.mk ab ac ae af aa ag ah ai) (Tree.at_ (Tree.mk n1 s2 b3 l4 u5) q)))]
     have dZ:(qaN W l (Tree.mk n1 s2 b3 l4 u5) k2 ++ dm ++ (uv k2) ++ (uv ((W (Fld.mk ab ac ae af aa ag ah ai) (Tree.at_ (Tree.mk n1 s2 b3 l4 u5) q)).length)) ++ (W (Fld.mk ab ac ae af aa ag ah ai) (Tree.at_ (Tree.mk n1 s2 b3 l4 u5) q))) = (qaN W l (Tree.mk n1 s2 b3 l4 u5) k2 ++ (dm ++ (uv k2 ++ uv (W (Fld.mk ab ac ae af aa ag ah ai) (Tree.at_ (Tree.mk n1 s2 b3 l4 u5) q)).length ++ W (Fld.mk ab ac ae af aa ag ah ai) (Tree.at_ (Tree.mk n1 s2 b3 l4 u5) q)))):=by simp only [List.append_assoc]
     have ic:=congrArg (brow aI aJ 5) dZ
     obtain ⟨ig,ii⟩:=ia.rowEq 1 [brow A_ c_ 5 (qaZ W l v (Tree.mk n1 s2 b3 l4 u5) 0),brow aI aJ 5 (qaN W l (Tree.mk n1 s2 b3 l4 u5) k2 ++ (dm ++ (uv k2 ++ uv (W (Fld.mk ab ac ae af aa ag ah ai) (Tree.at_ (Tree.mk n1 s2 b3 l4 u5) q)).length ++ W (Fld.mk ab ac ae af aa ag ah ai) (Tree.at_ (Tree.mk n1 s2 b3 l4 u5) q))))] ic
     rw [dZ] at ce
     have ij:IntKind.i64.wrap (((q:Nat):Int) + 1) = ((q + 1:Nat):Int):=qaS (by omega)
     rw [ij] at ce
     have ik:IntKind.i64.wrap (((qa6 W l (Tree.mk n1 s2 b3 l4 u5) k2 + cn:Nat):Int) + 1) = ((qa6 W l (Tree.mk n1 s2 b3 l4 u5) k2 + (cn + 1):Nat):Int):=by rw [wrap_i64 (by omega) (by omega)]; omega
     rw [ik] at ce
     exact ⟨l.length - (q + 1),by omega,q + 1,aI,aJ,(dm ++ (uv k2 ++ uv (W (Fld.mk ab ac ae af aa ag ah ai) (Tree.at_ (Tree.mk n1 s2 b3 l4 u5) q)).length ++ W (Fld.mk ab ac ae af aa ag ah ai) (Tree.at_ (Tree.mk n1 s2 b3 l4 u5) q))),(cn + 1),rfl,by omega,by rw [List.append_assoc,← qer ap (by omega) (by simpa using ay)]; exact hB2,by rw [Nat.add_assoc,← qkA ap (by omega) (by simpa using ay)]; exact hN2,ce.pk,ig,(((((((((((((((((((bT.trans cW).trans cX).trans cY).trans bV).trans da).trans f8).trans df).trans dX).trans gv).trans gw).trans gA).trans gK).trans gL).trans gP).trans gT).trans gX).trans hZ).trans ib).trans ii)⟩
    refine wp_skip (qav (qab (qau [0,1] kz ?_)))
    refine qak [0,1] [] [(0,.v (.slice A l.length c)),(1,.v (.int .i64 v)),(2,.v (.bool flex)),(7,.p 0 0),(9,.v (.slice A_ ((qaZ W l v (Tree.mk n1 s2 b3 l4 u5) 0).length) c_)),(10,.v (.slice A3_ ((qaN W l (Tree.mk n1 s2 b3 l4 u5) k2 ++ dm).length) c3_)),(11,.v (.int .i64 ((qa6 W l (Tree.mk n1 s2 b3 l4 u5) k2 + cn:Nat):Int))),(14,.v (.int .i64 ((k2:Nat):Int))),(51,.v (.int .i64 (((qaD l).toNat:Nat):Int))),(52,.v (.int .i64 ((k2:Nat):Int))),(55,.v (.slice A l.length c)),(56,.v (.int .i64 ((l.length:Nat):Int))),(57,.v (.int .i64 (IntKind.i64.wrap (((q:Nat):Int) + 1))))] bW db fun nY il=>?_
    refine qag (qab ?_)
    obtain ⟨d5,im,io⟩:=bW.cutB il 1 (z92 cH n1 A6 s2.length c7 b3 A8 l4.length c9 aU u5.length aV) [(0,.v (.slice A l.length c)),(1,.v (.int .i64 v)),(2,.v (.bool flex)),(7,.p 0 0),(9,.v (.slice A_ ((qaZ W l v (Tree.mk n1 s2 b3 l4 u5) 0).length) c_)),(10,.v (.slice A3_ ((qaN W l (Tree.mk n1 s2 b3 l4 u5) k2 ++ dm).length) c3_)),(11,.v (.int .i64 ((qa6 W l (Tree.mk n1 s2 b3 l4 u5) k2 + cn:Nat):Int))),(14,.v (.int .i64 ((k2:Nat):Int))),(51,.v (.int .i64 (((qaD l).toNat:Nat):Int))),(52,.v (.int .i64 ((k2:Nat):Int))),(55,.v (.slice A l.length c)),(56,.v (.int .i64 ((l.length:Nat):Int))),(57,.v (.int .i64 (IntKind.i64.wrap (((q:Nat):Int) + 1))))]
    have ip:IntKind.i64.wrap (((q:Nat):Int) + 1) = ((q + 1:Nat):Int):=qaS (by omega)
    rw [ip] at d5
    exact ⟨l.length - (q + 1),by omega,q + 1,A3_,c3_,dm,cn,rfl,by omega,by rw [← qjE ap (by simpa using ay)]; exact hB2,by rw [← qjG ap (by simpa using ay)]; exact hN2,d5.pk,im,((((((bT.trans cW).trans cX).trans cY).trans bV).trans da).trans io)⟩
   have lK:aa ≠ ((k2:Nat):Int):=by simpa using bp
   have iq:=dU.cast (env':=[(0,.v (.slice A l.length c)),(1,.v (.int .i64 v)),(2,.v (.bool flex)),(7,.p 0 0),(9,.v (.slice A_ ((qaZ W l v (Tree.mk n1 s2 b3 l4 u5) 0).length) c_)),(10,.v (.slice A3_ ((qaN W l (Tree.mk n1 s2 b3 l4 u5) k2 ++ dm).length) c3_)),(11,.v (.int .i64 ((qa6 W l (Tree.mk n1 s2 b3 l4 u5) k2 + cn:Nat):Int))),(14,.v (.int .i64 ((k2:Nat):Int))),(15,.v (.int .i64 ((q:Nat):Int))),(16,.p 1 0),(51,.v (.int .i64 (((qaD l).toNat:Nat):Int))),(52,.v (.int .i64 ((k2:Nat):Int))),(55,.v (.slice A l.length c)),(56,.v (.int .i64 ((l.length:Nat):Int))),(57,.v (.int .i64 ((q:Nat):Int))),(66,.v (.bool false))]) (by rw [bp])
   refine qaF [5,6,7,8,9,10,11] [(0,.v (.slice A l.length c)),(1,.v (.int .i64 v)),(2,.v (.bool flex)),(7,.p 0 0),(9,.v (.slice A_ ((qaZ W l v (Tree.mk n1 s2 b3 l4 u5) 0).length) c_)),(10,.v (.slice A3_ ((qaN W l (Tree.mk n1 s2 b3 l4 u5) k2 ++ dm).length) c3_)),(11,.v (.int .i64 ((qa6 W l (Tree.mk n1 s2 b3 l4 u5) k2 + cn:Nat):Int))),(14,.v (.int .i64 ((k2:Nat):Int))),(15,.v (.int .i64 ((q:Nat):Int))),(16,.p 1 0),(51,.v (.int .i64 (((qaD l).toNat:Nat):Int))),(52,.v (.int .i64 ((k2:Nat):Int))),(55,.v (.slice A l.length c)),(56,.v (.int .i64 ((l.length:Nat):Int))),(57,.v (.int .i64 ((q:Nat):Int))),(73,.v (.bool false))] 0 (qaa (qac (qaa (qaa (qac (qac (qaa (qaa (qac (qaa qae)))))))))) (fun _ h=>h.cells) cZ iq fun nZ d6=>?_
   refine qaC kz ?_ _
   refine qab (qaq d6 (b:=false) kz rfl ?_)
   refine wp_skip (qav (qab (qau [0,1] kz ?_)))
   refine qak [0,1] [] [(0,.v (.slice A l.length c)),(1,.v (.int .i64 v)),(2,.v (.bool flex)),(7,.p 0 0),(9,.v (.slice A_ ((qaZ W l v (Tree.mk n1 s2 b3 l4 u5) 0).length) c_)),(10,.v (.slice A3_ ((qaN W l (Tree.mk n1 s2 b3 l4 u5) k2 ++ dm).length) c3_)),(11,.v (.int .i64 ((qa6 W l (Tree.mk n1 s2 b3 l4 u5) k2 + cn:Nat):Int))),(14,.v (.int .i64 ((k2:Nat):Int))),(51,.v (.int .i64 (((qaD l).toNat:Nat):Int))),(52,.v (.int .i64 ((k2:Nat):Int))),(55,.v (.slice A l.length c)),(56,.v (.int .i64 ((l.length:Nat):Int))),(57,.v (.int .i64 (IntKind.i64.wrap (((q:Nat):Int) + 1))))] aN d6 fun n4 ir=>?_
   refine qag (qab ?_)
   obtain ⟨d7,iu,iv⟩:=aN.cutB ir 1 (z92 cH n1 A6 s2.length c7 b3 A8 l4.length c9 aU u5.length aV) [(0,.v (.slice A l.length c)),(1,.v (.int .i64 v)),(2,.v (.bool flex)),(7,.p 0 0),(9,.v (.slice A_ ((qaZ W l v (Tree.mk n1 s2 b3 l4 u5) 0).length) c_)),(10,.v (.slice A3_ ((qaN W l (Tree.mk n1 s2 b3 l4 u5) k2 ++ dm).length) c3_)),(11,.v (.int .i64 ((qa6 W l (Tree.mk n1 s2 b3 l4 u5) k2 + cn:Nat):Int))),(14,.v (.int .i64 ((k2:Nat):Int))),(51,.v (.int .i64 (((qaD l).toNat:Nat):Int))),(52,.v (.int .i64 ((k2:Nat):Int))),(55,.v (.slice A l.length c)),(56,.v (.int .i64 ((l.length:Nat):Int))),(57,.v (.int .i64 (IntKind.i64.wrap (((q:Nat):Int) + 1))))]
   have iw:IntKind.i64.wrap (((q:Nat):Int) + 1) = ((q + 1:Nat):Int):=qaS (by omega)
   rw [iw] at d7
   exact ⟨l.length - (q + 1),by omega,q + 1,A3_,c3_,dm,cn,rfl,by omega,by rw [← qjD ap (by omega)]; exact hB2,by rw [← qjF ap (by omega)]; exact hN2,d7.pk,iu,((((bT.trans cW).trans cX).trans cY).trans iv)⟩
  have lL:=of_decide_eq_false cT
  refine wp_exit (qay (qay (qaQ (qav (qab (qau [0,1] kz ?_))))))
  refine qak [0,1] [] [(0,.v (.slice A l.length c)),(1,.v (.int .i64 v)),(2,.v (.bool flex)),(7,.p 0 0),(9,.v (.slice A_ ((qaZ W l v (Tree.mk n1 s2 b3 l4 u5) 0).length) c_)),(10,.v (.slice A3_ ((qaN W l (Tree.mk n1 s2 b3 l4 u5) k2 ++ dm).length) c3_)),(11,.v (.int .i64 ((qa6 W l (Tree.mk n1 s2 b3 l4 u5) k2 + cn:Nat):Int))),(51,.v (.int .i64 (((qaD l).toNat:Nat):Int))),(52,.v (.int .i64 (IntKind.i64.wrap (((k2:Nat):Int) + 1))))] aY cS fun n5 cm=>?_
  refine qag (qab ?_)
  have d8:(qaN W l (Tree.mk n1 s2 b3 l4 u5) k2 ++ dm) = (qaN W l (Tree.mk n1 s2 b3 l4 u5) (k2 + 1)):=by rw [qaN,← hB2,qkz (by omega),List.append_nil]
  have ix:=congrArg (brow A3_ c3_ 5) d8
  obtain ⟨iy,iz⟩:=aY.rowEq 1 [brow A_ c_ 5 (qaZ W l v (Tree.mk n1 s2 b3 l4 u5) 0),brow A3_ c3_ 5 (qaN W l (Tree.mk n1 s2 b3 l4 u5) (k2 + 1))] ix
  rw [d8] at cm
  have iA:IntKind.i64.wrap (((k2:Nat):Int) + 1) = ((k2 + 1:Nat):Int):=qaS (by omega)
  rw [iA] at cm
  have iB:((qa6 W l (Tree.mk n1 s2 b3 l4 u5) k2 + cn:Nat):Int) = ((qa6 W l (Tree.mk n1 s2 b3 l4 u5) (k2 + 1):Nat):Int):=by rw [qa6,← hN2,qkB (by omega),Nat.add_zero]
  rw [iB] at cm
  exact ⟨(qaD l).toNat - (k2 + 1),by omega,k2 + 1,A3_,c3_,rfl,by omega,cm.pk,iy,(((fJ.trans fM).trans bT).trans iz)⟩
 have lM:=of_decide_eq_false cR
 refine wp_exit (qay (qay (qaQ (qab (wp_seq (qaf [0,1,2,3,4,5] kz ?_))))))
 refine qak [0,1,2] [3,4,5] [(9,.v (.slice A_ ((qaZ W l v (Tree.mk n1 s2 b3 l4 u5) 0).length) c_)),(10,.v (.slice A2_ ((qaN W l (Tree.mk n1 s2 b3 l4 u5) k2).length) c2_)),(11,.v (.int .i64 ((qa6 W l (Tree.mk n1 s2 b3 l4 u5) k2:Nat):Int))),(97,.v (.slice A l.length c)),(99,.v (.slice aU u5.length aV))] ao cQ fun n8 iC=>?_
 refine qan (qal iC (f:=35) (vs:=[.slice A l.length c,.slice aU u5.length aV]) (d:=100) kz Tryz.call35 (qgP _ _ l _ _ u5 _ _ ⟨xfs,(h1.move ao.step nilM ao.imm),(fun i_ x_ h_=>((h2 i_ x_ h_).move ao.step nilM ao.imm))⟩ (l7.move ao.step nilM ao.imm)) ?_)
 rintro e_ oa ⟨al,am,rfl,iD,di⟩
 have iE:=iD.move (Step.refl _ Nil) nilM (ao.laid (G:=F) di)
 refine ⟨_,rfl,fun od iF=>?_⟩
 have d9:=ao.next_nil di
 have lN:=ao.frN di
 refine qak [4,5] [] [(9,.v (.slice A_ ((qaZ W l v (Tree.mk n1 s2 b3 l4 u5) 0).length) c_)),(10,.v (.slice A2_ ((qaN W l (Tree.mk n1 s2 b3 l4 u5) k2).length) c2_)),(11,.v (.int .i64 ((qa6 W l (Tree.mk n1 s2 b3 l4 u5) k2:Nat):Int))),(100,.v (.slice al ((qaj l u5).length) am)),(101,.v (.int .i64 (((qaj l u5).length:Nat):Int))),(102,.v (.int .i64 0))] d9 iF fun oe ea=>?_
 refine qag (qab ?_)
 refine wp_block ?_
 obtain ⟨lO,iG,k8⟩:=iE.ex
 have k9:=iG.small
 have hkk2:k2 = (qaD l).toNat:=by omega
 have hc2:=hcnt k2
 have hm2:=hmono k2 (by omega)
 have eb:(qaN W l (Tree.mk n1 s2 b3 l4 u5) k2) = (qaN W l (Tree.mk n1 s2 b3 l4 u5) k2 ++ qbn ((qaj l u5).take 0)):=(List.append_nil _).symm
 have iH:=congrArg (brow A2_ c2_ 5) eb
 obtain ⟨ec,aM⟩:=d9.rowEq 1 [brow A_ c_ 5 (qaZ W l v (Tree.mk n1 s2 b3 l4 u5) 0),brow A2_ c2_ 5 (qaN W l (Tree.mk n1 s2 b3 l4 u5) k2 ++ qbn ((qaj l u5).take 0))] iH
 rw [eb] at ea
 refine wp_loop_ghost (fun n_ a_ w_=>∃ (k:Nat) (A4_:Option Addr) (c4_:Nat),n_ = (qaj l u5).length - k ∧ k ≤ (qaj l u5).length ∧ LInv ec 132 [⟨cH,0,[.int .i64 n1,.slice A6 s2.length c7,.bool b3,.slice A8 l4.length c9,.slice aU u5.length aV],true⟩] [brow A_ c_ 5 (qaZ W l v (Tree.mk n1 s2 b3 l4 u5) 0),brow A4_ c4_ 5 (qaN W l (Tree.mk n1 s2 b3 l4 u5) k2 ++ qbn ((qaj l u5).take k))] [(9,.v (.slice A_ ((qaZ W l v (Tree.mk n1 s2 b3 l4 u5) 0).length) c_)),(10,.v (.slice A4_ ((qaN W l (Tree.mk n1 s2 b3 l4 u5) k2 ++ qbn ((qaj l u5).take k)).length) c4_)),(11,.v (.int .i64 ((qa6 W l (Tree.mk n1 s2 b3 l4 u5) k2 + k:Nat):Int))),(100,.v (.slice al ((qaj l u5).length) am)),(101,.v (.int .i64 (((qaj l u5).length:Nat):Int))),(102,.v (.int .i64 ((k:Nat):Int)))] a_ w_) ((qaj l u5).length) ⟨0,A2_,c2_,by omega,by omega,ea.pk,ec,Fr.refl _ _ _⟩ ?_
 rintro og oh ol ⟨k,A4_,c4_,lP,lQ,iI,cq,aH⟩
 refine qas [(9,.v (.slice A_ ((qaZ W l v (Tree.mk n1 s2 b3 l4 u5) 0).length) c_)),(10,.v (.slice A4_ ((qaN W l (Tree.mk n1 s2 b3 l4 u5) k2 ++ qbn ((qaj l u5).take k)).length) c4_)),(11,.v (.int .i64 ((qa6 W l (Tree.mk n1 s2 b3 l4 u5) k2 + k:Nat):Int))),(100,.v (.slice al ((qaj l u5).length) am)),(101,.v (.int .i64 (((qaj l u5).length:Nat):Int))),(102,.v (.int .i64 ((k:Nat):Int))),(103,.v (.bool (decide (((k:Nat):Int) < (((qaj l u5).length:Nat):Int)))))] cq iI fun om dj=>?_
 refine wp_seq (qax dj (b:=decide (((k:Nat):Int) < (((qaj l u5).length:Nat):Int))) kz (fun dl=>?_) (fun dl=>?_))
 ·
  have lR:=of_decide_eq_true dl
  refine wp_skip (qab (wp_seq (wp_block (qaf [0,1,2,3] kz ?_))))
  obtain ⟨la,lb,iJ,lS,dp⟩:=Slots.get iG (i:=k) (by omega)
  obtain ⟨⟨ak,aj⟩,bx⟩:∃ x,(qaj l u5)[k]? = some x:=⟨_,List.getElem?_eq_getElem (by omega)⟩
  obtain ⟨⟨ar,au,eH,dq⟩,oq,ot⟩:=k8 k ak aj bx
  rw [eH] at dp
  refine qan (qaB dj (t:=24) (A:=al) (m:=((qaj l u5).length)) (q:=((k:Nat):Int)) (d:=104) kz (e:=66) (size:=2) (bytes:=32) kz iJ rfl (by omega) fun ou iK=>?_)
  refine qan (qaW iK (t:=66) (b:=la) (o:=lb + k * 2) (d:=105) kz (cs:=(z40 ak ar aj.length au)) (v:=.agg #[.int .u32 ak,.slice ar aj.length au]) kz (AtF.move dp (aM.trans aH).step immM (aM.trans aH).to').at_ fun ov iL=>?_)
  refine qan (qaM cq iL (d:=19) (cs:=z42) kz fun ow ox oy lT lU aQ iM iN=>?_)
  refine qan (qao iM iN (oi:=1) (cs:=(z40 ak ar aj.length au)) kz fun oz aR dr iO=>?_)
  refine qag (qab ?_)
  refine qaf [0,1,2,3] kz ?_
  refine qak [0,1] [2,3] [(9,.v (.slice A_ ((qaZ W l v (Tree.mk n1 s2 b3 l4 u5) 0).length) c_)),(10,.v (.slice A4_ ((qaN W l (Tree.mk n1 s2 b3 l4 u5) k2 ++ qbn ((qaj l u5).take k)).length) c4_)),(11,.v (.int .i64 ((qa6 W l (Tree.mk n1 s2 b3 l4 u5) k2 + k:Nat):Int))),(19,.p 1 0),(100,.v (.slice al ((qaj l u5).length) am)),(101,.v (.int .i64 (((qaj l u5).length:Nat):Int))),(102,.v (.int .i64 ((k:Nat):Int))),(107,.v (.slice ar aj.length au))] dr iO fun oA iP=>?_
  have lc:=qbs aj
  refine qan (qal iP (f:=37) (vs:=[.slice ar aj.length au]) (d:=108) kz Tryz.call37 (qea _ _ aj (dq.move (((aM.trans aH).trans aQ).trans aR).step immM (((aM.trans aH).trans aQ).trans aR).to').le _) ?_)
  rintro e_ oB ⟨rfl,ee⟩
  refine ⟨_,rfl,fun oC iQ=>?_⟩
  have dt:=dr.next_nil ee
  have bz:=dr.frN ee
  refine qak [3] [] [(9,.v (.slice A_ ((qaZ W l v (Tree.mk n1 s2 b3 l4 u5) 0).length) c_)),(10,.v (.slice A4_ ((qaN W l (Tree.mk n1 s2 b3 l4 u5) k2 ++ qbn ((qaj l u5).take k)).length) c4_)),(11,.v (.int .i64 ((qa6 W l (Tree.mk n1 s2 b3 l4 u5) k2 + k:Nat):Int))),(19,.p 1 0),(20,.v (.slice ar ((qaG aj).length) au)),(100,.v (.slice al ((qaj l u5).length) am)),(101,.v (.int .i64 (((qaj l u5).length:Nat):Int))),(102,.v (.int .i64 ((k:Nat):Int)))] dt iQ fun oD iR=>?_
  refine qag (qab ?_)
  refine qaf [0,1,2,3,4,5,6,7,8,9,10,11,12,13] kz ?_
  refine qak [0,1,2,3] [4,5,6,7,8,9,10,11,12,13] [(9,.v (.slice A_ ((qaZ W l v (Tree.mk n1 s2 b3 l4 u5) 0).length) c_)),(11,.v (.int .i64 ((qa6 W l (Tree.mk n1 s2 b3 l4 u5) k2 + k:Nat):Int))),(20,.v (.slice ar ((qaG aj).length) au)),(100,.v (.slice al ((qaj l u5).length) am)),(101,.v (.int .i64 (((qaj l u5).length:Nat):Int))),(102,.v (.int .i64 ((k:Nat):Int))),(109,.v (.slice A4_ ((qaN W l (Tree.mk n1 s2 b3 l4 u5) k2 ++ qbn ((qaj l u5).take k)).length) c4_)),(112,.v (.int .u64 (IntKind.u64.wrap ak)))] dt iR fun oE iS=>?_
  have iT:IntKind.u64.wrap ak = ((ak.toNat:Nat):Int):=by simp only [qc6,qaA,qbZ,IntKind.wrap_i64,IntKind.wrap_i32]; omega
  have iU:=EnvOk.pick iS (ks:=[9,11,20,100,101,102,109,112]) (env':=[(9,.v (.slice A_ ((qaZ W l v (Tree.mk n1 s2 b3 l4 u5) 0).length) c_)),(11,.v (.int .i64 ((qa6 W l (Tree.mk n1 s2 b3 l4 u5) k2 + k:Nat):Int))),(20,.v (.slice ar ((qaG aj).length) au)),(100,.v (.slice al ((qaj l u5).length) am)),(101,.v (.int .i64 (((qaj l u5).length:Nat):Int))),(102,.v (.int .i64 ((k:Nat):Int))),(109,.v (.slice A4_ ((qaN W l (Tree.mk n1 s2 b3 l4 u5) k2 ++ qbn ((qaj l u5).take k)).length) c4_)),(112,.v (.int .u64 (IntKind.u64.wrap ak)))]) kz
  have iV:=iU
  rw [iT] at iV
  refine qan (qal iV (f:=64) (vs:=[.int .u64 ((ak.toNat:Nat):Int)]) (d:=113) kz Tryz.call64 (qev ak.toNat (by omega) _) ?_)
  rintro e_ oF ⟨bJ,bK,rfl,iW,iX⟩
  refine ⟨_,rfl,fun oG iY=>?_⟩
  obtain ⟨du,bA⟩:=dt.frFresh iX (brow bJ bK 5 (uv ak.toNat)) (Nat.le_refl _) iW
  refine qan (qaR du iY (k:=1) (d:=114) (t:=22) (e:=5) (size:=1) (bytes:=1) (A:=A4_) (As:=bJ) (m0:=((qaN W l (Tree.mk n1 s2 b3 l4 u5) k2 ++ qbn ((qaj l u5).take k)).length)) (c:=c4_) (m:=((uv ak.toNat).length)) (cs:=bK) (xs:=(bc (qaN W l (Tree.mk n1 s2 b3 l4 u5) k2 ++ qbn ((qaj l u5).take k)))) (news:=bc (uv ak.toNat)) kz kz rfl (qbI (du.own 2 _ rfl) (qdF _)) (qbQ (du.own 2 _ rfl)) (by have h_:=qgE (l:=(qaj l u5)) (k + 1); rw [qes bx] at h_; simp only [List.length_append] at h_ ⊢; omega) fun aS aT oH oI bB iZ i6=>?_)
  have i7:(⟨aS,aT,5,1,(qaN W l (Tree.mk n1 s2 b3 l4 u5) k2 ++ qbn ((qaj l u5).take k)).length + (uv ak.toNat).length,bc (qaN W l (Tree.mk n1 s2 b3 l4 u5) k2 ++ qbn ((qaj l u5).take k)) ++ bc (uv ak.toNat)⟩:Rw) = brow aS aT 5 (qaN W l (Tree.mk n1 s2 b3 l4 u5) k2 ++ qbn ((qaj l u5).take k) ++ (uv ak.toNat)):=qcn (rfl) rfl
  obtain ⟨ef,bC⟩:=iZ.rowEq 1 [brow A_ c_ 5 (qaZ W l v (Tree.mk n1 s2 b3 l4 u5) 0),brow aS aT 5 (qaN W l (Tree.mk n1 s2 b3 l4 u5) k2 ++ qbn ((qaj l u5).take k) ++ (uv ak.toNat)),brow bJ bK 5 (uv ak.toNat)] i7
  have ja:=EnvOk.pick i6 (ks:=[9,11,20,100,101,102,109,112,113,114]) (env':=[(9,.v (.slice A_ ((qaZ W l v (Tree.mk n1 s2 b3 l4 u5) 0).length) c_)),(11,.v (.int .i64 ((qa6 W l (Tree.mk n1 s2 b3 l4 u5) k2 + k:Nat):Int))),(20,.v (.slice ar ((qaG aj).length) au)),(100,.v (.slice al ((qaj l u5).length) am)),(101,.v (.int .i64 (((qaj l u5).length:Nat):Int))),(102,.v (.int .i64 ((k:Nat):Int))),(109,.v (.slice A4_ ((qaN W l (Tree.mk n1 s2 b3 l4 u5) k2 ++ qbn ((qaj l u5).take k)).length) c4_)),(112,.v (.int .u64 ((ak.toNat:Nat):Int))),(113,.v (.slice bJ ((uv ak.toNat).length) bK)),(114,.v (.slice aS ((qaN W l (Tree.mk n1 s2 b3 l4 u5) k2 ++ qbn ((qaj l u5).take k)).length + (uv ak.toNat).length) aT))]) kz
  have jb:=ja.cast (env':=[(9,.v (.slice A_ ((qaZ W l v (Tree.mk n1 s2 b3 l4 u5) 0).length) c_)),(11,.v (.int .i64 ((qa6 W l (Tree.mk n1 s2 b3 l4 u5) k2 + k:Nat):Int))),(20,.v (.slice ar ((qaG aj).length) au)),(100,.v (.slice al ((qaj l u5).length) am)),(101,.v (.int .i64 (((qaj l u5).length:Nat):Int))),(102,.v (.int .i64 ((k:Nat):Int))),(109,.v (.slice A4_ ((qaN W l (Tree.mk n1 s2 b3 l4 u5) k2 ++ qbn ((qaj l u5).take k)).length) c4_)),(112,.v (.int .u64 ((ak.toNat:Nat):Int))),(113,.v (.slice bJ ((uv ak.toNat).length) bK)),(114,.v (.slice aS ((qaN W l (Tree.mk n1 s2 b3 l4 u5) k2 ++ qbn ((qaj l u5).take k) ++ (uv ak.toNat)).length) aT))]) (by simp only [List.length_append,List.length_cons,List.length_nil,Nat.zero_add])
  refine qak [6,7,8] [9,10,11,12,13] [(9,.v (.slice A_ ((qaZ W l v (Tree.mk n1 s2 b3 l4 u5) 0).length) c_)),(11,.v (.int .i64 ((qa6 W l (Tree.mk n1 s2 b3 l4 u5) k2 + k:Nat):Int))),(20,.v (.slice ar ((qaG aj).length) au)),(100,.v (.slice al ((qaj l u5).length) am)),(101,.v (.int .i64 (((qaj l u5).length:Nat):Int))),(102,.v (.int .i64 ((k:Nat):Int))),(114,.v (.slice aS ((qaN W l (Tree.mk n1 s2 b3 l4 u5) k2 ++ qbn ((qaj l u5).take k) ++ (uv ak.toNat)).length) aT)),(117,.v (.int .u64 (IntKind.u64.wrap (((qaG aj).length:Nat):Int))))] ef jb fun oJ jc=>?_
  have jd:IntKind.u64.wrap (((qaG aj).length:Nat):Int) = (((qaG aj).length:Nat):Int):=by simp only [qc6,qaA,qbZ,IntKind.wrap_i64,IntKind.wrap_i32]; omega
  have je:=EnvOk.pick jc (ks:=[9,11,20,100,101,102,114,117]) (env':=[(9,.v (.slice A_ ((qaZ W l v (Tree.mk n1 s2 b3 l4 u5) 0).length) c_)),(11,.v (.int .i64 ((qa6 W l (Tree.mk n1 s2 b3 l4 u5) k2 + k:Nat):Int))),(20,.v (.slice ar ((qaG aj).length) au)),(100,.v (.slice al ((qaj l u5).length) am)),(101,.v (.int .i64 (((qaj l u5).length:Nat):Int))),(102,.v (.int .i64 ((k:Nat):Int))),(114,.v (.slice aS ((qaN W l (Tree.mk n1 s2 b3 l4 u5) k2 ++ qbn ((qaj l u5).take k) ++ (uv ak.toNat)).length) aT)),(117,.v (.int .u64 (IntKind.u64.wrap (((qaG aj).length:Nat):Int))))]) kz
  have jf:=je
  rw [jd] at jf
  refine qan (qal jf (f:=64) (vs:=[.int .u64 (((qaG aj).length:Nat):Int)]) (d:=118) kz Tryz.call64 (qev ((qaG aj).length) (by omega) _) ?_)
  rintro e_ oK ⟨cC,cD,rfl,jg,jh⟩
  refine ⟨_,rfl,fun oL ji=>?_⟩
  obtain ⟨dv,bD⟩:=ef.frFresh jh (brow cC cD 5 (uv ((qaG aj).length))) (Nat.le_refl _) jg
  refine qan (qaR dv ji (k:=1) (d:=119) (t:=22) (e:=5) (size:=1) (bytes:=1) (A:=aS) (As:=cC) (m0:=((qaN W l (Tree.mk n1 s2 b3 l4 u5) k2 ++ qbn ((qaj l u5).take k) ++ (uv ak.toNat)).length)) (c:=aT) (m:=((uv ((qaG aj).length)).length)) (cs:=cD) (xs:=(bc (qaN W l (Tree.mk n1 s2 b3 l4 u5) k2 ++ qbn ((qaj l u5).take k) ++ (uv ak.toNat)))) (news:=bc (uv ((qaG aj).length))) kz kz rfl (qbI (dv.own 3 _ rfl) (qdF _)) (qbQ (dv.own 3 _ rfl)) (by have h_:=qgE (l:=(qaj l u5)) (k + 1); rw [qes bx] at h_; simp only [List.length_append] at h_ ⊢; omega) fun bd bf oM oN bE jj jk=>?_)
  have jl:(⟨bd,bf,5,1,(qaN W l (Tree.mk n1 s2 b3 l4 u5) k2 ++ qbn ((qaj l u5).take k) ++ (uv ak.toNat)).length + (uv ((qaG aj).length)).length,bc (qaN W l (Tree.mk n1 s2 b3 l4 u5) k2 ++ qbn ((qaj l u5).take k) ++ (uv ak.toNat)) ++ bc (uv ((qaG aj).length))⟩:Rw) = brow bd bf 5 (qaN W l (Tree.mk n1 s2 b3 l4 u5) k2 ++ qbn ((qaj l u5).take k) ++ (uv ak.toNat) ++ (uv ((qaG aj).length))):=qcn (rfl) rfl
  obtain ⟨eg,bF⟩:=jj.rowEq 1 [brow A_ c_ 5 (qaZ W l v (Tree.mk n1 s2 b3 l4 u5) 0),brow bd bf 5 (qaN W l (Tree.mk n1 s2 b3 l4 u5) k2 ++ qbn ((qaj l u5).take k) ++ (uv ak.toNat) ++ (uv ((qaG aj).length))),brow bJ bK 5 (uv ak.toNat),brow cC cD 5 (uv ((qaG aj).length))] jl
  have jm:=EnvOk.pick jk (ks:=[9,11,20,100,101,102,114,117,118,119]) (env':=[(9,.v (.slice A_ ((qaZ W l v (Tree.mk n1 s2 b3 l4 u5) 0).length) c_)),(11,.v (.int .i64 ((qa6 W l (Tree.mk n1 s2 b3 l4 u5) k2 + k:Nat):Int))),(20,.v (.slice ar ((qaG aj).length) au)),(100,.v (.slice al ((qaj l u5).length) am)),(101,.v (.int .i64 (((qaj l u5).length:Nat):Int))),(102,.v (.int .i64 ((k:Nat):Int))),(114,.v (.slice aS ((qaN W l (Tree.mk n1 s2 b3 l4 u5) k2 ++ qbn ((qaj l u5).take k) ++ (uv ak.toNat)).length) aT)),(117,.v (.int .u64 (((qaG aj).length:Nat):Int))),(118,.v (.slice cC ((uv ((qaG aj).length)).length) cD)),(119,.v (.slice bd ((qaN W l (Tree.mk n1 s2 b3 l4 u5) k2 ++ qbn ((qaj l u5).take k) ++ (uv ak.toNat)).length + (uv ((qaG aj).length)).length) bf))]) kz
  have jn:=jm.cast (env':=[(9,.v (.slice A_ ((qaZ W l v (Tree.mk n1 s2 b3 l4 u5) 0).length) c_)),(11,.v (.int .i64 ((qa6 W l (Tree.mk n1 s2 b3 l4 u5) k2 + k:Nat):Int))),(20,.v (.slice ar ((qaG aj).length) au)),(100,.v (.slice al ((qaj l u5).length) am)),(101,.v (.int .i64 (((qaj l u5).length:Nat):Int))),(102,.v (.int .i64 ((k:Nat):Int))),(114,.v (.slice aS ((qaN W l (Tree.mk n1 s2 b3 l4 u5) k2 ++ qbn ((qaj l u5).take k) ++ (uv ak.toNat)).length) aT)),(117,.v (.int .u64 (((qaG aj).length:Nat):Int))),(118,.v (.slice cC ((uv ((qaG aj).length)).length) cD)),(119,.v (.slice bd ((qaN W l (Tree.mk n1 s2 b3 l4 u5) k2 ++ qbn ((qaj l u5).take k) ++ (uv ak.toNat) ++ (uv ((qaG aj).length))).length) bf))]) (by simp only [List.length_append,List.length_cons,List.length_nil,Nat.zero_add])
  refine qak [11] [12,13] [(9,.v (.slice A_ ((qaZ W l v (Tree.mk n1 s2 b3 l4 u5) 0).length) c_)),(11,.v (.int .i64 ((qa6 W l (Tree.mk n1 s2 b3 l4 u5) k2 + k:Nat):Int))),(100,.v (.slice al ((qaj l u5).length) am)),(101,.v (.int .i64 (((qaj l u5).length:Nat):Int))),(102,.v (.int .i64 ((k:Nat):Int))),(119,.v (.slice bd ((qaN W l (Tree.mk n1 s2 b3 l4 u5) k2 ++ qbn ((qaj l u5).take k) ++ (uv ak.toNat) ++ (uv ((qaG aj).length))).length) bf)),(120,.v (.slice ar ((qaG aj).length) au))] eg jn fun oO jo=>?_
  refine qan (qaR eg jo (k:=1) (d:=121) (t:=22) (e:=5) (size:=1) (bytes:=1) (A:=bd) (As:=ar) (m0:=((qaN W l (Tree.mk n1 s2 b3 l4 u5) k2 ++ qbn ((qaj l u5).take k) ++ (uv ak.toNat) ++ (uv ((qaG aj).length))).length)) (c:=bf) (m:=((qaG aj).length)) (cs:=au) (xs:=(bc (qaN W l (Tree.mk n1 s2 b3 l4 u5) k2 ++ qbn ((qaj l u5).take k) ++ (uv ak.toNat) ++ (uv ((qaG aj).length))))) (news:=bc (qaG aj)) kz kz rfl ((dq.take 32767).move ((((((((((aM.trans aH).trans aQ).trans aR).trans bz).trans bA).trans bB).trans bC).trans bD).trans bE).trans bF).step immM ((((((((((aM.trans aH).trans aQ).trans aR).trans bz).trans bA).trans bB).trans bC).trans bD).trans bE).trans bF).to').src ((dq.take 32767).move ((((((((((aM.trans aH).trans aQ).trans aR).trans bz).trans bA).trans bB).trans bC).trans bD).trans bE).trans bF).step immM ((((((((((aM.trans aH).trans aQ).trans aR).trans bz).trans bA).trans bB).trans bC).trans bD).trans bE).trans bF).to').cap (by have h_:=qgE (l:=(qaj l u5)) (k + 1); rw [qes bx] at h_; simp only [List.length_append] at h_ ⊢; omega) fun aK aL oP oQ jp jq jr=>?_)
  have js:(⟨aK,aL,5,1,(qaN W l (Tree.mk n1 s2 b3 l4 u5) k2 ++ qbn ((qaj l u5).take k) ++ (uv ak.toNat) ++ (uv ((qaG aj).length))).length + (qaG aj).length,bc (qaN W l (Tree.mk n1 s2 b3 l4 u5) k2 ++ qbn ((qaj l u5).take k) ++ (uv ak.toNat) ++ (uv ((qaG aj).length))) ++ bc (qaG aj)⟩:Rw) = brow aK aL 5 (qaN W l (Tree.mk n1 s2 b3 l4 u5) k2 ++ qbn ((qaj l u5).take k) ++ (uv ak.toNat) ++ (uv ((qaG aj).length)) ++ (qaG aj)):=qcn (rfl) rfl
  obtain ⟨cr,jt⟩:=jq.rowEq 1 [brow A_ c_ 5 (qaZ W l v (Tree.mk n1 s2 b3 l4 u5) 0),brow aK aL 5 (qaN W l (Tree.mk n1 s2 b3 l4 u5) k2 ++ qbn ((qaj l u5).take k) ++ (uv ak.toNat) ++ (uv ((qaG aj).length)) ++ (qaG aj)),brow bJ bK 5 (uv ak.toNat),brow cC cD 5 (uv ((qaG aj).length))] js
  have ju:=EnvOk.pick jr (ks:=[9,11,100,101,102,119,120,121]) (env':=[(9,.v (.slice A_ ((qaZ W l v (Tree.mk n1 s2 b3 l4 u5) 0).length) c_)),(11,.v (.int .i64 ((qa6 W l (Tree.mk n1 s2 b3 l4 u5) k2 + k:Nat):Int))),(100,.v (.slice al ((qaj l u5).length) am)),(101,.v (.int .i64 (((qaj l u5).length:Nat):Int))),(102,.v (.int .i64 ((k:Nat):Int))),(119,.v (.slice bd ((qaN W l (Tree.mk n1 s2 b3 l4 u5) k2 ++ qbn ((qaj l u5).take k) ++ (uv ak.toNat) ++ (uv ((qaG aj).length))).length) bf)),(120,.v (.slice ar ((qaG aj).length) au)),(121,.v (.slice aK ((qaN W l (Tree.mk n1 s2 b3 l4 u5) k2 ++ qbn ((qaj l u5).take k) ++ (uv ak.toNat) ++ (uv ((qaG aj).length))).length + (qaG aj).length) aL))]) kz
  have jv:=ju.cast (env':=[(9,.v (.slice A_ ((qaZ W l v (Tree.mk n1 s2 b3 l4 u5) 0).length) c_)),(11,.v (.int .i64 ((qa6 W l (Tree.mk n1 s2 b3 l4 u5) k2 + k:Nat):Int))),(100,.v (.slice al ((qaj l u5).length) am)),(101,.v (.int .i64 (((qaj l u5).length:Nat):Int))),(102,.v (.int .i64 ((k:Nat):Int))),(119,.v (.slice bd ((qaN W l (Tree.mk n1 s2 b3 l4 u5) k2 ++ qbn ((qaj l u5).take k) ++ (uv ak.toNat) ++ (uv ((qaG aj).length))).length) bf)),(120,.v (.slice ar ((qaG aj).length) au)),(121,.v (.slice aK ((qaN W l (Tree.mk n1 s2 b3 l4 u5) k2 ++ qbn ((qaj l u5).take k) ++ (uv ak.toNat) ++ (uv ((qaG aj).length)) ++ (qaG aj)).length) aL))]) (by simp only [List.length_append,List.length_cons,List.length_nil,Nat.zero_add])
  refine qak [13] [] [(9,.v (.slice A_ ((qaZ W l v (Tree.mk n1 s2 b3 l4 u5) 0).length) c_)),(10,.v (.slice aK ((qaN W l (Tree.mk n1 s2 b3 l4 u5) k2 ++ qbn ((qaj l u5).take k) ++ (uv ak.toNat) ++ (uv ((qaG aj).length)) ++ (qaG aj)).length) aL)),(11,.v (.int .i64 ((qa6 W l (Tree.mk n1 s2 b3 l4 u5) k2 + k:Nat):Int))),(100,.v (.slice al ((qaj l u5).length) am)),(101,.v (.int .i64 (((qaj l u5).length:Nat):Int))),(102,.v (.int .i64 ((k:Nat):Int)))] cr jv fun oR jw=>?_
  refine qag (qab ?_)
  refine qau [0,1,2] kz ?_
  refine qak [0,1,2] [] [(9,.v (.slice A_ ((qaZ W l v (Tree.mk n1 s2 b3 l4 u5) 0).length) c_)),(10,.v (.slice aK ((qaN W l (Tree.mk n1 s2 b3 l4 u5) k2 ++ qbn ((qaj l u5).take k) ++ (uv ak.toNat) ++ (uv ((qaG aj).length)) ++ (qaG aj)).length) aL)),(11,.v (.int .i64 (IntKind.i64.wrap (((qa6 W l (Tree.mk n1 s2 b3 l4 u5) k2 + k:Nat):Int) + 1)))),(100,.v (.slice al ((qaj l u5).length) am)),(101,.v (.int .i64 (((qaj l u5).length:Nat):Int))),(102,.v (.int .i64 ((k:Nat):Int)))] cr jw fun oS jx=>?_
  refine qag (qav (qab (qau [0,1] kz ?_)))
  refine qak [0,1] [] [(9,.v (.slice A_ ((qaZ W l v (Tree.mk n1 s2 b3 l4 u5) 0).length) c_)),(10,.v (.slice aK ((qaN W l (Tree.mk n1 s2 b3 l4 u5) k2 ++ qbn ((qaj l u5).take k) ++ (uv ak.toNat) ++ (uv ((qaG aj).length)) ++ (qaG aj)).length) aL)),(11,.v (.int .i64 (IntKind.i64.wrap (((qa6 W l (Tree.mk n1 s2 b3 l4 u5) k2 + k:Nat):Int) + 1)))),(100,.v (.slice al ((qaj l u5).length) am)),(101,.v (.int .i64 (((qaj l u5).length:Nat):Int))),(102,.v (.int .i64 (IntKind.i64.wrap (((k:Nat):Int) + 1))))] cr jx fun oT jy=>?_
  refine qag (qab ?_)
  obtain ⟨cu,jz,jA⟩:=cr.cutB jy 1 (z92 cH n1 A6 s2.length c7 b3 A8 l4.length c9 aU u5.length aV) [(9,.v (.slice A_ ((qaZ W l v (Tree.mk n1 s2 b3 l4 u5) 0).length) c_)),(10,.v (.slice aK ((qaN W l (Tree.mk n1 s2 b3 l4 u5) k2 ++ qbn ((qaj l u5).take k) ++ (uv ak.toNat) ++ (uv ((qaG aj).length)) ++ (qaG aj)).length) aL)),(11,.v (.int .i64 (IntKind.i64.wrap (((qa6 W l (Tree.mk n1 s2 b3 l4 u5) k2 + k:Nat):Int) + 1)))),(100,.v (.slice al ((qaj l u5).length) am)),(101,.v (.int .i64 (((qaj l u5).length:Nat):Int))),(102,.v (.int .i64 (IntKind.i64.wrap (((k:Nat):Int) + 1))))]
  obtain ⟨jB,jC⟩:=jz.cutR 2 [brow A_ c_ 5 (qaZ W l v (Tree.mk n1 s2 b3 l4 u5) 0),brow aK aL 5 (qaN W l (Tree.mk n1 s2 b3 l4 u5) k2 ++ qbn ((qaj l u5).take k) ++ (uv ak.toNat) ++ (uv ((qaG aj).length)) ++ (qaG aj))]
  have eh:(qaN W l (Tree.mk n1 s2 b3 l4 u5) k2 ++ qbn ((qaj l u5).take k) ++ (uv ak.toNat) ++ (uv ((qaG aj).length)) ++ (qaG aj)) = (qaN W l (Tree.mk n1 s2 b3 l4 u5) k2 ++ qbn ((qaj l u5).take (k + 1))):=by rw [qes bx]; simp only [List.append_assoc]
  have jD:=congrArg (brow aK aL 5) eh
  obtain ⟨jE,jF⟩:=jB.rowEq 1 [brow A_ c_ 5 (qaZ W l v (Tree.mk n1 s2 b3 l4 u5) 0),brow aK aL 5 (qaN W l (Tree.mk n1 s2 b3 l4 u5) k2 ++ qbn ((qaj l u5).take (k + 1)))] jD
  rw [eh] at cu
  have jG:IntKind.i64.wrap (((k:Nat):Int) + 1) = ((k + 1:Nat):Int):=qaS (by omega)
  rw [jG] at cu
  have jH:IntKind.i64.wrap (((qa6 W l (Tree.mk n1 s2 b3 l4 u5) k2 + k:Nat):Int) + 1) = ((qa6 W l (Tree.mk n1 s2 b3 l4 u5) k2 + (k + 1):Nat):Int):=by rw [wrap_i64 (by omega) (by omega)]; omega
  rw [jH] at cu
  exact ⟨(qaj l u5).length - (k + 1),by omega,k + 1,aK,aL,rfl,by omega,cu.pk,jE,((((((((((((((aH.trans aQ).trans aR).trans bz).trans bA).trans bB).trans bC).trans bD).trans bE).trans bF).trans jp).trans jt).trans jA).trans jC).trans jF)⟩
 have lV:=of_decide_eq_false dl
 refine wp_exit (qay (qay (qaQ (qab (qaf [0,1,2,3,4,5,6,7] kz ?_)))))
 refine qak [0,1,2] [3,4,5,6,7] [(10,.v (.slice A4_ ((qaN W l (Tree.mk n1 s2 b3 l4 u5) k2 ++ qbn ((qaj l u5).take k)).length) c4_)),(125,.v (.slice A_ ((qaZ W l v (Tree.mk n1 s2 b3 l4 u5) 0).length) c_)),(127,.v (.int .u64 (IntKind.u64.wrap ((qa6 W l (Tree.mk n1 s2 b3 l4 u5) k2 + k:Nat):Int))))] cq dj fun oU jI=>?_
 have jJ:IntKind.u64.wrap ((qa6 W l (Tree.mk n1 s2 b3 l4 u5) k2 + k:Nat):Int) = ((qa6 W l (Tree.mk n1 s2 b3 l4 u5) k2 + k:Nat):Int):=by simp only [qc6,qaA,qbZ,IntKind.wrap_i64,IntKind.wrap_i32]; omega
 have jK:=EnvOk.pick jI (ks:=[10,125,127]) (env':=[(10,.v (.slice A4_ ((qaN W l (Tree.mk n1 s2 b3 l4 u5) k2 ++ qbn ((qaj l u5).take k)).length) c4_)),(125,.v (.slice A_ ((qaZ W l v (Tree.mk n1 s2 b3 l4 u5) 0).length) c_)),(127,.v (.int .u64 (IntKind.u64.wrap ((qa6 W l (Tree.mk n1 s2 b3 l4 u5) k2 + k:Nat):Int))))]) kz
 have jL:=jK
 rw [jJ] at jL
 refine qan (qal jL (f:=64) (vs:=[.int .u64 ((qa6 W l (Tree.mk n1 s2 b3 l4 u5) k2 + k:Nat):Int)]) (d:=128) kz Tryz.call64 (qev (qa6 W l (Tree.mk n1 s2 b3 l4 u5) k2 + k) (by omega) _) ?_)
 rintro e_ oV ⟨cE,cG,rfl,jM,jN⟩
 refine ⟨_,rfl,fun oW jO=>?_⟩
 obtain ⟨dw,lW⟩:=cq.frFresh jN (brow cE cG 5 (uv (qa6 W l (Tree.mk n1 s2 b3 l4 u5) k2 + k))) (Nat.le_refl _) jM
 refine qan (qaR dw jO (k:=0) (d:=129) (t:=22) (e:=5) (size:=1) (bytes:=1) (A:=A_) (As:=cE) (m0:=((qaZ W l v (Tree.mk n1 s2 b3 l4 u5) 0).length)) (c:=c_) (m:=((uv (qa6 W l (Tree.mk n1 s2 b3 l4 u5) k2 + k)).length)) (cs:=cG) (xs:=(bc (qaZ W l v (Tree.mk n1 s2 b3 l4 u5) 0))) (news:=bc (uv (qa6 W l (Tree.mk n1 s2 b3 l4 u5) k2 + k))) kz kz rfl (qbI (dw.own 2 _ rfl) (qdF _)) (qbQ (dw.own 2 _ rfl)) (by have hkk3:k = (qaj l u5).length:=(by omega); subst hkk3; subst hkk2; simp only [List.length_append,List.take_length] at *; omega) fun bg bh oX oY lX jP jQ=>?_)
 have jR:(⟨bg,bh,5,1,(qaZ W l v (Tree.mk n1 s2 b3 l4 u5) 0).length + (uv (qa6 W l (Tree.mk n1 s2 b3 l4 u5) k2 + k)).length,bc (qaZ W l v (Tree.mk n1 s2 b3 l4 u5) 0) ++ bc (uv (qa6 W l (Tree.mk n1 s2 b3 l4 u5) k2 + k))⟩:Rw) = brow bg bh 5 (qaZ W l v (Tree.mk n1 s2 b3 l4 u5) 0 ++ (uv (qa6 W l (Tree.mk n1 s2 b3 l4 u5) k2 + k))):=qcn (rfl) rfl
 obtain ⟨cw,lY⟩:=jP.rowEq 0 [brow bg bh 5 (qaZ W l v (Tree.mk n1 s2 b3 l4 u5) 0 ++ (uv (qa6 W l (Tree.mk n1 s2 b3 l4 u5) k2 + k))),brow A4_ c4_ 5 (qaN W l (Tree.mk n1 s2 b3 l4 u5) k2 ++ qbn ((qaj l u5).take k)),brow cE cG 5 (uv (qa6 W l (Tree.mk n1 s2 b3 l4 u5) k2 + k))] jR
 have jS:=EnvOk.pick jQ (ks:=[10,125,127,128,129]) (env':=[(10,.v (.slice A4_ ((qaN W l (Tree.mk n1 s2 b3 l4 u5) k2 ++ qbn ((qaj l u5).take k)).length) c4_)),(125,.v (.slice A_ ((qaZ W l v (Tree.mk n1 s2 b3 l4 u5) 0).length) c_)),(127,.v (.int .u64 ((qa6 W l (Tree.mk n1 s2 b3 l4 u5) k2 + k:Nat):Int))),(128,.v (.slice cE ((uv (qa6 W l (Tree.mk n1 s2 b3 l4 u5) k2 + k)).length) cG)),(129,.v (.slice bg ((qaZ W l v (Tree.mk n1 s2 b3 l4 u5) 0).length + (uv (qa6 W l (Tree.mk n1 s2 b3 l4 u5) k2 + k)).length) bh))]) kz
 have jT:=jS.cast (env':=[(10,.v (.slice A4_ ((qaN W l (Tree.mk n1 s2 b3 l4 u5) k2 ++ qbn ((qaj l u5).take k)).length) c4_)),(125,.v (.slice A_ ((qaZ W l v (Tree.mk n1 s2 b3 l4 u5) 0).length) c_)),(127,.v (.int .u64 ((qa6 W l (Tree.mk n1 s2 b3 l4 u5) k2 + k:Nat):Int))),(128,.v (.slice cE ((uv (qa6 W l (Tree.mk n1 s2 b3 l4 u5) k2 + k)).length) cG)),(129,.v (.slice bg ((qaZ W l v (Tree.mk n1 s2 b3 l4 u5) 0 ++ (uv (qa6 W l (Tree.mk n1 s2 b3 l4 u5) k2 + k))).length) bh))]) (by simp only [List.length_append,List.length_cons,List.length_nil,Nat.zero_add])
 refine qak [5] [6,7] [(129,.v (.slice bg ((qaZ W l v (Tree.mk n1 s2 b3 l4 u5) 0 ++ (uv (qa6 W l (Tree.mk n1 s2 b3 l4 u5) k2 + k))).length) bh)),(130,.v (.slice A4_ ((qaN W l (Tree.mk n1 s2 b3 l4 u5) k2 ++ qbn ((qaj l u5).take k)).length) c4_))] cw jT fun oZ jU=>?_
 refine qan (qaR cw jU (k:=0) (d:=131) (t:=22) (e:=5) (size:=1) (bytes:=1) (A:=bg) (As:=A4_) (m0:=((qaZ W l v (Tree.mk n1 s2 b3 l4 u5) 0 ++ (uv (qa6 W l (Tree.mk n1 s2 b3 l4 u5) k2 + k))).length)) (c:=bh) (m:=((qaN W l (Tree.mk n1 s2 b3 l4 u5) k2 ++ qbn ((qaj l u5).take k)).length)) (cs:=c4_) (xs:=(bc (qaZ W l v (Tree.mk n1 s2 b3 l4 u5) 0 ++ (uv (qa6 W l (Tree.mk n1 s2 b3 l4 u5) k2 + k))))) (news:=bc (qaN W l (Tree.mk n1 s2 b3 l4 u5) k2 ++ qbn ((qaj l u5).take k))) kz kz rfl (qbI (cw.own 1 _ rfl) (qdF _)) (qbQ (cw.own 1 _ rfl)) (by have hkk3:k = (qaj l u5).length:=(by omega); subst hkk3; subst hkk2; simp only [List.length_append,List.take_length] at *; omega) fun bL bM o5 o6 lZ jV jW=>?_)
 have jX:(⟨bL,bM,5,1,(qaZ W l v (Tree.mk n1 s2 b3 l4 u5) 0 ++ (uv (qa6 W l (Tree.mk n1 s2 b3 l4 u5) k2 + k))).length + (qaN W l (Tree.mk n1 s2 b3 l4 u5) k2 ++ qbn ((qaj l u5).take k)).length,bc (qaZ W l v (Tree.mk n1 s2 b3 l4 u5) 0 ++ (uv (qa6 W l (Tree.mk n1 s2 b3 l4 u5) k2 + k))) ++ bc (qaN W l (Tree.mk n1 s2 b3 l4 u5) k2 ++ qbn ((qaj l u5).take k))⟩:Rw) = brow bL bM 5 (qaZ W l v (Tree.mk n1 s2 b3 l4 u5) 0 ++ (uv (qa6 W l (Tree.mk n1 s2 b3 l4 u5) k2 + k)) ++ (qaN W l (Tree.mk n1 s2 b3 l4 u5) k2 ++ qbn ((qaj l u5).take k))):=qcn (rfl) rfl
 obtain ⟨dx,l0⟩:=jV.rowEq 0 [brow bL bM 5 (qaZ W l v (Tree.mk n1 s2 b3 l4 u5) 0 ++ (uv (qa6 W l (Tree.mk n1 s2 b3 l4 u5) k2 + k)) ++ (qaN W l (Tree.mk n1 s2 b3 l4 u5) k2 ++ qbn ((qaj l u5).take k))),brow A4_ c4_ 5 (qaN W l (Tree.mk n1 s2 b3 l4 u5) k2 ++ qbn ((qaj l u5).take k)),brow cE cG 5 (uv (qa6 W l (Tree.mk n1 s2 b3 l4 u5) k2 + k))] jX
 have jY:=EnvOk.pick jW (ks:=[129,130,131]) (env':=[(129,.v (.slice bg ((qaZ W l v (Tree.mk n1 s2 b3 l4 u5) 0 ++ (uv (qa6 W l (Tree.mk n1 s2 b3 l4 u5) k2 + k))).length) bh)),(130,.v (.slice A4_ ((qaN W l (Tree.mk n1 s2 b3 l4 u5) k2 ++ qbn ((qaj l u5).take k)).length) c4_)),(131,.v (.slice bL ((qaZ W l v (Tree.mk n1 s2 b3 l4 u5) 0 ++ (uv (qa6 W l (Tree.mk n1 s2 b3 l4 u5) k2 + k))).length + (qaN W l (Tree.mk n1 s2 b3 l4 u5) k2 ++ qbn ((qaj l u5).take k)).length) bM))]) kz
 have jZ:=jY.cast (env':=[(129,.v (.slice bg ((qaZ W l v (Tree.mk n1 s2 b3 l4 u5) 0 ++ (uv (qa6 W l (Tree.mk n1 s2 b3 l4 u5) k2 + k))).length) bh)),(130,.v (.slice A4_ ((qaN W l (Tree.mk n1 s2 b3 l4 u5) k2 ++ qbn ((qaj l u5).take k)).length) c4_)),(131,.v (.slice bL ((qaZ W l v (Tree.mk n1 s2 b3 l4 u5) 0 ++ (uv (qa6 W l (Tree.mk n1 s2 b3 l4 u5) k2 + k)) ++ (qaN W l (Tree.mk n1 s2 b3 l4 u5) k2 ++ qbn ((qaj l u5).take k))).length) bM))]) (by simp only [List.length_append,List.length_cons,List.length_nil,Nat.zero_add])
 refine qak [7] [] [(8,.v (.slice bL ((qaZ W l v (Tree.mk n1 s2 b3 l4 u5) 0 ++ (uv (qa6 W l (Tree.mk n1 s2 b3 l4 u5) k2 + k)) ++ (qaN W l (Tree.mk n1 s2 b3 l4 u5) k2 ++ qbn ((qaj l u5).take k))).length) bM))] dx jZ fun o7 j0=>?_
 refine qag (qab ?_)
 refine wp_ret (qaK j0 dx.cells (v:=.slice bL ((qaZ W l v (Tree.mk n1 s2 b3 l4 u5) 0 ++ (uv (qa6 W l (Tree.mk n1 s2 b3 l4 u5) k2 + k)) ++ (qaN W l (Tree.mk n1 s2 b3 l4 u5) k2 ++ qbn ((qaj l u5).take k))).length) bM) kz ?_)
 have hkk3:k = (qaj l u5).length:=by omega
 exact qbu dx (k:=0) rfl (by rw [show flex = true by simpa using bS,qgm,hkk3,hkk2,List.take_length])
theorem qhW:∀ d,qjX d
 | 0=>fun A c l v flex ct t w F hl hd ht hr=>ql2 (fun _ _=>[]) A c l v flex ct t w F (fun cf f ct t w F hm hf ht hr=>by
   obtain ⟨i,hi⟩:=List.mem_iff_getElem?.1 hm
   have h:=qeq hi
   obtain ⟨k,x1,x2,x3,x4,x5,x6,l,A,c,xs,rfl,_⟩:=hf.open_
   rw [qfC] at h; omega) hl ht hr
 | d + 1=>fun A c l v flex ct t w F hl hd ht hr=>ql2 (fun f t=>qde d f v flex t) A c l v flex ct t w F (fun cf f ct t w F hm hf ht hr=>ql1 (qhW d) cf f v flex ct t w F hf (by
   obtain ⟨i,hi⟩:=List.mem_iff_getElem?.1 hm
   have h:=qeq hi
   obtain ⟨k,x1,x2,x3,x4,x5,x6,l,A,c,xs,rfl,_⟩:=hf.open_
   rw [qfC] at h
   show depths l ≤ d
   omega) ht hr) hl ht hr
theorem ql3 {d:Nat} (A:Option Addr) (c:Nat) (l:List Fld) (x v:Int) (ct:List Value) (t:Tree) (w:World) (F:Nat → Nat → Prop) (hl:FldsR w F A c l) (hd:depths l ≤ d) (ht:TreeR w F ct t) (hroom:(qdf d l x v t).length ≤ 1099511627776) :
  Calls Tryz.prog 11 #[.agg #[.slice A l.length c,.int .i64 x],.int .i64 v,.agg ct.toArray] w (qez w 5 (qdf d l x v t)):=by
 obtain ⟨xfs,h1,h2⟩:=hl.ex
 have hsm:=h1.small
 obtain ⟨n1,s2,b3,l4,u5,A6,c7,A8,c9,af,ag,aI,rfl,rfl,aJ,aK,aV,aW⟩:=ht.open_
 have aG:=aJ.small
 have aH:=aK.small
 refine enter (n:=21) Tryz.func11 rfl Tryz.ntmps11 kz fun a hE=>?_
 have hW:=WOk.start w Nil
 refine qaf [0,1,2] kz ?_
 refine qan (qby hW hE (d:=3) (cs:=[.slice A l.length c,.int .i64 x]) kz fun aX aY aZ aL aM aN ai aj=>?_)
 refine qan (qby ai aj (d:=5) (cs:=(z1 n1 A6 s2.length c7 b3 A8 l4.length c9 af u5.length ag)) kz fun ba bd bf aO aP aQ aa ak=>?_)
 refine qak [2] [] [(1,.v (.int .i64 v)),(3,.p 0 0),(5,.p 1 0)] aa ak fun bg al=>?_
 refine qag (qab ?_)
 refine qaf [0,1,2,3,4,5,6,7,8,9,10,11,12,13,14] kz ?_
 refine qak [0,1,2,3,4,5,6] [7,8,9,10,11,12,13,14] [(1,.v (.int .i64 v)),(3,.p 0 0),(5,.p 1 0),(8,.v (.slice A l.length c)),(9,.v (.int .i64 v)),(13,.v (.bool (decide (x ≥ 0))))] aa al fun bh ah=>?_
 refine (zO (decide (x ≥ 0))).elim (fun ab=>?_) (fun ab=>?_)
 ·
  have aR:=zD ab
  have am:=ah
  rw [ab] at am
  refine qak [7,8,9,10,11,12] [13,14] [(8,.v (.slice A l.length c)),(9,.v (.int .i64 v)),(18,.v (.bool (decide (v ≥ x)))),(19,.v (.agg #[.int .i64 n1,.slice A6 s2.length c7,.bool b3,.slice A8 l4.length c9,.slice af u5.length ag]))] aa am fun bi ao=>?_
  refine qan (qal ao (f:=29) (vs:=[.slice A l.length c,.int .i64 v,.bool (decide (v ≥ x)),.agg #[.int .i64 n1,.slice A6 s2.length c7,.bool b3,.slice A8 l4.length c9,.slice af u5.length ag]]) (d:=20) kz Tryz.call29 (qhW _ _ _ l v (decide (v ≥ x)) _ (Tree.mk n1 s2 b3 l4 u5) _ _ ⟨xfs,(h1.move aa.step nilM aa.imm),(fun i_ x_ h_=>((h2 i_ x_ h_).move aa.step nilM aa.imm))⟩ hd (ht.move aa.step nilM aa.imm) (by simpa [qdf,ab] using hroom)) ?_)
  rintro e_ bj ⟨ap,ar,rfl,au,av⟩
  refine ⟨_,rfl,fun bk aw=>?_⟩
  obtain ⟨ac,aS⟩:=aa.frFresh av (brow ap ar 5 (qa8 d l v (decide (v ≥ x)) (Tree.mk n1 s2 b3 l4 u5))) (Nat.le_refl _) au
  refine qak [14] [] [(6,.v (.slice ap ((qa8 d l v (decide (v ≥ x)) (Tree.mk n1 s2 b3 l4 u5)).length) ar))] ac aw fun bn ax=>?_
  refine qag (qab ?_)
  refine wp_ret (qaK ax ac.cells (v:=.slice ap ((qa8 d l v (decide (v ≥ x)) (Tree.mk n1 s2 b3 l4 u5)).length) ar) kz ?_)
  exact qbu ac (k:=0) rfl (by simp [qdf,ab])
 have aT:=zF ab
 have ay:=ah
 rw [ab] at ay
 refine qak [7,8,9,10,11,12] [13,14] [(8,.v (.slice A l.length c)),(9,.v (.int .i64 v)),(18,.v (.bool false)),(19,.v (.agg #[.int .i64 n1,.slice A6 s2.length c7,.bool b3,.slice A8 l4.length c9,.slice af u5.length ag]))] aa ay fun bo az=>?_
 refine qan (qal az (f:=29) (vs:=[.slice A l.length c,.int .i64 v,.bool false,.agg #[.int .i64 n1,.slice A6 s2.length c7,.bool b3,.slice A8 l4.length c9,.slice af u5.length ag]]) (d:=20) kz Tryz.call29 (qhW _ _ _ l v false _ (Tree.mk n1 s2 b3 l4 u5) _ _ ⟨xfs,(h1.move aa.step nilM aa.imm),(fun i_ x_ h_=>((h2 i_ x_ h_).move aa.step nilM aa.imm))⟩ hd (ht.move aa.step nilM aa.imm) (by simpa [qdf,ab] using hroom)) ?_)
 rintro e_ bp ⟨aA,aB,rfl,aC,aD⟩
 refine ⟨_,rfl,fun bq aE=>?_⟩
 obtain ⟨ae,aU⟩:=aa.frFresh aD (brow aA aB 5 (qa8 d l v false (Tree.mk n1 s2 b3 l4 u5))) (Nat.le_refl _) aC
 refine qak [14] [] [(6,.v (.slice aA ((qa8 d l v false (Tree.mk n1 s2 b3 l4 u5)).length) aB))] ae aE fun bt aF=>?_
 refine qag (qab ?_)
 refine wp_ret (qaK aF ae.cells (v:=.slice aA ((qa8 d l v false (Tree.mk n1 s2 b3 l4 u5)).length) aB) kz ?_)
 exact qbu ae (k:=0) rfl (by simp [qdf,ab])
def sShareAcknowledgeResponseF:List Fld:=[(Fld.mk 3 0 (-1) (-1) (-1) 0 0 []),(Fld.mk 2 0 (-1) (-1) (-1) 0 0 []),(Fld.mk 8 0 (-1) 0 (-1) 0 0 []),(Fld.mk 3 2 (-1) (-1) (-1) 0 0 []),(Fld.mk 11 0 (-1) (-1) (-1) 0 10 [(Fld.mk 7 0 (-1) (-1) (-1) 0 0 []),(Fld.mk 11 0 (-1) (-1) (-1) 0 10 [(Fld.mk 3 0 (-1) (-1) (-1) 0 0 []),(Fld.mk 2 0 (-1) (-1) (-1) 0 0 []),(Fld.mk 8 0 (-1) 0 (-1) 0 0 []),(Fld.mk 10 0 (-1) (-1) (-1) 0 0 [(Fld.mk 3 0 (-1) (-1) (-1) 0 0 []),(Fld.mk 3 0 (-1) (-1) (-1) 0 0 [])])])]),(Fld.mk 11 0 (-1) (-1) (-1) 0 10 [(Fld.mk 3 0 (-1) (-1) (-1) 0 0 []),(Fld.mk 8 0 (-1) (-1) (-1) 0 0 []),(Fld.mk 3 0 (-1) (-1) (-1) 0 0 []),(Fld.mk 8 0 (-1) 0 (-1) 0 0 [])])]
def qai:Int:=0
abbrev z7 :=(Fld.mk 11 0 (-1) (-1) (-1) 0 10 [(Fld.mk 3 0 (-1) (-1) (-1) 0 0 []),(Fld.mk 2 0 (-1) (-1) (-1) 0 0 []),(Fld.mk 8 0 (-1) 0 (-1) 0 0 []),(Fld.mk 10 0 (-1) (-1) (-1) 0 0 [(Fld.mk 3 0 (-1) (-1) (-1) 0 0 []),(Fld.mk 3 0 (-1) (-1) (-1) 0 0 [])])])
abbrev z15 (x0) (x1):=([.int .i64 3,.int .i64 0,.int .i64 (-1),.int .i64 (-1),.int .i64 (-1),.int .i64 0,.int .i64 0,.slice none 0 0,.int .i64 2,.int .i64 0,.int .i64 (-1),.int .i64 (-1),.int .i64 (-1),.int .i64 0,.int .i64 0,.slice none 0 0,.int .i64 8,.int .i64 0,.int .i64 (-1),.int .i64 0,.int .i64 (-1),.int .i64 0,.int .i64 0,.slice none 0 0,.int .i64 3,.int .i64 2,.int .i64 (-1),.int .i64 (-1),.int .i64 (-1),.int .i64 0,.int .i64 0,.slice none 0 0,.int .i64 11,.int .i64 0,.int .i64 (-1),.int .i64 (-1),.int .i64 (-1),.int .i64 0,.int .i64 10,.slice (some ⟨x0,0,none⟩) 2 2,.int .i64 11,.int .i64 0,.int .i64 (-1),.int .i64 (-1),.int .i64 (-1),.int .i64 0,.int .i64 10,.slice (some ⟨x1,0,none⟩) 4 4]:List Value)
abbrev z21 :=([.int .i64 3,.int .i64 0,.int .i64 (-1),.int .i64 (-1),.int .i64 (-1),.int .i64 0,.int .i64 0,.slice none 0 0]:List Value)
abbrev z22 :=(Fld.mk 10 0 (-1) (-1) (-1) 0 0 [(Fld.mk 3 0 (-1) (-1) (-1) 0 0 []),(Fld.mk 3 0 (-1) (-1) (-1) 0 0 [])])
abbrev z25 (x0):=([.int .i64 3,.int .i64 0,.int .i64 (-1),.int .i64 (-1),.int .i64 (-1),.int .i64 0,.int .i64 0,.slice none 0 0,.int .i64 2,.int .i64 0,.int .i64 (-1),.int .i64 (-1),.int .i64 (-1),.int .i64 0,.int .i64 0,.slice none 0 0,.int .i64 8,.int .i64 0,.int .i64 (-1),.int .i64 0,.int .i64 (-1),.int .i64 0,.int .i64 0,.slice none 0 0,.int .i64 10,.int .i64 0,.int .i64 (-1),.int .i64 (-1),.int .i64 (-1),.int .i64 0,.int .i64 0,.slice (some ⟨x0,0,none⟩) 2 2]:List Value)
abbrev z26 :=([.int .i64 3,.int .i64 0,.int .i64 (-1),.int .i64 (-1),.int .i64 (-1),.int .i64 0,.int .i64 0,.slice none 0 0,.int .i64 8,.int .i64 0,.int .i64 (-1),.int .i64 (-1),.int .i64 (-1),.int .i64 0,.int .i64 0,.slice none 0 0,.int .i64 3,.int .i64 0,.int .i64 (-1),.int .i64 (-1),.int .i64 (-1),.int .i64 0,.int .i64 0,.slice none 0 0,.int .i64 8,.int .i64 0,.int .i64 (-1),.int .i64 0,.int .i64 (-1),.int .i64 0,.int .i64 0,.slice none 0 0]:List Value)
abbrev z46 (x0):=([.int .i64 7,.int .i64 0,.int .i64 (-1),.int .i64 (-1),.int .i64 (-1),.int .i64 0,.int .i64 0,.slice none 0 0,.int .i64 11,.int .i64 0,.int .i64 (-1),.int .i64 (-1),.int .i64 (-1),.int .i64 0,.int .i64 10,.slice (some ⟨x0,0,none⟩) 4 4]:List Value)
abbrev z51 :=([.int .i64 3,.int .i64 0,.int .i64 (-1),.int .i64 (-1),.int .i64 (-1),.int .i64 0,.int .i64 0,.slice none 0 0,.int .i64 3,.int .i64 0,.int .i64 (-1),.int .i64 (-1),.int .i64 (-1),.int .i64 0,.int .i64 0,.slice none 0 0]:List Value)
abbrev z56 :=([.int .i64 8,.int .i64 0,.int .i64 (-1),.int .i64 0,.int .i64 (-1),.int .i64 0,.int .i64 0,.slice none 0 0]:List Value)
abbrev z79 :=([.slice none 0 0,.int .i64 0]:List Value)
abbrev z77 (x0):=([.int .i64 11,.int .i64 0,.int .i64 (-1),.int .i64 (-1),.int .i64 (-1),.int .i64 0,.int .i64 10,.slice (some ⟨x0,0,none⟩) 4 4]:List Value)
abbrev z82 :=([.int .i64 2,.int .i64 0,.int .i64 (-1),.int .i64 (-1),.int .i64 (-1),.int .i64 0,.int .i64 0,.slice none 0 0]:List Value)
theorem qdA (w:World) (F:Nat → Nat → Prop):Calls Tryz.prog 16 #[] w (qlY w F sShareAcknowledgeResponseF qai):=by
 refine enter (n:=11) Tryz.func16 rfl Tryz.ntmps16 kz fun a hE=>?_
 have hW:=WOk.start w Nil
 refine qaf [0] kz ?_
 refine qan (qaM hW hE (d:=0) (cs:=z79) kz fun b1 a2 w3 hb4 hz5 hF6 hW7 hE8=>?_)
 refine qag (qab ?_)
 refine qaf [0,1,2,3,4,5,6,7,8,9,10] kz ?_
 refine qak [0,1,2,3] [4,5,6,7,8,9,10] [(0,.p 0 0),(1,.v (.agg #[.int .i64 3,.int .i64 0,.int .i64 (-1),.int .i64 (-1),.int .i64 (-1),.int .i64 0,.int .i64 0,.slice none 0 0])),(2,.v (.agg #[.int .i64 2,.int .i64 0,.int .i64 (-1),.int .i64 (-1),.int .i64 (-1),.int .i64 0,.int .i64 0,.slice none 0 0])),(3,.v (.agg #[.int .i64 8,.int .i64 0,.int .i64 (-1),.int .i64 0,.int .i64 (-1),.int .i64 0,.int .i64 0,.slice none 0 0])),(4,.v (.agg #[.int .i64 3,.int .i64 2,.int .i64 (-1),.int .i64 (-1),.int .i64 (-1),.int .i64 0,.int .i64 0,.slice none 0 0]))] hW7 hE8 fun a9 ay=>?_
 refine qan (qbK ay (f:=40) (vs:=[]) (d:=5) (n':=5) kz Tryz.call40 Tryz.func40 rfl Tryz.ntmps40 kz fun bG az=>?_)
 refine qas [] hW7 az fun bH aA=>?_
 refine qaf [0,1,2,3,4] kz ?_
 refine qak [0] [1,2,3,4] [(1,.v (.agg #[.int .i64 7,.int .i64 0,.int .i64 (-1),.int .i64 (-1),.int .i64 (-1),.int .i64 0,.int .i64 0,.slice none 0 0]))] hW7 aA fun bI aB=>?_
 refine qan (qbK aB (f:=71) (vs:=[]) (d:=2) (n':=7) kz Tryz.call71 Tryz.func71 rfl Tryz.ntmps71 kz fun bJ aC=>?_)
 refine qas [] hW7 aC fun bK aD=>?_
 refine qaf [0,1,2,3,4,5,6] kz ?_
 refine qak [0,1,2] [3,4,5,6] [(1,.v (.agg #[.int .i64 3,.int .i64 0,.int .i64 (-1),.int .i64 (-1),.int .i64 (-1),.int .i64 0,.int .i64 0,.slice none 0 0])),(2,.v (.agg #[.int .i64 2,.int .i64 0,.int .i64 (-1),.int .i64 (-1),.int .i64 (-1),.int .i64 0,.int .i64 0,.slice none 0 0])),(3,.v (.agg #[.int .i64 8,.int .i64 0,.int .i64 (-1),.int .i64 0,.int .i64 (-1),.int .i64 0,.int .i64 0,.slice none 0 0]))] hW7 aD fun bL aE=>?_
 refine qan (qbK aE (f:=108) (vs:=[]) (d:=4) (n':=4) kz Tryz.call108 Tryz.func108 rfl Tryz.ntmps108 kz fun bM aF=>?_)
 refine qas [] hW7 aF fun bN aG=>?_
 refine qaf [0,1,2,3] kz ?_
 refine qak [0,1] [2,3] [(1,.v (.agg #[.int .i64 3,.int .i64 0,.int .i64 (-1),.int .i64 (-1),.int .i64 (-1),.int .i64 0,.int .i64 0,.slice none 0 0])),(2,.v (.agg #[.int .i64 3,.int .i64 0,.int .i64 (-1),.int .i64 (-1),.int .i64 (-1),.int .i64 0,.int .i64 0,.slice none 0 0]))] hW7 aG fun bO aH=>?_
 refine qan (qbB hW7 aH (e:=51) (size:=8) (len:=2) (cs:=z51) (d:=3) kz kz fun ap bP bQ bn bo bp aj aI=>?_)
 refine qak [3] [] [(0,.v (.slice (some ⟨ap,0,none⟩) 2 2))] aj aI fun bR aJ=>?_
 refine qag (qab ?_)
 refine wp_ret (qaK aJ aj.cells (v:=.slice (some ⟨ap,0,none⟩) 2 2) kz ?_)
 refine ⟨_,rfl,fun bS aK=>?_⟩
 have aL:EnvOk 7 [⟨b1,0,z79,true⟩] [(4,.v (.slice (some ⟨ap,0,none⟩) 2 2)),(1,.v (.agg #[.int .i64 3,.int .i64 0,.int .i64 (-1),.int .i64 (-1),.int .i64 (-1),.int .i64 0,.int .i64 0,.slice none 0 0])),(2,.v (.agg #[.int .i64 2,.int .i64 0,.int .i64 (-1),.int .i64 (-1),.int .i64 (-1),.int .i64 0,.int .i64 0,.slice none 0 0])),(3,.v (.agg #[.int .i64 8,.int .i64 0,.int .i64 (-1),.int .i64 0,.int .i64 (-1),.int .i64 0,.int .i64 0,.slice none 0 0]))] _:=aK.places (⟨rfl,rfl,trivial⟩)
 refine qak [4] [5,6] [(1,.v (.agg #[.int .i64 3,.int .i64 0,.int .i64 (-1),.int .i64 (-1),.int .i64 (-1),.int .i64 0,.int .i64 0,.slice none 0 0])),(2,.v (.agg #[.int .i64 2,.int .i64 0,.int .i64 (-1),.int .i64 (-1),.int .i64 (-1),.int .i64 0,.int .i64 0,.slice none 0 0])),(3,.v (.agg #[.int .i64 8,.int .i64 0,.int .i64 (-1),.int .i64 0,.int .i64 (-1),.int .i64 0,.int .i64 0,.slice none 0 0])),(5,.v (.agg #[.int .i64 10,.int .i64 0,.int .i64 (-1),.int .i64 (-1),.int .i64 (-1),.int .i64 0,.int .i64 0,.slice (some ⟨ap,0,none⟩) 2 2]))] aj aL fun bT aM=>?_
 refine qan (qbB aj aM (e:=51) (size:=8) (len:=4) (cs:=(z25 ap)) (d:=6) kz kz fun ar bU bV bq bt bu ak aN=>?_)
 refine qak [6] [] [(0,.v (.slice (some ⟨ar,0,none⟩) 4 4))] ak aN fun bW aO=>?_
 refine qag (qab ?_)
 refine wp_ret (qaK aO ak.cells (v:=.slice (some ⟨ar,0,none⟩) 4 4) kz ?_)
 refine ⟨_,rfl,fun bX aP=>?_⟩
 have aQ:EnvOk 5 [⟨b1,0,z79,true⟩] [(2,.v (.slice (some ⟨ar,0,none⟩) 4 4)),(1,.v (.agg #[.int .i64 7,.int .i64 0,.int .i64 (-1),.int .i64 (-1),.int .i64 (-1),.int .i64 0,.int .i64 0,.slice none 0 0]))] _:=aP.places (⟨rfl,rfl,trivial⟩)
 refine qak [2] [3,4] [(1,.v (.agg #[.int .i64 7,.int .i64 0,.int .i64 (-1),.int .i64 (-1),.int .i64 (-1),.int .i64 0,.int .i64 0,.slice none 0 0])),(3,.v (.agg #[.int .i64 11,.int .i64 0,.int .i64 (-1),.int .i64 (-1),.int .i64 (-1),.int .i64 0,.int .i64 10,.slice (some ⟨ar,0,none⟩) 4 4]))] ak aQ fun bY aR=>?_
 refine qan (qbB ak aR (e:=51) (size:=8) (len:=2) (cs:=(z46 ar)) (d:=4) kz kz fun al bZ cd bw bx bz ac aS=>?_)
 refine qak [4] [] [(0,.v (.slice (some ⟨al,0,none⟩) 2 2))] ac aS fun ce aT=>?_
 refine qag (qab ?_)
 refine wp_ret (qaK aT ac.cells (v:=.slice (some ⟨al,0,none⟩) 2 2) kz ?_)
 refine ⟨_,rfl,fun cm aU=>?_⟩
 have aV:EnvOk 11 [⟨b1,0,z79,true⟩] [(5,.v (.slice (some ⟨al,0,none⟩) 2 2)),(0,.p 0 0),(1,.v (.agg #[.int .i64 3,.int .i64 0,.int .i64 (-1),.int .i64 (-1),.int .i64 (-1),.int .i64 0,.int .i64 0,.slice none 0 0])),(2,.v (.agg #[.int .i64 2,.int .i64 0,.int .i64 (-1),.int .i64 (-1),.int .i64 (-1),.int .i64 0,.int .i64 0,.slice none 0 0])),(3,.v (.agg #[.int .i64 8,.int .i64 0,.int .i64 (-1),.int .i64 0,.int .i64 (-1),.int .i64 0,.int .i64 0,.slice none 0 0])),(4,.v (.agg #[.int .i64 3,.int .i64 2,.int .i64 (-1),.int .i64 (-1),.int .i64 (-1),.int .i64 0,.int .i64 0,.slice none 0 0]))] _:=aU.places (⟨rfl,rfl,trivial⟩)
 refine qak [5] [6,7,8,9,10] [(0,.p 0 0),(1,.v (.agg #[.int .i64 3,.int .i64 0,.int .i64 (-1),.int .i64 (-1),.int .i64 (-1),.int .i64 0,.int .i64 0,.slice none 0 0])),(2,.v (.agg #[.int .i64 2,.int .i64 0,.int .i64 (-1),.int .i64 (-1),.int .i64 (-1),.int .i64 0,.int .i64 0,.slice none 0 0])),(3,.v (.agg #[.int .i64 8,.int .i64 0,.int .i64 (-1),.int .i64 0,.int .i64 (-1),.int .i64 0,.int .i64 0,.slice none 0 0])),(4,.v (.agg #[.int .i64 3,.int .i64 2,.int .i64 (-1),.int .i64 (-1),.int .i64 (-1),.int .i64 0,.int .i64 0,.slice none 0 0])),(6,.v (.agg #[.int .i64 11,.int .i64 0,.int .i64 (-1),.int .i64 (-1),.int .i64 (-1),.int .i64 0,.int .i64 10,.slice (some ⟨al,0,none⟩) 2 2]))] ac aV fun cq aW=>?_
 refine qan (qbK aW (f:=41) (vs:=[]) (d:=7) (n':=6) kz Tryz.call41 Tryz.func41 rfl Tryz.ntmps41 kz fun cr aX=>?_)
 refine qas [] ac aX fun cu aY=>?_
 refine qaf [0,1,2,3,4,5] kz ?_
 refine qak [0,1,2,3] [4,5] [(1,.v (.agg #[.int .i64 3,.int .i64 0,.int .i64 (-1),.int .i64 (-1),.int .i64 (-1),.int .i64 0,.int .i64 0,.slice none 0 0])),(2,.v (.agg #[.int .i64 8,.int .i64 0,.int .i64 (-1),.int .i64 (-1),.int .i64 (-1),.int .i64 0,.int .i64 0,.slice none 0 0])),(3,.v (.agg #[.int .i64 3,.int .i64 0,.int .i64 (-1),.int .i64 (-1),.int .i64 (-1),.int .i64 0,.int .i64 0,.slice none 0 0])),(4,.v (.agg #[.int .i64 8,.int .i64 0,.int .i64 (-1),.int .i64 0,.int .i64 (-1),.int .i64 0,.int .i64 0,.slice none 0 0]))] ac aY fun cw aZ=>?_
 refine qan (qbB ac aZ (e:=51) (size:=8) (len:=4) (cs:=z26) (d:=5) kz kz fun au cz cA bA bB bC am ba=>?_)
 refine qak [5] [] [(0,.v (.slice (some ⟨au,0,none⟩) 4 4))] am ba fun cB bd=>?_
 refine qag (qab ?_)
 refine wp_ret (qaK bd am.cells (v:=.slice (some ⟨au,0,none⟩) 4 4) kz ?_)
 refine ⟨_,rfl,fun cC bf=>?_⟩
 have bg:EnvOk 11 [⟨b1,0,z79,true⟩] [(7,.v (.slice (some ⟨au,0,none⟩) 4 4)),(0,.p 0 0),(1,.v (.agg #[.int .i64 3,.int .i64 0,.int .i64 (-1),.int .i64 (-1),.int .i64 (-1),.int .i64 0,.int .i64 0,.slice none 0 0])),(2,.v (.agg #[.int .i64 2,.int .i64 0,.int .i64 (-1),.int .i64 (-1),.int .i64 (-1),.int .i64 0,.int .i64 0,.slice none 0 0])),(3,.v (.agg #[.int .i64 8,.int .i64 0,.int .i64 (-1),.int .i64 0,.int .i64 (-1),.int .i64 0,.int .i64 0,.slice none 0 0])),(4,.v (.agg #[.int .i64 3,.int .i64 2,.int .i64 (-1),.int .i64 (-1),.int .i64 (-1),.int .i64 0,.int .i64 0,.slice none 0 0])),(6,.v (.agg #[.int .i64 11,.int .i64 0,.int .i64 (-1),.int .i64 (-1),.int .i64 (-1),.int .i64 0,.int .i64 10,.slice (some ⟨al,0,none⟩) 2 2]))] _:=bf.places (⟨rfl,rfl,trivial⟩)
 refine qak [7] [8,9,10] [(0,.p 0 0),(1,.v (.agg #[.int .i64 3,.int .i64 0,.int .i64 (-1),.int .i64 (-1),.int .i64 (-1),.int .i64 0,.int .i64 0,.slice none 0 0])),(2,.v (.agg #[.int .i64 2,.int .i64 0,.int .i64 (-1),.int .i64 (-1),.int .i64 (-1),.int .i64 0,.int .i64 0,.slice none 0 0])),(3,.v (.agg #[.int .i64 8,.int .i64 0,.int .i64 (-1),.int .i64 0,.int .i64 (-1),.int .i64 0,.int .i64 0,.slice none 0 0])),(4,.v (.agg #[.int .i64 3,.int .i64 2,.int .i64 (-1),.int .i64 (-1),.int .i64 (-1),.int .i64 0,.int .i64 0,.slice none 0 0])),(6,.v (.agg #[.int .i64 11,.int .i64 0,.int .i64 (-1),.int .i64 (-1),.int .i64 (-1),.int .i64 0,.int .i64 10,.slice (some ⟨al,0,none⟩) 2 2])),(8,.v (.agg #[.int .i64 11,.int .i64 0,.int .i64 (-1),.int .i64 (-1),.int .i64 (-1),.int .i64 0,.int .i64 10,.slice (some ⟨au,0,none⟩) 4 4]))] am bg fun cD bh=>?_
 refine qan (qbB am bh (e:=51) (size:=8) (len:=6) (cs:=(z15 al au)) (d:=9) kz kz fun bi cE cG bD bE bj ao av=>?_)
 refine qak [9] [10] [(0,.p 0 0),(10,.v (.agg #[.slice (some ⟨bi,0,none⟩) 6 6,.int .i64 0]))] ao av fun bF aw=>?_
 refine qan (qao ao aw (oi:=0) (cs:=[.slice (some ⟨bi,0,none⟩) 6 6,.int .i64 0]) kz fun aa bk ab ax=>?_)
 refine qag (qab ?_)
 refine wp_ret (qaK ax ab.cells (v:=.agg #[.slice (some ⟨bi,0,none⟩) 6 6,.int .i64 0]) kz ?_)
 have ae:=Flds.slots (F:=F) ab (k:=0) (n:=2) (xs:=z51) rfl (Flds.snoc (Flds.snoc (Flds.nil _ _) (c:=z21) (x:=(Fld.mk 3 0 (-1) (-1) (-1) 0 0 [])) (FldR.mk (l:=[]) _ (qb7 aa (Fp F w)).1 (qb7 aa (Fp F w)).2)) (c:=z21) (x:=(Fld.mk 3 0 (-1) (-1) (-1) 0 0 [])) (FldR.mk (l:=[]) _ (qb7 aa (Fp F w)).1 (qb7 aa (Fp F w)).2)) rfl (by decide)
 have af:=Flds.slots (F:=F) ab (k:=1) (n:=4) (xs:=(z25 ap)) rfl (Flds.snoc (Flds.snoc (Flds.snoc (Flds.snoc (Flds.nil _ _) (c:=z21) (x:=(Fld.mk 3 0 (-1) (-1) (-1) 0 0 [])) (FldR.mk (l:=[]) _ (qb7 aa (Fp F w)).1 (qb7 aa (Fp F w)).2)) (c:=z82) (x:=(Fld.mk 2 0 (-1) (-1) (-1) 0 0 [])) (FldR.mk (l:=[]) _ (qb7 aa (Fp F w)).1 (qb7 aa (Fp F w)).2)) (c:=z56) (x:=(Fld.mk 8 0 (-1) 0 (-1) 0 0 [])) (FldR.mk (l:=[]) _ (qb7 aa (Fp F w)).1 (qb7 aa (Fp F w)).2)) (c:=[.int .i64 10,.int .i64 0,.int .i64 (-1),.int .i64 (-1),.int .i64 (-1),.int .i64 0,.int .i64 0,.slice (some ⟨ap,0,none⟩) 2 2]) (x:=z22) (FldR.mk (l:=[(Fld.mk 3 0 (-1) (-1) (-1) 0 0 []),(Fld.mk 3 0 (-1) (-1) (-1) 0 0 [])]) _ ae.1 ae.2)) rfl (by decide)
 have ag:=Flds.slots (F:=F) ab (k:=2) (n:=2) (xs:=(z46 ar)) rfl (Flds.snoc (Flds.snoc (Flds.nil _ _) (c:=[.int .i64 7,.int .i64 0,.int .i64 (-1),.int .i64 (-1),.int .i64 (-1),.int .i64 0,.int .i64 0,.slice none 0 0]) (x:=(Fld.mk 7 0 (-1) (-1) (-1) 0 0 [])) (FldR.mk (l:=[]) _ (qb7 aa (Fp F w)).1 (qb7 aa (Fp F w)).2)) (c:=(z77 ar)) (x:=z7) (FldR.mk (l:=[(Fld.mk 3 0 (-1) (-1) (-1) 0 0 []),(Fld.mk 2 0 (-1) (-1) (-1) 0 0 []),(Fld.mk 8 0 (-1) 0 (-1) 0 0 []),z22]) _ af.1 af.2)) rfl (by decide)
 have ah:=Flds.slots (F:=F) ab (k:=3) (n:=4) (xs:=z26) rfl (Flds.snoc (Flds.snoc (Flds.snoc (Flds.snoc (Flds.nil _ _) (c:=z21) (x:=(Fld.mk 3 0 (-1) (-1) (-1) 0 0 [])) (FldR.mk (l:=[]) _ (qb7 aa (Fp F w)).1 (qb7 aa (Fp F w)).2)) (c:=[.int .i64 8,.int .i64 0,.int .i64 (-1),.int .i64 (-1),.int .i64 (-1),.int .i64 0,.int .i64 0,.slice none 0 0]) (x:=(Fld.mk 8 0 (-1) (-1) (-1) 0 0 [])) (FldR.mk (l:=[]) _ (qb7 aa (Fp F w)).1 (qb7 aa (Fp F w)).2)) (c:=z21) (x:=(Fld.mk 3 0 (-1) (-1) (-1) 0 0 [])) (FldR.mk (l:=[]) _ (qb7 aa (Fp F w)).1 (qb7 aa (Fp F w)).2)) (c:=z56) (x:=(Fld.mk 8 0 (-1) 0 (-1) 0 0 [])) (FldR.mk (l:=[]) _ (qb7 aa (Fp F w)).1 (qb7 aa (Fp F w)).2)) rfl (by decide)
 have ai:=Flds.slots (F:=F) ab (k:=4) (n:=6) (xs:=(z15 al au)) rfl (Flds.snoc (Flds.snoc (Flds.snoc (Flds.snoc (Flds.snoc (Flds.snoc (Flds.nil _ _) (c:=z21) (x:=(Fld.mk 3 0 (-1) (-1) (-1) 0 0 [])) (FldR.mk (l:=[]) _ (qb7 aa (Fp F w)).1 (qb7 aa (Fp F w)).2)) (c:=z82) (x:=(Fld.mk 2 0 (-1) (-1) (-1) 0 0 [])) (FldR.mk (l:=[]) _ (qb7 aa (Fp F w)).1 (qb7 aa (Fp F w)).2)) (c:=z56) (x:=(Fld.mk 8 0 (-1) 0 (-1) 0 0 [])) (FldR.mk (l:=[]) _ (qb7 aa (Fp F w)).1 (qb7 aa (Fp F w)).2)) (c:=[.int .i64 3,.int .i64 2,.int .i64 (-1),.int .i64 (-1),.int .i64 (-1),.int .i64 0,.int .i64 0,.slice none 0 0]) (x:=(Fld.mk 3 2 (-1) (-1) (-1) 0 0 [])) (FldR.mk (l:=[]) _ (qb7 aa (Fp F w)).1 (qb7 aa (Fp F w)).2)) (c:=[.int .i64 11,.int .i64 0,.int .i64 (-1),.int .i64 (-1),.int .i64 (-1),.int .i64 0,.int .i64 10,.slice (some ⟨al,0,none⟩) 2 2]) (x:=(Fld.mk 11 0 (-1) (-1) (-1) 0 10 [(Fld.mk 7 0 (-1) (-1) (-1) 0 0 []),z7])) (FldR.mk (l:=[(Fld.mk 7 0 (-1) (-1) (-1) 0 0 []),z7]) _ ag.1 ag.2)) (c:=(z77 au)) (x:=(Fld.mk 11 0 (-1) (-1) (-1) 0 10 [(Fld.mk 3 0 (-1) (-1) (-1) 0 0 []),(Fld.mk 8 0 (-1) (-1) (-1) 0 0 []),(Fld.mk 3 0 (-1) (-1) (-1) 0 0 []),(Fld.mk 8 0 (-1) 0 (-1) 0 0 [])])) (FldR.mk (l:=[(Fld.mk 3 0 (-1) (-1) (-1) 0 0 []),(Fld.mk 8 0 (-1) (-1) (-1) 0 0 []),(Fld.mk 3 0 (-1) (-1) (-1) 0 0 []),(Fld.mk 8 0 (-1) 0 (-1) 0 0 [])]) _ ah.1 ah.2)) rfl (by decide)
 exact ⟨_,_,rfl,⟨_,ai.1,ai.2⟩,ab.step⟩
def qbb (T:Tree):Prop:=(True) ∧ (True) ∧ canU T.U ∧ True
def qbh (T:Tree):Prop:=(True) ∧ (True) ∧ ((qbo (T.at_ 2)).length ≤ 32767) ∧ (qbb (T.at_ 3)) ∧ canU T.U ∧ True
def qbz (T:Tree):Prop:=(True) ∧ ((lst (T.at_ 1)).length ≤ 32767 ∧ ∀ x ∈ lst (T.at_ 1),qbh x) ∧ canU T.U ∧ True
def qbm (T:Tree):Prop:=(True) ∧ ((T.at_ 1).S.length ≤ 32767) ∧ (True) ∧ ((qbo (T.at_ 3)).length ≤ 32767) ∧ canU T.U ∧ True
def qbg (T:Tree):Prop:=(True) ∧ (True) ∧ ((qbo (T.at_ 2)).length ≤ 32767) ∧ (True) ∧ ((lst (T.at_ 4)).length ≤ 32767 ∧ ∀ x ∈ lst (T.at_ 4),qbz x) ∧ ((lst (T.at_ 5)).length ≤ 32767 ∧ ∀ x ∈ lst (T.at_ 5),qbm x) ∧ canU T.U ∧ True
abbrev z64 :=(Fld.mk 10 0 (-1) (-1) (-1) 0 10 [(Fld.mk 3 0 (-1) (-1) (-1) 0 0 []),(Fld.mk 8 0 (-1) (-1) (-1) 0 0 []),(Fld.mk 3 0 (-1) (-1) (-1) 0 0 []),(Fld.mk 8 0 (-1) 0 (-1) 0 0 [])])
abbrev z72 :=(Fld.mk 10 0 (-1) (-1) (-1) 0 10 [(Fld.mk 3 0 (-1) (-1) (-1) 0 0 []),(Fld.mk 2 0 (-1) (-1) (-1) 0 0 []),(Fld.mk 8 0 (-1) 0 (-1) 0 0 []),z22])
abbrev z94 :=(Fld.mk 10 0 (-1) (-1) (-1) 0 10 [(Fld.mk 7 0 (-1) (-1) (-1) 0 0 []),z7])
theorem qc0 (v:Int) (t:Tree):qbg (fitT v 8 sShareAcknowledgeResponseF t):=by
 unfold qbg
 exact ⟨(trivial),(trivial),(qgM (d:=7) (show sShareAcknowledgeResponseF[2]? = _ from rfl) (by decide)),(trivial),(⟨qhU (d:=7) (show sShareAcknowledgeResponseF[4]? = _ from rfl),qhT (d:=7) (Q:=qbz) (show sShareAcknowledgeResponseF[4]? = _ from rfl) fun y=>by
   have h:=fit_10 (v:=v) (d:=7) (x1:=0) (x2:=-1) (x5:=0) (x6:=10) (s:=[(Fld.mk 7 0 (-1) (-1) (-1) 0 0 []),z7]) (b:=Fld.nul z94 v y) (x:=y)
   unfold qbz
   simp only [h.1,h.2]
   exact ⟨(trivial),(⟨qhU (d:=6) (show [(Fld.mk 7 0 (-1) (-1) (-1) 0 0 []),(Fld.mk 11 0 (-1) (-1) (-1) 0 10 [(Fld.mk 3 0 (-1) (-1) (-1) 0 0 []),(Fld.mk 2 0 (-1) (-1) (-1) 0 0 []),(Fld.mk 8 0 (-1) 0 (-1) 0 0 []),(Fld.mk 10 0 (-1) (-1) (-1) 0 0 [(Fld.mk 3 0 (-1) (-1) (-1) 0 0 []),(Fld.mk 3 0 (-1) (-1) (-1) 0 0 [])])])][1]? = _ from rfl),qhT (d:=6) (Q:=qbh) (show [(Fld.mk 7 0 (-1) (-1) (-1) 0 0 []),(Fld.mk 11 0 (-1) (-1) (-1) 0 10 [(Fld.mk 3 0 (-1) (-1) (-1) 0 0 []),(Fld.mk 2 0 (-1) (-1) (-1) 0 0 []),(Fld.mk 8 0 (-1) 0 (-1) 0 0 []),(Fld.mk 10 0 (-1) (-1) (-1) 0 0 [(Fld.mk 3 0 (-1) (-1) (-1) 0 0 []),(Fld.mk 3 0 (-1) (-1) (-1) 0 0 [])])])][1]? = _ from rfl) fun y=>by
     have h:=fit_10 (v:=v) (d:=6) (x1:=0) (x2:=-1) (x5:=0) (x6:=10) (s:=[(Fld.mk 3 0 (-1) (-1) (-1) 0 0 []),(Fld.mk 2 0 (-1) (-1) (-1) 0 0 []),(Fld.mk 8 0 (-1) 0 (-1) 0 0 []),z22]) (b:=Fld.nul z72 v y) (x:=y)
     unfold qbh
     simp only [h.1,h.2]
     exact ⟨(trivial),(trivial),(qgM (d:=5) (show [(Fld.mk 3 0 (-1) (-1) (-1) 0 0 []),(Fld.mk 2 0 (-1) (-1) (-1) 0 0 []),(Fld.mk 8 0 (-1) 0 (-1) 0 0 []),(Fld.mk 10 0 (-1) (-1) (-1) 0 0 [(Fld.mk 3 0 (-1) (-1) (-1) 0 0 []),(Fld.mk 3 0 (-1) (-1) (-1) 0 0 [])])][2]? = _ from rfl) (by decide)),(by
       have h:=qhS (v:=v) (d:=5) (t:=y) (show [(Fld.mk 3 0 (-1) (-1) (-1) 0 0 []),(Fld.mk 2 0 (-1) (-1) (-1) 0 0 []),(Fld.mk 8 0 (-1) 0 (-1) 0 0 []),(Fld.mk 10 0 (-1) (-1) (-1) 0 0 [(Fld.mk 3 0 (-1) (-1) (-1) 0 0 []),(Fld.mk 3 0 (-1) (-1) (-1) 0 0 [])])][3]? = _ from rfl)
       unfold qbb
       simp only [h.1,h.2.1]
       exact ⟨(trivial),(trivial),(qe4),(trivial)⟩),(qe4),(trivial)⟩⟩),(qe4),(trivial)⟩⟩),(⟨qhU (d:=7) (show sShareAcknowledgeResponseF[5]? = _ from rfl),qhT (d:=7) (Q:=qbm) (show sShareAcknowledgeResponseF[5]? = _ from rfl) fun y=>by
   have h:=fit_10 (v:=v) (d:=7) (x1:=0) (x2:=-1) (x5:=0) (x6:=10) (s:=[(Fld.mk 3 0 (-1) (-1) (-1) 0 0 []),(Fld.mk 8 0 (-1) (-1) (-1) 0 0 []),(Fld.mk 3 0 (-1) (-1) (-1) 0 0 []),(Fld.mk 8 0 (-1) 0 (-1) 0 0 [])]) (b:=Fld.nul z64 v y) (x:=y)
   unfold qbm
   simp only [h.1,h.2]
   exact ⟨(trivial),(by rw [qlu (d:=6) (show [(Fld.mk 3 0 (-1) (-1) (-1) 0 0 []),(Fld.mk 8 0 (-1) (-1) (-1) 0 0 []),(Fld.mk 3 0 (-1) (-1) (-1) 0 0 []),(Fld.mk 8 0 (-1) 0 (-1) 0 0 [])][1]? = _ from rfl) (by decide)]; exact Nat.le_trans (qbs _) (by decide)),(trivial),(qgM (d:=6) (show [(Fld.mk 3 0 (-1) (-1) (-1) 0 0 []),(Fld.mk 8 0 (-1) (-1) (-1) 0 0 []),(Fld.mk 3 0 (-1) (-1) (-1) 0 0 []),(Fld.mk 8 0 (-1) 0 (-1) 0 0 [])][3]? = _ from rfl) (by decide)),(qe4),(trivial)⟩⟩),(qe4),(trivial)⟩
set_option maxHeartbeats 4000000 in
theorem qc7 (v:Int) (h0:0 ≤ v) (h1:v < 32768) (t:Tree):qam v (fitT v 8 sShareAcknowledgeResponseF t) = qdf 8 sShareAcknowledgeResponseF qai v t:=by
 have ax:((fitT v 8 sShareAcknowledgeResponseF t).at_ 0).N = (t.at_ 0).N:=qdZ (d:=7) (show sShareAcknowledgeResponseF[0]? = _ from rfl) (by decide)
 have ay:((fitT v 8 sShareAcknowledgeResponseF t).at_ 1).N = (t.at_ 1).N:=qdZ (d:=7) (show sShareAcknowledgeResponseF[1]? = _ from rfl) (by decide)
 have au:=qhR (v:=v) (d:=7) (t:=t) (l:=sShareAcknowledgeResponseF) (i:=2) (show sShareAcknowledgeResponseF[2]? = _ from rfl) (by decide)
 have az:((fitT v 8 sShareAcknowledgeResponseF t).at_ 3).N = (t.at_ 3).N:=qdZ (d:=7) (show sShareAcknowledgeResponseF[3]? = _ from rfl) (by decide)
 obtain ⟨f57n,aA⟩:=qft (v:=v) (d:=7) (t:=t) (l:=sShareAcknowledgeResponseF) (i:=4) (show sShareAcknowledgeResponseF[4]? = _ from rfl)
 obtain ⟨f58n,aB⟩:=qft (v:=v) (d:=7) (t:=t) (l:=sShareAcknowledgeResponseF) (i:=5) (show sShareAcknowledgeResponseF[5]? = _ from rfl)
 have ah:∀ ag:Tree,(fun ae:Tree=>((qah (ae.at_ 0).S)) ++ (((if (decide (v ≥ 0)) = true then (uv ((lst (ae.at_ 1)).length + 1)) else (be 4 (lst (ae.at_ 1)).length)) ++ ((lst (ae.at_ 1)).flatMap fun aa=>(be 4 ((IntKind.i32.wrap (aa.at_ 0).N))) ++ ((be 2 ((IntKind.i16.wrap (aa.at_ 1).N))) ++ ((if (decide (v ≥ 0)) = true then (if (aa.at_ 2).null = true then uv 0 else uv ((qbo (aa.at_ 2)).length + 1) ++ (qbo (aa.at_ 2))) else (if (aa.at_ 2).null = true then be 2 (-1) else be 2 (qbo (aa.at_ 2)).length ++ (qbo (aa.at_ 2)))) ++ ((((be 4 ((IntKind.i32.wrap ((aa.at_ 3).at_ 0).N))) ++ ((be 4 ((IntKind.i32.wrap ((aa.at_ 3).at_ 1).N))) ++ (if (decide (v ≥ 0)) = true then (uv (aa.at_ 3).U.length) ++ (qck (aa.at_ 3).U) else [])))) ++ (if (decide (v ≥ 0)) = true then (uv aa.U.length) ++ (qck aa.U) else [])))))) ++ (if (decide (v ≥ 0)) = true then (uv ae.U.length) ++ (qck ae.U) else []))) (qch (fitT v 7) (Fld.mk 10 0 (-1) (-1) (-1) 0 10 [(Fld.mk 7 0 (-1) (-1) (-1) 0 0 []),(Fld.mk 11 0 (-1) (-1) (-1) 0 10 [(Fld.mk 3 0 (-1) (-1) (-1) 0 0 []),(Fld.mk 2 0 (-1) (-1) (-1) 0 0 []),(Fld.mk 8 0 (-1) 0 (-1) 0 0 []),(Fld.mk 10 0 (-1) (-1) (-1) 0 0 [(Fld.mk 3 0 (-1) (-1) (-1) 0 0 []),(Fld.mk 3 0 (-1) (-1) (-1) 0 0 [])])])]) (Fld.nul (Fld.mk 10 0 (-1) (-1) (-1) 0 10 [(Fld.mk 7 0 (-1) (-1) (-1) 0 0 []),(Fld.mk 11 0 (-1) (-1) (-1) 0 10 [(Fld.mk 3 0 (-1) (-1) (-1) 0 0 []),(Fld.mk 2 0 (-1) (-1) (-1) 0 0 []),(Fld.mk 8 0 (-1) 0 (-1) 0 0 []),(Fld.mk 10 0 (-1) (-1) (-1) 0 0 [(Fld.mk 3 0 (-1) (-1) (-1) 0 0 []),(Fld.mk 3 0 (-1) (-1) (-1) 0 0 [])])])]) v ag) ag) = qa8 7 [(Fld.mk 7 0 (-1) (-1) (-1) 0 0 []),(Fld.mk 11 0 (-1) (-1) (-1) 0 10 [(Fld.mk 3 0 (-1) (-1) (-1) 0 0 []),(Fld.mk 2 0 (-1) (-1) (-1) 0 0 []),(Fld.mk 8 0 (-1) 0 (-1) 0 0 []),(Fld.mk 10 0 (-1) (-1) (-1) 0 0 [(Fld.mk 3 0 (-1) (-1) (-1) 0 0 []),(Fld.mk 3 0 (-1) (-1) (-1) 0 0 [])])])] v (decide (v ≥ 0)) ag:=by
  intro ag
  dsimp only
  obtain ⟨ai,aj⟩:=fit_10 (v:=v) (d:=7) (x1:=0) (x2:=-1) (x5:=0) (x6:=10) (s:=[(Fld.mk 7 0 (-1) (-1) (-1) 0 0 []),z7]) (b:=Fld.nul z94 v ag) (x:=ag)
  simp only [ai,aj]
  have aC:((fitT v 7 [(Fld.mk 7 0 (-1) (-1) (-1) 0 0 []),(Fld.mk 11 0 (-1) (-1) (-1) 0 10 [(Fld.mk 3 0 (-1) (-1) (-1) 0 0 []),(Fld.mk 2 0 (-1) (-1) (-1) 0 0 []),(Fld.mk 8 0 (-1) 0 (-1) 0 0 []),(Fld.mk 10 0 (-1) (-1) (-1) 0 0 [(Fld.mk 3 0 (-1) (-1) (-1) 0 0 []),(Fld.mk 3 0 (-1) (-1) (-1) 0 0 [])])])] ag).at_ 0).S = (ag.at_ 0).S:=qk1 (d:=6) (show [(Fld.mk 7 0 (-1) (-1) (-1) 0 0 []),(Fld.mk 11 0 (-1) (-1) (-1) 0 10 [(Fld.mk 3 0 (-1) (-1) (-1) 0 0 []),(Fld.mk 2 0 (-1) (-1) (-1) 0 0 []),(Fld.mk 8 0 (-1) 0 (-1) 0 0 []),(Fld.mk 10 0 (-1) (-1) (-1) 0 0 [(Fld.mk 3 0 (-1) (-1) (-1) 0 0 []),(Fld.mk 3 0 (-1) (-1) (-1) 0 0 [])])])][0]? = _ from rfl) (by decide)
  obtain ⟨f63n,aD⟩:=qft (v:=v) (d:=6) (t:=ag) (l:=[(Fld.mk 7 0 (-1) (-1) (-1) 0 0 []),(Fld.mk 11 0 (-1) (-1) (-1) 0 10 [(Fld.mk 3 0 (-1) (-1) (-1) 0 0 []),(Fld.mk 2 0 (-1) (-1) (-1) 0 0 []),(Fld.mk 8 0 (-1) 0 (-1) 0 0 []),(Fld.mk 10 0 (-1) (-1) (-1) 0 0 [(Fld.mk 3 0 (-1) (-1) (-1) 0 0 []),(Fld.mk 3 0 (-1) (-1) (-1) 0 0 [])])])]) (i:=1) (show [(Fld.mk 7 0 (-1) (-1) (-1) 0 0 []),(Fld.mk 11 0 (-1) (-1) (-1) 0 10 [(Fld.mk 3 0 (-1) (-1) (-1) 0 0 []),(Fld.mk 2 0 (-1) (-1) (-1) 0 0 []),(Fld.mk 8 0 (-1) 0 (-1) 0 0 []),(Fld.mk 10 0 (-1) (-1) (-1) 0 0 [(Fld.mk 3 0 (-1) (-1) (-1) 0 0 []),(Fld.mk 3 0 (-1) (-1) (-1) 0 0 [])])])][1]? = _ from rfl)
  have ak:∀ ac:Tree,(fun aa:Tree=>(be 4 ((IntKind.i32.wrap (aa.at_ 0).N))) ++ ((be 2 ((IntKind.i16.wrap (aa.at_ 1).N))) ++ ((if (decide (v ≥ 0)) = true then (if (aa.at_ 2).null = true then uv 0 else uv ((qbo (aa.at_ 2)).length + 1) ++ (qbo (aa.at_ 2))) else (if (aa.at_ 2).null = true then be 2 (-1) else be 2 (qbo (aa.at_ 2)).length ++ (qbo (aa.at_ 2)))) ++ ((((be 4 ((IntKind.i32.wrap ((aa.at_ 3).at_ 0).N))) ++ ((be 4 ((IntKind.i32.wrap ((aa.at_ 3).at_ 1).N))) ++ (if (decide (v ≥ 0)) = true then (uv (aa.at_ 3).U.length) ++ (qck (aa.at_ 3).U) else [])))) ++ (if (decide (v ≥ 0)) = true then (uv aa.U.length) ++ (qck aa.U) else []))))) (qch (fitT v 6) (Fld.mk 10 0 (-1) (-1) (-1) 0 10 [(Fld.mk 3 0 (-1) (-1) (-1) 0 0 []),(Fld.mk 2 0 (-1) (-1) (-1) 0 0 []),(Fld.mk 8 0 (-1) 0 (-1) 0 0 []),(Fld.mk 10 0 (-1) (-1) (-1) 0 0 [(Fld.mk 3 0 (-1) (-1) (-1) 0 0 []),(Fld.mk 3 0 (-1) (-1) (-1) 0 0 [])])]) (Fld.nul (Fld.mk 10 0 (-1) (-1) (-1) 0 10 [(Fld.mk 3 0 (-1) (-1) (-1) 0 0 []),(Fld.mk 2 0 (-1) (-1) (-1) 0 0 []),(Fld.mk 8 0 (-1) 0 (-1) 0 0 []),(Fld.mk 10 0 (-1) (-1) (-1) 0 0 [(Fld.mk 3 0 (-1) (-1) (-1) 0 0 []),(Fld.mk 3 0 (-1) (-1) (-1) 0 0 [])])]) v ac) ac) = qa8 6 [(Fld.mk 3 0 (-1) (-1) (-1) 0 0 []),(Fld.mk 2 0 (-1) (-1) (-1) 0 0 []),(Fld.mk 8 0 (-1) 0 (-1) 0 0 []),(Fld.mk 10 0 (-1) (-1) (-1) 0 0 [(Fld.mk 3 0 (-1) (-1) (-1) 0 0 []),(Fld.mk 3 0 (-1) (-1) (-1) 0 0 [])])] v (decide (v ≥ 0)) ac:=by
   intro ac
   dsimp only
   obtain ⟨al,am⟩:=fit_10 (v:=v) (d:=6) (x1:=0) (x2:=-1) (x5:=0) (x6:=10) (s:=[(Fld.mk 3 0 (-1) (-1) (-1) 0 0 []),(Fld.mk 2 0 (-1) (-1) (-1) 0 0 []),(Fld.mk 8 0 (-1) 0 (-1) 0 0 []),z22]) (b:=Fld.nul z72 v ac) (x:=ac)
   simp only [al,am]
   have aE:((fitT v 6 [(Fld.mk 3 0 (-1) (-1) (-1) 0 0 []),(Fld.mk 2 0 (-1) (-1) (-1) 0 0 []),(Fld.mk 8 0 (-1) 0 (-1) 0 0 []),(Fld.mk 10 0 (-1) (-1) (-1) 0 0 [(Fld.mk 3 0 (-1) (-1) (-1) 0 0 []),(Fld.mk 3 0 (-1) (-1) (-1) 0 0 [])])] ac).at_ 0).N = (ac.at_ 0).N:=qdZ (d:=5) (show [(Fld.mk 3 0 (-1) (-1) (-1) 0 0 []),(Fld.mk 2 0 (-1) (-1) (-1) 0 0 []),(Fld.mk 8 0 (-1) 0 (-1) 0 0 []),(Fld.mk 10 0 (-1) (-1) (-1) 0 0 [(Fld.mk 3 0 (-1) (-1) (-1) 0 0 []),(Fld.mk 3 0 (-1) (-1) (-1) 0 0 [])])][0]? = _ from rfl) (by decide)
   have aF:((fitT v 6 [(Fld.mk 3 0 (-1) (-1) (-1) 0 0 []),(Fld.mk 2 0 (-1) (-1) (-1) 0 0 []),(Fld.mk 8 0 (-1) 0 (-1) 0 0 []),(Fld.mk 10 0 (-1) (-1) (-1) 0 0 [(Fld.mk 3 0 (-1) (-1) (-1) 0 0 []),(Fld.mk 3 0 (-1) (-1) (-1) 0 0 [])])] ac).at_ 1).N = (ac.at_ 1).N:=qdZ (d:=5) (show [(Fld.mk 3 0 (-1) (-1) (-1) 0 0 []),(Fld.mk 2 0 (-1) (-1) (-1) 0 0 []),(Fld.mk 8 0 (-1) 0 (-1) 0 0 []),(Fld.mk 10 0 (-1) (-1) (-1) 0 0 [(Fld.mk 3 0 (-1) (-1) (-1) 0 0 []),(Fld.mk 3 0 (-1) (-1) (-1) 0 0 [])])][1]? = _ from rfl) (by decide)
   have av:=qhR (v:=v) (d:=5) (t:=ac) (l:=[(Fld.mk 3 0 (-1) (-1) (-1) 0 0 []),(Fld.mk 2 0 (-1) (-1) (-1) 0 0 []),(Fld.mk 8 0 (-1) 0 (-1) 0 0 []),(Fld.mk 10 0 (-1) (-1) (-1) 0 0 [(Fld.mk 3 0 (-1) (-1) (-1) 0 0 []),(Fld.mk 3 0 (-1) (-1) (-1) 0 0 [])])]) (i:=2) (show [(Fld.mk 3 0 (-1) (-1) (-1) 0 0 []),(Fld.mk 2 0 (-1) (-1) (-1) 0 0 []),(Fld.mk 8 0 (-1) 0 (-1) 0 0 []),(Fld.mk 10 0 (-1) (-1) (-1) 0 0 [(Fld.mk 3 0 (-1) (-1) (-1) 0 0 []),(Fld.mk 3 0 (-1) (-1) (-1) 0 0 [])])][2]? = _ from rfl) (by decide)
   obtain ⟨aG,f70u,f70n⟩:=qhS (v:=v) (d:=5) (t:=ac) (l:=[(Fld.mk 3 0 (-1) (-1) (-1) 0 0 []),(Fld.mk 2 0 (-1) (-1) (-1) 0 0 []),(Fld.mk 8 0 (-1) 0 (-1) 0 0 []),(Fld.mk 10 0 (-1) (-1) (-1) 0 0 [(Fld.mk 3 0 (-1) (-1) (-1) 0 0 []),(Fld.mk 3 0 (-1) (-1) (-1) 0 0 [])])]) (i:=3) (show [(Fld.mk 3 0 (-1) (-1) (-1) 0 0 []),(Fld.mk 2 0 (-1) (-1) (-1) 0 0 []),(Fld.mk 8 0 (-1) 0 (-1) 0 0 []),(Fld.mk 10 0 (-1) (-1) (-1) 0 0 [(Fld.mk 3 0 (-1) (-1) (-1) 0 0 []),(Fld.mk 3 0 (-1) (-1) (-1) 0 0 [])])][3]? = _ from rfl)
   have aH:((fitT v 5 [(Fld.mk 3 0 (-1) (-1) (-1) 0 0 []),(Fld.mk 3 0 (-1) (-1) (-1) 0 0 [])] (ac.at_ 3)).at_ 0).N = ((ac.at_ 3).at_ 0).N:=qdZ (d:=4) (show [(Fld.mk 3 0 (-1) (-1) (-1) 0 0 []),(Fld.mk 3 0 (-1) (-1) (-1) 0 0 [])][0]? = _ from rfl) (by decide)
   have aI:((fitT v 5 [(Fld.mk 3 0 (-1) (-1) (-1) 0 0 []),(Fld.mk 3 0 (-1) (-1) (-1) 0 0 [])] (ac.at_ 3)).at_ 1).N = ((ac.at_ 3).at_ 1).N:=qdZ (d:=4) (show [(Fld.mk 3 0 (-1) (-1) (-1) 0 0 []),(Fld.mk 3 0 (-1) (-1) (-1) 0 0 [])][1]? = _ from rfl) (by decide)
   simp only [qf9,qdQ,qcV,List.flatMap_map,List.length_map,aE,aF,av.1,av.2,aG,f70u,aH,aI]
   try simp only [be4_i32',qgD,qgG,qif,qfB,qcM,qkG,qgL]
   by_cases c0:v ≥ 2 <;> by_cases n0:Fld.nul (Fld.mk 8 0 (-1) 0 (-1) 0 0 []) v (ac.at_ 2) = true <;> (try have m0:=qjV n0) <;> first | (exfalso; omega) | simp [qa8,qeF,qaZ,Fld.tag,Fld.has,qds,Fld.kind,Fld.null,Fld.of,Fld.sub,qa0,qbN,qa6,qaN,qaD,qaw,uv0,nul_no,c0,n0,h0]
  simp only [qf9,qdQ,qcV,List.flatMap_map,List.length_map,aC,f63n,aD]
  simp only [ak]
  try simp only [be4_i32',qgD,qgG,qif,qfB,qcM,qkG,qgL]
  by_cases c0:v ≥ 2 <;> first | (exfalso; omega) | simp [qa8,qeF,qaZ,Fld.tag,Fld.has,qds,Fld.kind,Fld.null,Fld.of,Fld.sub,qa0,qbN,qa6,qaN,qaD,qaw,uv0,nul_no,c0,h0]
 have ao:∀ af:Tree,(fun ab:Tree=>(be 4 ((IntKind.i32.wrap (ab.at_ 0).N))) ++ ((if (decide (v ≥ 0)) = true then (uv ((ab.at_ 1).S.length + 1) ++ (ab.at_ 1).S) else (be 2 (ab.at_ 1).S.length ++ (ab.at_ 1).S)) ++ ((be 4 ((IntKind.i32.wrap (ab.at_ 2).N))) ++ ((if (decide (v ≥ 0)) = true then (if (ab.at_ 3).null = true then uv 0 else uv ((qbo (ab.at_ 3)).length + 1) ++ (qbo (ab.at_ 3))) else (if (ab.at_ 3).null = true then be 2 (-1) else be 2 (qbo (ab.at_ 3)).length ++ (qbo (ab.at_ 3)))) ++ (if (decide (v ≥ 0)) = true then (uv ab.U.length) ++ (qck ab.U) else []))))) (qch (fitT v 7) (Fld.mk 10 0 (-1) (-1) (-1) 0 10 [(Fld.mk 3 0 (-1) (-1) (-1) 0 0 []),(Fld.mk 8 0 (-1) (-1) (-1) 0 0 []),(Fld.mk 3 0 (-1) (-1) (-1) 0 0 []),(Fld.mk 8 0 (-1) 0 (-1) 0 0 [])]) (Fld.nul (Fld.mk 10 0 (-1) (-1) (-1) 0 10 [(Fld.mk 3 0 (-1) (-1) (-1) 0 0 []),(Fld.mk 8 0 (-1) (-1) (-1) 0 0 []),(Fld.mk 3 0 (-1) (-1) (-1) 0 0 []),(Fld.mk 8 0 (-1) 0 (-1) 0 0 [])]) v af) af) = qa8 7 [(Fld.mk 3 0 (-1) (-1) (-1) 0 0 []),(Fld.mk 8 0 (-1) (-1) (-1) 0 0 []),(Fld.mk 3 0 (-1) (-1) (-1) 0 0 []),(Fld.mk 8 0 (-1) 0 (-1) 0 0 [])] v (decide (v ≥ 0)) af:=by
  intro af
  dsimp only
  obtain ⟨ap,ar⟩:=fit_10 (v:=v) (d:=7) (x1:=0) (x2:=-1) (x5:=0) (x6:=10) (s:=[(Fld.mk 3 0 (-1) (-1) (-1) 0 0 []),(Fld.mk 8 0 (-1) (-1) (-1) 0 0 []),(Fld.mk 3 0 (-1) (-1) (-1) 0 0 []),(Fld.mk 8 0 (-1) 0 (-1) 0 0 [])]) (b:=Fld.nul z64 v af) (x:=af)
  simp only [ap,ar]
  have aJ:((fitT v 7 [(Fld.mk 3 0 (-1) (-1) (-1) 0 0 []),(Fld.mk 8 0 (-1) (-1) (-1) 0 0 []),(Fld.mk 3 0 (-1) (-1) (-1) 0 0 []),(Fld.mk 8 0 (-1) 0 (-1) 0 0 [])] af).at_ 0).N = (af.at_ 0).N:=qdZ (d:=6) (show [(Fld.mk 3 0 (-1) (-1) (-1) 0 0 []),(Fld.mk 8 0 (-1) (-1) (-1) 0 0 []),(Fld.mk 3 0 (-1) (-1) (-1) 0 0 []),(Fld.mk 8 0 (-1) 0 (-1) 0 0 [])][0]? = _ from rfl) (by decide)
  have aK:=qlu (v:=v) (d:=6) (t:=af) (l:=[(Fld.mk 3 0 (-1) (-1) (-1) 0 0 []),(Fld.mk 8 0 (-1) (-1) (-1) 0 0 []),(Fld.mk 3 0 (-1) (-1) (-1) 0 0 []),(Fld.mk 8 0 (-1) 0 (-1) 0 0 [])]) (i:=1) (show [(Fld.mk 3 0 (-1) (-1) (-1) 0 0 []),(Fld.mk 8 0 (-1) (-1) (-1) 0 0 []),(Fld.mk 3 0 (-1) (-1) (-1) 0 0 []),(Fld.mk 8 0 (-1) 0 (-1) 0 0 [])][1]? = _ from rfl) (by decide)
  have aL:((fitT v 7 [(Fld.mk 3 0 (-1) (-1) (-1) 0 0 []),(Fld.mk 8 0 (-1) (-1) (-1) 0 0 []),(Fld.mk 3 0 (-1) (-1) (-1) 0 0 []),(Fld.mk 8 0 (-1) 0 (-1) 0 0 [])] af).at_ 2).N = (af.at_ 2).N:=qdZ (d:=6) (show [(Fld.mk 3 0 (-1) (-1) (-1) 0 0 []),(Fld.mk 8 0 (-1) (-1) (-1) 0 0 []),(Fld.mk 3 0 (-1) (-1) (-1) 0 0 []),(Fld.mk 8 0 (-1) 0 (-1) 0 0 [])][2]? = _ from rfl) (by decide)
  have aw:=qhR (v:=v) (d:=6) (t:=af) (l:=[(Fld.mk 3 0 (-1) (-1) (-1) 0 0 []),(Fld.mk 8 0 (-1) (-1) (-1) 0 0 []),(Fld.mk 3 0 (-1) (-1) (-1) 0 0 []),(Fld.mk 8 0 (-1) 0 (-1) 0 0 [])]) (i:=3) (show [(Fld.mk 3 0 (-1) (-1) (-1) 0 0 []),(Fld.mk 8 0 (-1) (-1) (-1) 0 0 []),(Fld.mk 3 0 (-1) (-1) (-1) 0 0 []),(Fld.mk 8 0 (-1) 0 (-1) 0 0 [])][3]? = _ from rfl) (by decide)
  simp only [qf9,qdQ,qcV,List.flatMap_map,List.length_map,aJ,aK,aL,aw.1,aw.2]
  try simp only [be4_i32',qgD,qgG,qif,qfB,qcM,qkG,qgL]
  by_cases c0:v ≥ 2 <;> by_cases n0:Fld.nul (Fld.mk 8 0 (-1) 0 (-1) 0 0 []) v (af.at_ 3) = true <;> (try have m0:=qjV n0) <;> first | (exfalso; omega) | simp [qa8,qeF,qaZ,Fld.tag,Fld.has,qds,Fld.kind,Fld.null,Fld.of,Fld.sub,qa0,qbN,qa6,qaN,qaD,qaw,uv0,nul_no,c0,n0,h0]
 unfold qam
 simp only [qf9,qdQ,qcV,List.flatMap_map,List.length_map,ax,ay,au.1,au.2,az,f57n,aA,f58n,aB]
 simp only [ah,ao]
 try simp only [be4_i32',qgD,qgG,qif,qfB,qcM,qkG,qgL]
 by_cases c0:v ≥ 2 <;> by_cases n0:Fld.nul (Fld.mk 8 0 (-1) 0 (-1) 0 0 []) v (t.at_ 2) = true <;> (try have m0:=qjV n0) <;> first | (exfalso; omega) | simp [qdf,qai,sShareAcknowledgeResponseF,qa8,qeF,qaZ,Fld.tag,Fld.has,qds,Fld.kind,Fld.null,Fld.of,Fld.sub,qa0,qbN,qa6,qaN,qaD,qaw,uv0,nul_no,c0,n0,h0]
def dv0:DV:=.leaf
def qga (ok:World → (Nat → Nat → Prop) → DV → Prop):Prop:=∀ {w w':World} {F F' M:Nat → Nat → Prop} (d:DV),Step w w' M → (∀ b o,F b o → b < w.heap.size → ¬ M b o) → (∀ b o,F b o → b < w.heap.size → F' b o) → ok w F d → ok w' F' d
section
variable {w w' w0:World} {F F' M:Nat → Nat → Prop} {size:Nat} {cells:DV → List Value} {ok:World → (Nat → Nat → Prop) → DV → Prop} {rel:DV → Tree → Prop} {xs:List Value} {ds:List DV} {ts:List Tree} {A:Option Addr} {c:Nat} {f:Nat → DV} {tb:Tb} {rs rs':List Rw}
end
theorem qhX {P:Program} {c:Code} {Mid N:Act → World → Prop} {Q:Exit → Act → World → Prop} {a:Act} {w:World} (h1:c.wp P (Exit.then Mid Q) a w) (h2:∀ a' w',Mid a' w' → N a' w'):c.wp P (Exit.then N Q) a w :=
 wp_mono h1 fun e a' w' h=>by
  cases e <;> first | exact h2 a' w' h | exact h
def dvN (n:Int):DV:=.mk n false ByteArray.empty [] none 0 0 none [] (fun _=>.leaf)
def dvS (s:ByteArray):DV:=.mk 0 false s [] none 0 0 none [] (fun _=>.leaf)
def dvT (A:Option Addr) (s:ByteArray):DV:=.mk 0 false s [] A 0 0 none [] (fun _=>.leaf)
def dvO (A:Option Addr) (o:Bs) (c:Nat):DV:=.mk 0 false ByteArray.empty o A 0 c none [] (fun _=>.leaf)
def dvL (A:Option Addr) (l c:Nat) (f:Nat → DV):DV:=.mk 0 false ByteArray.empty [] A l c none [] f
def dvP (m:Option Nat) (u:List (Int × Bs)) (fs:List DV):DV:=.mk 0 false ByteArray.empty [] none 0 0 m u (fun i=>fs.getD i .leaf)
theorem EnvOk.retable {n:Nat} {env:Env} {a:Act} (tb:Tb) (h:EnvOk n [] env a):EnvOk n tb env a:=h.table fun i hi=>absurd hi (Nat.not_lt_zero i)
def cutA (A:Option Addr) (cp j:Nat):Option Addr:=if cp = j then A else A.map (·.add j)
theorem qj0 (s:Bs) (j i:Nat):(s.drop j).getD i 0 = s.getD (j + i) 0:=by
 rw [List.getD_eq_getElem?_getD,List.getD_eq_getElem?_getD,List.getElem?_drop]
theorem Octs.drop {w:World} {F:Nat → Nat → Prop} {A:Option Addr} {c:Nat} {s:Bs} (h:Octs w F A c s) {j:Nat} (hj:j ≤ s.length):Octs w F (cutA A c j) (c - j) (s.drop j):=by
 have hle:=h.le
 have hsm:=h.small
 unfold Octs
 rw [List.length_drop]
 refine ⟨by omega,by omega,fun hA=>?_,fun ad hA hn=>?_⟩
 ·have hn:A = none:=by
   unfold cutA at hA
   split at hA
   ·exact hA
   cases A with
   | none=>rfl
   | some _=>cases hA
  have:=h.none_ hn
  omega
 have hA':A.map (·.add j) = some ad:=by
  unfold cutA at hA
  rwa [if_neg (by omega)] at hA
 cases hq:A with
 | none=>rw [hq] at hA'; cases hA'
 | some ad0 =>
  rw [hq] at hA'
  obtain ⟨b,o,rfl,h2⟩:=h.some_ ad0 hq (by omega)
  simp only [Option.map_some,Option.some.injEq,qb4] at hA'
  subst hA'
  refine ⟨b,o + j,rfl,fun i hi=>?_⟩
  rw [qj0,show o + j + i * 1 = o + (j + i) * 1 by omega]
  exact h2 (j + i) (by omega)
theorem Octs.cutS {w:World} {F:Nat → Nat → Prop} {A:Option Addr} {c:Nat} {s:Bs} (h:Octs w F A c s) {j:Nat} (hj:j ≤ s.length):Octs w F A j (s.take j):=by
 have h1:=h.take j
 refine ⟨by rw [List.length_take]; omega,h1.small,fun hA=>?_,h1.some_⟩
 have:=h.none_ hA
 rw [List.length_take]; omega
section
variable {P:Program} {ops:Array Oper} {Q:Exit → Act → World → Prop} {n:Nat} {tb:Tb} {env:Env} {rs:List Rw} {w0:World} {M:Nat → Nat → Prop} {a:Act} {w:World}
theorem qiX {t e:TypeId} {bytes:Nat} (ht:qc2 P t = some (e,1,bytes)) {A:Option Addr} {m cp:Nat} {k:IntKind} {q:Int} (h0:0 ≤ q) (h1:q ≤ m) :
  (Instr.sliceAt t (.slice A m cp) (some (.int k q)) none none).run P w = .ok (.slice (cutA A cp q.toNat) (m - q.toNat) (cp - q.toNat)) w:=by
 obtain ⟨ht',inf,z,hi,hz,hzs,hs1,rfl,hsz,hbp⟩:=qcD ht
 unfold Instr.sliceAt
 simp only [Sem.run_bind,run_underlying ht',Result.andThen_ok]
 unfold Instr.slice
 have hb:(0 ≤ q ∧ q ≤ (m:Int)):=⟨h0,h1⟩
 simp only [Sem.run_bind,run_underlying ht',Result.andThen_ok,Instr.sliceBounds,Instr.sliceBound,asIntOf,Sem.run_pure,if_pos hb,run_sizeOf' hi,hs1,Nat.mul_one]
 rfl
theorem qiY {t e:TypeId} {bytes:Nat} (ht:qc2 P t = some (e,1,bytes)) {A:Option Addr} {m cp:Nat} {k:IntKind} {q:Int} (h0:0 ≤ q) (h1:q ≤ cp) :
  (Instr.sliceAt t (.slice A m cp) none (some (.int k q)) (some (.int k q))).run P w = .ok (.slice A q.toNat q.toNat) w:=by
 obtain ⟨ht',inf,z,hi,hz,hzs,hs1,rfl,hsz,hbp⟩:=qcD ht
 unfold Instr.sliceAt
 simp only [Sem.run_bind,run_underlying ht',Result.andThen_ok]
 unfold Instr.slice
 have hb:(0 ≤ q ∧ q ≤ (cp:Int)):=⟨h0,h1⟩
 have hb2:(0 ≤ q ∧ q ≤ ((q.toNat:Nat):Int)):=⟨h0,by omega⟩
 simp only [Sem.run_bind,run_underlying ht',Result.andThen_ok,Instr.sliceBounds,Instr.sliceBound,asIntOf,Sem.run_pure,if_pos hb,if_pos hb2,run_sizeOf' hi]
 cases A with
 | none=>simp
 | some ad=>simp [Addr.add]
theorem qdR {i d j:Nat} {N:Act → World → Prop} {t e:TypeId} {bytes m cp:Nat} {A:Option Addr} {q:Int} (hE:EnvOk n tb env a) (h:cutE tb env ops n i = some (t,.slice A m cp,some q,none,d)) (ht:qc2 P t = some (e,1,bytes)) (hq:q = (j:Int)) (hj:j ≤ m)
  (K:∀ a',EnvOk n tb ((d,.v (.slice (cutA A cp j) (m - j) (cp - j))) :: env) a' → N a' w):wpOp P ops Q i N a w:=by
 have h0:0 ≤ q:=by omega
 have h1:q ≤ m:=by omega
 obtain rfl:j = q.toNat:=by omega
 unfold cutE at h
 split at h
 ·rename_i t' x lo hi d' ho
  have hd:d' < n:=(qbH hE ho).choose_spec.2.2.2.1
  split at h
  ·simp at h
  ·rename_i s l hs
   split at h
   ·rename_i k q' hs2
    simp only [Option.some.injEq,Prod.mk.injEq,true_and] at h
    obtain ⟨rfl,hsv,rfl,rfl⟩:=h
    have e1:=(qba hE hs).1
    have e2:=(qba hE hs2).1
    refine qbe hE ho (v:=.slice (cutA A cp q'.toNat) (m - q'.toNat) (cp - q'.toNat)) (w':=w) (fun o' hop=>?_) (K _ (hE.put hd (.v _) trivial))
    unfold execOp
    rw [hop]
    rw [hsv] at e1
    simp only [SV.val] at e2
    simp only [e1,e2,Option.map_none,Option.map_some,Sem.run_bind,qiX ht h0 h1,Result.andThen_ok,Sem.run_pure]
   cases h
  ·split at h <;> simp at h
  ·split at h <;> simp at h
  cases h
 cases h
def ql4 (tb:Tb) (env:Env) (ops:Array Oper) (n i:Nat):Option (TypeId × Value × IntKind × Int × IntKind × Int × Nat) :=
 match opAt env ops n i with
 | some (.slice t x none (some h) (some m),d)=>match opd env x,opd env h,opd env m with
  | some s,some (.v (.int k p)),some (.v (.int k' q))=>some (t,s.val tb,k,p,k',q,d)
  | _,_,_=>none
 | _=>none
theorem qj1 {i d j:Nat} {N:Act → World → Prop} {t e:TypeId} {bytes m cp:Nat} {A:Option Addr} {k:IntKind} {q:Int} (hE:EnvOk n tb env a) (h:ql4 tb env ops n i = some (t,.slice A m cp,k,q,k,q,d)) (ht:qc2 P t = some (e,1,bytes)) (hq:q = (j:Int)) (hj:j ≤ cp)
  (K:∀ a',EnvOk n tb ((d,.v (.slice A j j)) :: env) a' → N a' w):wpOp P ops Q i N a w:=by
 have h0:0 ≤ q:=by omega
 have h1:q ≤ cp:=by omega
 obtain rfl:j = q.toNat:=by omega
 unfold ql4 at h
 split at h
 ·rename_i t' x hh mm d' ho
  have hd:d' < n:=(qbH hE ho).choose_spec.2.2.2.1
  split at h
  ·rename_i s k1 p1 k2 q2 g1 g2 g3
   simp only [Option.some.injEq,Prod.mk.injEq] at h
   obtain ⟨rfl,hsv,rfl,rfl,rfl,rfl,rfl⟩:=h
   have f1:=(qba hE g1).1
   have f2:=(qba hE g2).1
   have f3:=(qba hE g3).1
   rw [hsv] at f1
   simp only [SV.val] at f2 f3
   refine qbe hE ho (v:=.slice A q2.toNat q2.toNat) (w':=w) (fun o' hop=>?_) (K _ (hE.put hd (.v _) trivial))
   unfold execOp
   rw [hop]
   simp only [f1,f2,f3,Option.map_none,Option.map_some,Sem.run_bind,qiY ht h0 h1,Result.andThen_ok,Sem.run_pure]
  cases h
 cases h
end
structure RdS (w:World) (F:Nat → Nat → Prop) (A:Option Addr) (n c:Nat) (s:Bs):Prop where
 len:n = s.length
 oct:Octs w F A c s
theorem RdS.move {w w':World} {F F' M:Nat → Nat → Prop} {A:Option Addr} {n c:Nat} {s:Bs} (h:RdS w F A n c s) (hs:Step w w' M) (hM:∀ b o,F b o → b < w.heap.size → ¬ M b o) (hF:∀ b o,F b o → b < w.heap.size → F' b o):RdS w' F' A n c s:=⟨h.len,Octs.move h.oct hs hM hF⟩
theorem RdS.cast {w:World} {F:Nat → Nat → Prop} {A:Option Addr} {n c:Nat} {s t:Bs} (h:RdS w F A n c s) (e:s = t):RdS w F A n c t:=e ▸ h
theorem RdS.drop {w:World} {F:Nat → Nat → Prop} {A:Option Addr} {n c j:Nat} {s t:Bs} (h:RdS w F A n c (s ++ t)) (hj:j = s.length):RdS w F (cutA A c j) (n - j) (c - j) t:=by
 subst hj
 have h1:=h.oct.drop (j:=s.length) (by rw [List.length_append]; omega)
 rw [List.drop_left] at h1
 exact ⟨by rw [h.len,List.length_append]; omega,h1⟩
theorem RdS.front {w:World} {F:Nat → Nat → Prop} {A:Option Addr} {n c j:Nat} {s t:Bs} (h:RdS w F A n c (s ++ t)) (hj:j = s.length):Octs w F A j s:=by
 subst hj
 have h1:=h.oct.cutS (j:=s.length) (by rw [List.length_append]; omega)
 rwa [List.take_left] at h1
def RdM (br:Nat):Nat → Nat → Prop:=fun b o=>b = br ∧ o < 2
def RdPost (w:World) (br:Nat) (F:Nat → Nat → Prop) (rest:Bs) (Q:Value → World → Prop):Ending → World → Prop:=fun e w' =>
 ∃ v A' n' c',e = .returned v ∧ Str w' br [.slice A' n' c',.bool false] ∧ RdS w' F A' n' c' rest ∧ Step w w' (RdM br) ∧ Q v w'
theorem WOk.startStr {w:World} {p:Nat} {cs:List Value} (h:Str w p cs) (hn:Nat.blt 0 cs.length = true:=by kernel_rfl):WOk w (fun b o=>b = p ∧ o < cs.length) w [⟨p,0,cs,true⟩] []:=by
 have hn':0 < cs.length:=by simpa [Nat.blt_eq] using hn
 exact (WOk.start w _).add ⟨p,0,cs,true⟩ (World.lt_of_cell (h.at_ 0 _ (List.getElem?_eq_getElem hn'))) (fun j v hj=>by rw [Nat.zero_add]; exact h.at_ j v hj) (fun _ j hj=>⟨.inr ⟨rfl,by rw [Nat.zero_add]; exact hj⟩,by rw [Nat.zero_add]; exact h.frz j hj⟩) (fun i o hi=>by simp at hi) (fun i r hi=>by simp at hi)
theorem WOk.wrote {w0 w w':World} {M:Nat → Nat → Prop} {tb:Tb} {rs:List Rw} {p:Nat} {cs cs':List Value} (hW:WOk w0 M w tb rs) (i:Nat) (tb':Tb) (hi:tb[i]? = some ⟨p,0,cs,true⟩) (hst:Step w w' (fun b o=>b = p ∧ o < cs.length)) (hs:Str w' p cs') (ht:tb.set i ⟨p,0,cs',true⟩ = tb':=by rfl) (hl:cs'.length = cs.length:=by rfl) :
  WOk w0 M w' tb' rs ∧ Fr w tb rs w' tb' rs ∧ ∀ {G:Nat → Nat → Prop} (b o:Nat),Fp (Imm G w0 w tb rs) w b o → b < w'.heap.size → Imm G w0 w' tb' rs b o:=by
 subst ht
 have key:∀ (j:Nat) (o:Ob),(tb.set i ⟨p,0,cs',true⟩)[j]? = some o → (j = i ∧ o = ⟨p,0,cs',true⟩) ∨ (j ≠ i ∧ tb[j]? = some o):=fun j o hj=>by
  rcases qd3 hj with ⟨h1,h2,_⟩ | ⟨h1,h2⟩
  ·exact .inl ⟨h1,h2⟩
  exact .inr ⟨h1,h2⟩
 have far:∀ (j:Nat) (o:Ob),j ≠ i → tb[j]? = some o → ∀ q,q < o.cells.length → ¬ (o.blk = p ∧ o.off + q < cs.length):=fun j o hne hj q hq e=>by
  rcases hW.apart j i o _ hne hj hi (.inr rfl) with h1 | h1 | h1
  ·exact h1 e.1
  ·simp only [Nat.le_zero] at h1; omega
  simp only [Nat.zero_add] at h1; omega
 have act:∀ b o,Act_ (tb.set i ⟨p,0,cs',true⟩) rs b o → Act_ tb rs b o:=fun b o ha=>by
  rcases ha with ⟨j,ob,hj,h1,h2,h3,h4⟩ | ha
  ·rcases key j ob hj with ⟨rfl,rfl⟩ | ⟨_,hj⟩
   ·exact .inl ⟨j,_,hi,rfl,h2,h3,by simpa [hl] using h4⟩
   exact .inl ⟨j,ob,hj,h1,h2,h3,h4⟩
  exact .inr ha
 refine ⟨⟨hW.step.trans hst fun b o hb e=>?_,?_,?_,?_,?_,?_,hW.ownM,?_,hW.rr⟩,⟨fun b o _ hn ha=>hn (act b o ha),hst.mono fun b o _ e=>.inl ⟨i,_,hi,rfl,e.1.symm,Nat.zero_le _,by simpa using e.2⟩⟩,fun b o hf hb=>?_⟩
 rotate_right
 ·rcases hf with hf | hf
  ·exact ⟨hf.1,hb,fun ha=>hf.2.2 (act b o ha)⟩
  exact ⟨.inr (Nat.le_trans hW.step.size hf),hb,fun ha=>by have:=hW.act_live (act b o ha); omega⟩
 ·have h1:=(hW.rw_ i _ hi rfl o e.2).1
  simp only [Nat.zero_add] at h1
  rcases h1 with h1 | h1
  ·have:=e.1; omega
  rw [e.1]; exact h1
 ·intro j o hj q v hv
  rcases key j o hj with ⟨rfl,rfl⟩ | ⟨hne,hj⟩
  ·dsimp only
   rw [Nat.zero_add]
   exact hs.at_ q v hv
  exact hst.cell (far j o hne hj q (List.getElem?_eq_some_iff.1 hv).1) (hW.cells j o hj q v hv)
 ·intro j o hj
  rcases key j o hj with ⟨rfl,rfl⟩ | ⟨_,hj⟩
  ·have h1:=hW.live j _ hi
   exact Nat.lt_of_lt_of_le h1 hst.size
  exact Nat.lt_of_lt_of_le (hW.live j o hj) hst.size
 ·intro j o hj hr q hq
  rcases key j o hj with ⟨rfl,rfl⟩ | ⟨hne,hj⟩
  ·dsimp only at hq ⊢
   refine ⟨(hW.rw_ j _ hi rfl q (by simpa [hl] using hq)).1,?_⟩
   rw [Nat.zero_add]
   exact hs.frz q hq
  obtain ⟨h1,h2⟩:=hW.rw_ j o hj hr q hq
  exact ⟨h1,hst.frozen (far j o hne hj q hq) (hW.cells j o hj q _ (List.getElem?_eq_getElem hq)) h2⟩
 ·intro j k o o' hjk hj hk hw
  rcases key j o hj with ⟨rfl,rfl⟩ | ⟨hne,hj'⟩
  ·rcases key k o' hk with ⟨rfl,rfl⟩ | ⟨hne',hk'⟩
   ·exact absurd rfl hjk
   have:=hW.apart j k _ o' hjk hi hk' (.inl rfl)
   simpa [hl] using this
  rcases key k o' hk with ⟨rfl,rfl⟩ | ⟨hne',hk'⟩
  ·have:=hW.apart j k o _ hjk hj' hi (.inr rfl)
   simpa [hl] using this
  exact hW.apart j k o o' hjk hj' hk' hw
 ·intro j r hj
  refine qfz (hW.own j r hj) fun g hg=>(hst.keeps g (qcg (hW.own j r hj) hg)).1 fun o e=>?_
  exact hW.rtb j r hj g hg i _ hi e.1.symm
 intro j r hj g hg k o hk
 rcases key k o hk with ⟨rfl,rfl⟩ | ⟨_,hk⟩
 ·have h1:=hW.rtb j r hj g hg k _ hi
  exact h1
 exact hW.rtb j r hj g hg k o hk
theorem WOk.giveUp {G:Nat → Nat → Prop} {w0 w:World} {tb:Tb} {rs:List Rw} {A:Option Addr} {c e:Nat} {s:Bs} (hW:WOk w0 Nil w tb rs) (k:Nat) (rs':List Rw) (hk:rs[k]? = some (brow A c e s)) (hsm:s.length ≤ 1099511627776) (hr:rs.take k = rs':=by rfl):Octs w (Imm G w0 w tb rs') A c s:=by
 subst hr
 refine qcF (hW.own k _ hk) hsm fun g hg o=>?_
 have hb:=qcg (hW.own k _ hk) (r:=brow A c e s) hg
 refine ⟨?_,hb,fun ha=>?_⟩
 ·rcases hW.ownM k _ hk g hg with h2 | h2
  ·exact .inr h2
  exact (h2 0).elim
 rcases ha with ⟨i,ob,h2,_,h3,_⟩ | ⟨i,r,h2,h3⟩
 ·exact hW.rtb k _ hk g hg i ob h2 h3
 rw [List.getElem?_take] at h2
 split at h2
 ·rename_i hlt
  exact hW.rr k i _ r (by omega) hk h2 g hg h3
 cases h2
theorem qj2 {G:Nat → Nat → Prop} {w0 w:World} {tb:Tb} {rs:List Rw} {p:Nat} {cs:List Value} (i:Nat) (hi:tb[i]? = some ⟨p,0,cs,true⟩):∀ b o,Imm G w0 w tb rs b o → ¬ (b = p ∧ o < cs.length):=fun b o h e=>by
 obtain ⟨rfl,h2⟩:=e
 exact h.2.2 (.inl ⟨i,_,hi,rfl,rfl,Nat.zero_le _,by simpa using h2⟩)
theorem qeb {Q:Exit → Act → World → Prop} {a:Act} {w:World} (h:Q .ret a w):Exit.noGoto Q .ret a w:=h
theorem qj3 (k:IntKind) (n:Nat) (hn:n = k.bits) (hk:∀ z:Int,0 ≤ z → z < 2 ^ n → k.wrap z = z) (i:Nat) (y x:Int) (h0:0 ≤ y) (h1:y < 2 ^ i) (h2:y < 2 ^ n) (h3:0 ≤ x) (h4:x % 2 ^ i = 0) (h5:x < 2 ^ n) :
  k.wrap (BitVec.ofInt n y ||| BitVec.ofInt n x).toNat = y + x:=by
 subst hn
 exact bits_join_low k k.bits (Nat.le_refl _) hk i y x h0 h1 h2 h3 h4 h5
theorem or16 (i:Nat) (y x:Int) (h0:0 ≤ y) (h1:y < 2 ^ i) (h2:y < 2 ^ 16) (h3:0 ≤ x) (h4:x % 2 ^ i = 0) (h5:x < 2 ^ 16):IntKind.u16.wrap (BitVec.ofInt 16 y ||| BitVec.ofInt 16 x).toNat = y + x :=
 qj3 .u16 16 rfl (fun z a b=>by rw [qbZ]; omega) i y x h0 h1 h2 h3 h4 h5
theorem or32 (i:Nat) (y x:Int) (h0:0 ≤ y) (h1:y < 2 ^ i) (h2:y < 2 ^ 32) (h3:0 ≤ x) (h4:x % 2 ^ i = 0) (h5:x < 2 ^ 32):IntKind.u32.wrap (BitVec.ofInt 32 y ||| BitVec.ofInt 32 x).toNat = y + x :=
 qj3 .u32 32 rfl (fun z a b=>by rw [qaA]; omega) i y x h0 h1 h2 h3 h4 h5
theorem qdv (n:Nat) (h:n < 256):(IntKind.u8.wrap (BitVec.ofInt 8 ((n:Nat):Int) &&& BitVec.ofInt 8 128).toNat == 0) = decide (n < 128):=by
 have:∀ m:Fin 256,(IntKind.u8.wrap (BitVec.ofInt 8 ((m.val:Nat):Int) &&& BitVec.ofInt 8 128).toNat == 0) = decide (m.val < 128):=by decide +kernel
 exact this ⟨n,h⟩
theorem qcN (n:Nat) (h:n < 256):IntKind.u8.wrap (BitVec.ofInt 8 ((n:Nat):Int) &&& BitVec.ofInt 8 127).toNat = ((n % 128:Nat):Int):=by
 have:∀ m:Fin 256,IntKind.u8.wrap (BitVec.ofInt 8 ((m.val:Nat):Int) &&& BitVec.ofInt 8 127).toNat = ((m.val % 128:Nat):Int):=by decide +kernel
 exact this ⟨n,h⟩
def oc (s:Bs) (i:Nat):Nat:=(s.getD i 0).toNat
theorem qcy (s:Bs) (i:Nat):oc s i < 256:=(s.getD i 0).toNat_lt
theorem qj4 (b:UInt8) (s:Bs) (i:Nat):oc (b :: s) (i + 1) = oc s i:=rfl
theorem qlw (b:UInt8) (s:Bs):oc (b :: s) 0 = b.toNat:=rfl
theorem qk5 (x:Int) (s:Bs):((oc (by8 x :: s) 0:Nat):Int) = x % 256:=by rw [qlw,qg6]
def be16 (s:Bs):Int:=((oc s 0:Nat):Int) * 256 + oc s 1
def be32 (s:Bs):Int:=((oc s 0:Nat):Int) * 16777216 + oc s 1 * 65536 + oc s 2 * 256 + oc s 3
theorem qlx (x:Int) (s:Bs):be16 (be 2 x ++ s) = IntKind.u16.wrap x:=by
 rw [qbZ]
 simp only [be,List.cons_append,List.nil_append,be16,qj4,qk5,Int.reducePow]
 omega
theorem qly (x:Int) (s:Bs):be32 (be 4 x ++ s) = IntKind.u32.wrap x:=by
 rw [qaA]
 simp only [be,List.cons_append,List.nil_append,be32,qj4,qk5,Int.reducePow]
 omega
theorem i16w (x:Int):IntKind.i16.wrap x = (x + 32768) % 65536 - 32768:=by simp [IntKind.wrap,IntKind.signed,IntKind.bits]; omega
theorem i32w (x:Int):IntKind.i32.wrap x = (x + 2147483648) % 4294967296 - 2147483648:=by simp [IntKind.wrap,IntKind.signed,IntKind.bits]; omega
theorem i64w (x:Int):IntKind.i64.wrap x = (x + 9223372036854775808) % 18446744073709551616 - 9223372036854775808:=by simp [IntKind.wrap,IntKind.signed,IntKind.bits]; omega
theorem qlz (x:Int):IntKind.i16.wrap (IntKind.u16.wrap x) = IntKind.i16.wrap x:=by rw [i16w,i16w,qbZ]; omega
theorem qlA (x:Int):IntKind.i32.wrap (IntKind.u32.wrap x) = IntKind.i32.wrap x:=by rw [i32w,i32w,qaA]; omega
theorem ww16 (x:Int):IntKind.i16.wrap (IntKind.i16.wrap x) = IntKind.i16.wrap x:=by rw [i16w,i16w]; omega
theorem ww32 (x:Int):IntKind.i32.wrap (IntKind.i32.wrap x) = IntKind.i32.wrap x:=by rw [i32w,i32w]; omega
theorem qgQ {x:Nat} (s:Bs):oc (uv x ++ s) 0 = if x < 128 then x else x % 128 + 128:=by
 by_cases h:x < 128
 ·rw [qcZ h,if_pos h]
  show (UInt8.ofNat x).toNat = x
  rw [UInt8.toNat_ofNat']; omega
 rw [qeA (by omega),if_neg h]
 show (UInt8.ofNat (x % 128 + 128)).toNat = _
 rw [UInt8.toNat_ofNat']; omega
theorem qeD {x:Nat} (h:128 ≤ x) (s:Bs) (i:Nat):oc (uv x ++ s) (i + 1) = oc (uv (x / 128) ++ s) i:=by
 rw [qeA h]; rfl
theorem ql5 (b0 b1:Nat) (h0:b0 < 256) (h1:b1 < 256):IntKind.u16.wrap (BitVec.ofInt 16 (IntKind.u16.wrap (((b1:Nat):Int))) ||| BitVec.ofInt 16 (IntKind.u16.wrap (IntKind.u16.wrap (((b0:Nat):Int)) * 256))).toNat = ((b0:Nat):Int) * 256 + ((b1:Nat):Int):=by
 have e1:IntKind.u16.wrap (BitVec.ofInt 16 (IntKind.u16.wrap (((b1:Nat):Int))) ||| BitVec.ofInt 16 (IntKind.u16.wrap (IntKind.u16.wrap (((b0:Nat):Int)) * 256))).toNat = ((b1:Nat):Int) + ((b0:Nat):Int) * 256:=by
  rw [or16 8 _ _ (by first | omega | (simp only [qbZ]; omega)) (by first | omega | (simp only [qbZ]; omega)) (by first | omega | (simp only [qbZ]; omega)) (by first | omega | (simp only [qbZ]; omega)) (by first | omega | (simp only [qbZ]; omega)) (by first | omega | (simp only [qbZ]; omega))]; first | omega | (simp only [qbZ]; omega)
 rw [e1]
 omega
theorem ql6 (b0 b1 b2 b3:Nat) (h0:b0 < 256) (h1:b1 < 256) (h2:b2 < 256) (h3:b3 < 256):IntKind.u32.wrap (BitVec.ofInt 32 (IntKind.u32.wrap (BitVec.ofInt 32 (IntKind.u32.wrap (BitVec.ofInt 32 (IntKind.u32.wrap (((b3:Nat):Int))) ||| BitVec.ofInt 32 (IntKind.u32.wrap (IntKind.u32.wrap (((b2:Nat):Int)) * 256))).toNat) ||| BitVec.ofInt 32 (IntKind.u32.wrap (IntKind.u32.wrap (((b1:Nat):Int)) * 65536))).toNat) ||| BitVec.ofInt 32 (IntKind.u32.wrap (IntKind.u32.wrap (((b0:Nat):Int)) * 16777216))).toNat = ((b0:Nat):Int) * 16777216 + ((b1:Nat):Int) * 65536 + ((b2:Nat):Int) * 256 + ((b3:Nat):Int):=by
 have e1:IntKind.u32.wrap (BitVec.ofInt 32 (IntKind.u32.wrap (((b3:Nat):Int))) ||| BitVec.ofInt 32 (IntKind.u32.wrap (IntKind.u32.wrap (((b2:Nat):Int)) * 256))).toNat = ((b3:Nat):Int) + ((b2:Nat):Int) * 256:=by
  rw [or32 8 _ _ (by first | omega | (simp only [qaA]; omega)) (by first | omega | (simp only [qaA]; omega)) (by first | omega | (simp only [qaA]; omega)) (by first | omega | (simp only [qaA]; omega)) (by first | omega | (simp only [qaA]; omega)) (by first | omega | (simp only [qaA]; omega))]; first | omega | (simp only [qaA]; omega)
 have e2:IntKind.u32.wrap (BitVec.ofInt 32 (((b3:Nat):Int) + ((b2:Nat):Int) * 256) ||| BitVec.ofInt 32 (IntKind.u32.wrap (IntKind.u32.wrap (((b1:Nat):Int)) * 65536))).toNat = ((b3:Nat):Int) + ((b2:Nat):Int) * 256 + ((b1:Nat):Int) * 65536:=by
  rw [or32 16 _ _ (by first | omega | (simp only [qaA]; omega)) (by first | omega | (simp only [qaA]; omega)) (by first | omega | (simp only [qaA]; omega)) (by first | omega | (simp only [qaA]; omega)) (by first | omega | (simp only [qaA]; omega)) (by first | omega | (simp only [qaA]; omega))]; first | omega | (simp only [qaA]; omega)
 have e3:IntKind.u32.wrap (BitVec.ofInt 32 (((b3:Nat):Int) + ((b2:Nat):Int) * 256 + ((b1:Nat):Int) * 65536) ||| BitVec.ofInt 32 (IntKind.u32.wrap (IntKind.u32.wrap (((b0:Nat):Int)) * 16777216))).toNat = ((b3:Nat):Int) + ((b2:Nat):Int) * 256 + ((b1:Nat):Int) * 65536 + ((b0:Nat):Int) * 16777216:=by
  rw [or32 24 _ _ (by first | omega | (simp only [qaA]; omega)) (by first | omega | (simp only [qaA]; omega)) (by first | omega | (simp only [qaA]; omega)) (by first | omega | (simp only [qaA]; omega)) (by first | omega | (simp only [qaA]; omega)) (by first | omega | (simp only [qaA]; omega))]; first | omega | (simp only [qaA]; omega)
 rw [e1,e2,e3]
 omega
theorem uv_1 (b0:Nat) (h0:b0 < 256):IntKind.u32.wrap (IntKind.u8.wrap (BitVec.ofInt 8 ((b0:Nat):Int) &&& BitVec.ofInt 8 127).toNat) = ((b0 % 128:Nat):Int):=by
 rw [qcN b0 h0,qaA]; omega
theorem uv_2 (b0 b1:Nat) (h0:b0 < 256) (h1:b1 < 256):IntKind.u32.wrap (BitVec.ofInt 32 (IntKind.u32.wrap (IntKind.u8.wrap (BitVec.ofInt 8 ((b0:Nat):Int) &&& BitVec.ofInt 8 127).toNat)) ||| BitVec.ofInt 32 (IntKind.u32.wrap (IntKind.u32.wrap (IntKind.u8.wrap (BitVec.ofInt 8 ((b1:Nat):Int) &&& BitVec.ofInt 8 127).toNat) * 128))).toNat = ((b0 % 128:Nat):Int) + ((b1 % 128:Nat):Int) * 128:=by
 have e1:IntKind.u32.wrap (BitVec.ofInt 32 (IntKind.u32.wrap (IntKind.u8.wrap (BitVec.ofInt 8 ((b0:Nat):Int) &&& BitVec.ofInt 8 127).toNat)) ||| BitVec.ofInt 32 (IntKind.u32.wrap (IntKind.u32.wrap (IntKind.u8.wrap (BitVec.ofInt 8 ((b1:Nat):Int) &&& BitVec.ofInt 8 127).toNat) * 128))).toNat = ((b0 % 128:Nat):Int) + ((b1 % 128:Nat):Int) * 128:=by
  rw [qcN b1 h1,qcN b0 h0]; rw [or32 7 _ _ (by first | omega | (simp only [qaA]; omega)) (by first | omega | (simp only [qaA]; omega)) (by first | omega | (simp only [qaA]; omega)) (by first | omega | (simp only [qaA]; omega)) (by first | omega | (simp only [qaA]; omega)) (by first | omega | (simp only [qaA]; omega))]; first | omega | (simp only [qaA]; omega)
 rw [e1]
theorem uv_3 (b0 b1 b2:Nat) (h0:b0 < 256) (h1:b1 < 256) (h2:b2 < 256):IntKind.u32.wrap (BitVec.ofInt 32 (IntKind.u32.wrap (BitVec.ofInt 32 (IntKind.u32.wrap (IntKind.u8.wrap (BitVec.ofInt 8 ((b0:Nat):Int) &&& BitVec.ofInt 8 127).toNat)) ||| BitVec.ofInt 32 (IntKind.u32.wrap (IntKind.u32.wrap (IntKind.u8.wrap (BitVec.ofInt 8 ((b1:Nat):Int) &&& BitVec.ofInt 8 127).toNat) * 128))).toNat) ||| BitVec.ofInt 32 (IntKind.u32.wrap (IntKind.u32.wrap (IntKind.u8.wrap (BitVec.ofInt 8 ((b2:Nat):Int) &&& BitVec.ofInt 8 127).toNat) * 16384))).toNat = ((b0 % 128:Nat):Int) + ((b1 % 128:Nat):Int) * 128 + ((b2 % 128:Nat):Int) * 16384:=by
 have e1:IntKind.u32.wrap (BitVec.ofInt 32 (IntKind.u32.wrap (IntKind.u8.wrap (BitVec.ofInt 8 ((b0:Nat):Int) &&& BitVec.ofInt 8 127).toNat)) ||| BitVec.ofInt 32 (IntKind.u32.wrap (IntKind.u32.wrap (IntKind.u8.wrap (BitVec.ofInt 8 ((b1:Nat):Int) &&& BitVec.ofInt 8 127).toNat) * 128))).toNat = ((b0 % 128:Nat):Int) + ((b1 % 128:Nat):Int) * 128:=by
  rw [qcN b1 h1,qcN b0 h0]; rw [or32 7 _ _ (by first | omega | (simp only [qaA]; omega)) (by first | omega | (simp only [qaA]; omega)) (by first | omega | (simp only [qaA]; omega)) (by first | omega | (simp only [qaA]; omega)) (by first | omega | (simp only [qaA]; omega)) (by first | omega | (simp only [qaA]; omega))]; first | omega | (simp only [qaA]; omega)
 have e2:IntKind.u32.wrap (BitVec.ofInt 32 (((b0 % 128:Nat):Int) + ((b1 % 128:Nat):Int) * 128) ||| BitVec.ofInt 32 (IntKind.u32.wrap (IntKind.u32.wrap (IntKind.u8.wrap (BitVec.ofInt 8 ((b2:Nat):Int) &&& BitVec.ofInt 8 127).toNat) * 16384))).toNat = ((b0 % 128:Nat):Int) + ((b1 % 128:Nat):Int) * 128 + ((b2 % 128:Nat):Int) * 16384:=by
  rw [qcN b2 h2]; rw [or32 14 _ _ (by first | omega | (simp only [qaA]; omega)) (by first | omega | (simp only [qaA]; omega)) (by first | omega | (simp only [qaA]; omega)) (by first | omega | (simp only [qaA]; omega)) (by first | omega | (simp only [qaA]; omega)) (by first | omega | (simp only [qaA]; omega))]; first | omega | (simp only [qaA]; omega)
 rw [e1,e2]
theorem uv_4 (b0 b1 b2 b3:Nat) (h0:b0 < 256) (h1:b1 < 256) (h2:b2 < 256) (h3:b3 < 256):IntKind.u32.wrap (BitVec.ofInt 32 (IntKind.u32.wrap (BitVec.ofInt 32 (IntKind.u32.wrap (BitVec.ofInt 32 (IntKind.u32.wrap (IntKind.u8.wrap (BitVec.ofInt 8 ((b0:Nat):Int) &&& BitVec.ofInt 8 127).toNat)) ||| BitVec.ofInt 32 (IntKind.u32.wrap (IntKind.u32.wrap (IntKind.u8.wrap (BitVec.ofInt 8 ((b1:Nat):Int) &&& BitVec.ofInt 8 127).toNat) * 128))).toNat) ||| BitVec.ofInt 32 (IntKind.u32.wrap (IntKind.u32.wrap (IntKind.u8.wrap (BitVec.ofInt 8 ((b2:Nat):Int) &&& BitVec.ofInt 8 127).toNat) * 16384))).toNat) ||| BitVec.ofInt 32 (IntKind.u32.wrap (IntKind.u32.wrap (IntKind.u8.wrap (BitVec.ofInt 8 ((b3:Nat):Int) &&& BitVec.ofInt 8 127).toNat) * 2097152))).toNat = ((b0 % 128:Nat):Int) + ((b1 % 128:Nat):Int) * 128 + ((b2 % 128:Nat):Int) * 16384 + ((b3 % 128:Nat):Int) * 2097152:=by
 have e1:IntKind.u32.wrap (BitVec.ofInt 32 (IntKind.u32.wrap (IntKind.u8.wrap (BitVec.ofInt 8 ((b0:Nat):Int) &&& BitVec.ofInt 8 127).toNat)) ||| BitVec.ofInt 32 (IntKind.u32.wrap (IntKind.u32.wrap (IntKind.u8.wrap (BitVec.ofInt 8 ((b1:Nat):Int) &&& BitVec.ofInt 8 127).toNat) * 128))).toNat = ((b0 % 128:Nat):Int) + ((b1 % 128:Nat):Int) * 128:=by
  rw [qcN b1 h1,qcN b0 h0]; rw [or32 7 _ _ (by first | omega | (simp only [qaA]; omega)) (by first | omega | (simp only [qaA]; omega)) (by first | omega | (simp only [qaA]; omega)) (by first | omega | (simp only [qaA]; omega)) (by first | omega | (simp only [qaA]; omega)) (by first | omega | (simp only [qaA]; omega))]; first | omega | (simp only [qaA]; omega)
 have e2:IntKind.u32.wrap (BitVec.ofInt 32 (((b0 % 128:Nat):Int) + ((b1 % 128:Nat):Int) * 128) ||| BitVec.ofInt 32 (IntKind.u32.wrap (IntKind.u32.wrap (IntKind.u8.wrap (BitVec.ofInt 8 ((b2:Nat):Int) &&& BitVec.ofInt 8 127).toNat) * 16384))).toNat = ((b0 % 128:Nat):Int) + ((b1 % 128:Nat):Int) * 128 + ((b2 % 128:Nat):Int) * 16384:=by
  rw [qcN b2 h2]; rw [or32 14 _ _ (by first | omega | (simp only [qaA]; omega)) (by first | omega | (simp only [qaA]; omega)) (by first | omega | (simp only [qaA]; omega)) (by first | omega | (simp only [qaA]; omega)) (by first | omega | (simp only [qaA]; omega)) (by first | omega | (simp only [qaA]; omega))]; first | omega | (simp only [qaA]; omega)
 have e3:IntKind.u32.wrap (BitVec.ofInt 32 (((b0 % 128:Nat):Int) + ((b1 % 128:Nat):Int) * 128 + ((b2 % 128:Nat):Int) * 16384) ||| BitVec.ofInt 32 (IntKind.u32.wrap (IntKind.u32.wrap (IntKind.u8.wrap (BitVec.ofInt 8 ((b3:Nat):Int) &&& BitVec.ofInt 8 127).toNat) * 2097152))).toNat = ((b0 % 128:Nat):Int) + ((b1 % 128:Nat):Int) * 128 + ((b2 % 128:Nat):Int) * 16384 + ((b3 % 128:Nat):Int) * 2097152:=by
  rw [qcN b3 h3]; rw [or32 21 _ _ (by first | omega | (simp only [qaA]; omega)) (by first | omega | (simp only [qaA]; omega)) (by first | omega | (simp only [qaA]; omega)) (by first | omega | (simp only [qaA]; omega)) (by first | omega | (simp only [qaA]; omega)) (by first | omega | (simp only [qaA]; omega))]; first | omega | (simp only [qaA]; omega)
 rw [e1,e2,e3]
theorem uv_5 (b0 b1 b2 b3 b4:Nat) (h0:b0 < 256) (h1:b1 < 256) (h2:b2 < 256) (h3:b3 < 256) (h4:b4 < 16):IntKind.u32.wrap (BitVec.ofInt 32 (IntKind.u32.wrap (BitVec.ofInt 32 (IntKind.u32.wrap (BitVec.ofInt 32 (IntKind.u32.wrap (BitVec.ofInt 32 (IntKind.u32.wrap (IntKind.u8.wrap (BitVec.ofInt 8 ((b0:Nat):Int) &&& BitVec.ofInt 8 127).toNat)) ||| BitVec.ofInt 32 (IntKind.u32.wrap (IntKind.u32.wrap (IntKind.u8.wrap (BitVec.ofInt 8 ((b1:Nat):Int) &&& BitVec.ofInt 8 127).toNat) * 128))).toNat) ||| BitVec.ofInt 32 (IntKind.u32.wrap (IntKind.u32.wrap (IntKind.u8.wrap (BitVec.ofInt 8 ((b2:Nat):Int) &&& BitVec.ofInt 8 127).toNat) * 16384))).toNat) ||| BitVec.ofInt 32 (IntKind.u32.wrap (IntKind.u32.wrap (IntKind.u8.wrap (BitVec.ofInt 8 ((b3:Nat):Int) &&& BitVec.ofInt 8 127).toNat) * 2097152))).toNat) ||| BitVec.ofInt 32 (IntKind.u32.wrap (IntKind.u32.wrap (((b4:Nat):Int)) * 268435456))).toNat = ((b0 % 128:Nat):Int) + ((b1 % 128:Nat):Int) * 128 + ((b2 % 128:Nat):Int) * 16384 + ((b3 % 128:Nat):Int) * 2097152 + ((b4:Nat):Int) * 268435456:=by
 have e1:IntKind.u32.wrap (BitVec.ofInt 32 (IntKind.u32.wrap (IntKind.u8.wrap (BitVec.ofInt 8 ((b0:Nat):Int) &&& BitVec.ofInt 8 127).toNat)) ||| BitVec.ofInt 32 (IntKind.u32.wrap (IntKind.u32.wrap (IntKind.u8.wrap (BitVec.ofInt 8 ((b1:Nat):Int) &&& BitVec.ofInt 8 127).toNat) * 128))).toNat = ((b0 % 128:Nat):Int) + ((b1 % 128:Nat):Int) * 128:=by
  rw [qcN b1 h1,qcN b0 h0]; rw [or32 7 _ _ (by first | omega | (simp only [qaA]; omega)) (by first | omega | (simp only [qaA]; omega)) (by first | omega | (simp only [qaA]; omega)) (by first | omega | (simp only [qaA]; omega)) (by first | omega | (simp only [qaA]; omega)) (by first | omega | (simp only [qaA]; omega))]; first | omega | (simp only [qaA]; omega)
 have e2:IntKind.u32.wrap (BitVec.ofInt 32 (((b0 % 128:Nat):Int) + ((b1 % 128:Nat):Int) * 128) ||| BitVec.ofInt 32 (IntKind.u32.wrap (IntKind.u32.wrap (IntKind.u8.wrap (BitVec.ofInt 8 ((b2:Nat):Int) &&& BitVec.ofInt 8 127).toNat) * 16384))).toNat = ((b0 % 128:Nat):Int) + ((b1 % 128:Nat):Int) * 128 + ((b2 % 128:Nat):Int) * 16384:=by
  rw [qcN b2 h2]; rw [or32 14 _ _ (by first | omega | (simp only [qaA]; omega)) (by first | omega | (simp only [qaA]; omega)) (by first | omega | (simp only [qaA]; omega)) (by first | omega | (simp only [qaA]; omega)) (by first | omega | (simp only [qaA]; omega)) (by first | omega | (simp only [qaA]; omega))]; first | omega | (simp only [qaA]; omega)
 have e3:IntKind.u32.wrap (BitVec.ofInt 32 (((b0 % 128:Nat):Int) + ((b1 % 128:Nat):Int) * 128 + ((b2 % 128:Nat):Int) * 16384) ||| BitVec.ofInt 32 (IntKind.u32.wrap (IntKind.u32.wrap (IntKind.u8.wrap (BitVec.ofInt 8 ((b3:Nat):Int) &&& BitVec.ofInt 8 127).toNat) * 2097152))).toNat = ((b0 % 128:Nat):Int) + ((b1 % 128:Nat):Int) * 128 + ((b2 % 128:Nat):Int) * 16384 + ((b3 % 128:Nat):Int) * 2097152:=by
  rw [qcN b3 h3]; rw [or32 21 _ _ (by first | omega | (simp only [qaA]; omega)) (by first | omega | (simp only [qaA]; omega)) (by first | omega | (simp only [qaA]; omega)) (by first | omega | (simp only [qaA]; omega)) (by first | omega | (simp only [qaA]; omega)) (by first | omega | (simp only [qaA]; omega))]; first | omega | (simp only [qaA]; omega)
 have e4:IntKind.u32.wrap (BitVec.ofInt 32 (((b0 % 128:Nat):Int) + ((b1 % 128:Nat):Int) * 128 + ((b2 % 128:Nat):Int) * 16384 + ((b3 % 128:Nat):Int) * 2097152) ||| BitVec.ofInt 32 (IntKind.u32.wrap (IntKind.u32.wrap (((b4:Nat):Int)) * 268435456))).toNat = ((b0 % 128:Nat):Int) + ((b1 % 128:Nat):Int) * 128 + ((b2 % 128:Nat):Int) * 16384 + ((b3 % 128:Nat):Int) * 2097152 + ((b4:Nat):Int) * 268435456:=by
  rw [or32 28 _ _ (by first | omega | (simp only [qaA]; omega)) (by first | omega | (simp only [qaA]; omega)) (by first | omega | (simp only [qaA]; omega)) (by first | omega | (simp only [qaA]; omega)) (by first | omega | (simp only [qaA]; omega)) (by first | omega | (simp only [qaA]; omega))]; first | omega | (simp only [qaA]; omega)
 rw [e1,e2,e3,e4]
theorem qiZ {G:Nat → Nat → Prop} {w0 w:World} {tb:Tb} {rs:List Rw} {p n:Nat} {cs:List Value} (i:Nat) (hi:tb[i]? = some ⟨p,0,cs,true⟩) (hn:cs.length = n:=by rfl):∀ b o,Imm G w0 w tb rs b o → ¬ (b = p ∧ o < n):=by
 subst hn
 exact qj2 i hi
theorem qdw {G:Nat → Nat → Prop} {w0 w:World} {tb:Tb} {rs:List Rw} {p:Nat} {x y:Value} (i:Nat) (hi:tb[i]? = some ⟨p,0,[x,y],true⟩):∀ b o,Imm G w0 w tb rs b o → ¬ RdM p b o:=qj2 i hi
theorem WOk.immM {G:Nat → Nat → Prop} {w0 w:World} {M:Nat → Nat → Prop} {tb:Tb} {rs:List Rw} (h:WOk w0 M w tb rs) (hd:∀ b o,G b o → ¬ M b o):∀ b o,G b o → b < w0.heap.size → Imm G w0 w tb rs b o:=by
 refine fun b o hg hb=>⟨.inl hg,Nat.lt_of_lt_of_le hb h.step.size,fun ha=>hd b o hg ?_⟩
 rcases ha with ⟨i,ob,hi,hr,rfl,h1,h2⟩ | ⟨i,r,hi,hr⟩
 ·have:=(h.rw_ i ob hi hr (o - ob.off) (by omega)).1
  rw [show ob.off + (o - ob.off) = o by omega] at this
  rcases this with h3 | h3
  ·omega
  exact h3
 rcases h.ownM i r hi b hr with h3 | h3
 ·omega
 exact h3 o
section
variable {w0 w:World} {M:Nat → Nat → Prop} {tb:Tb} {rs:List Rw}
theorem WOk.layRowM {g c e size n k:Nat} {xs:List Value} (hW:WOk w0 M w tb rs) (hk:rs[k]? = some ⟨some ⟨g,0,none⟩,c,e,size,n,xs⟩) (hl:k + 1 = rs.length) (hm:w0.heap.size ≤ g) (rs':List Rw) (tb':Tb) (hr:rs.take k = rs':=by rfl) (ht:tb ++ [⟨g,0,xs,true⟩] = tb':=by rfl):WOk w0 M w tb' rs' ∧ Fr w tb rs w tb' rs':=by
 subst hr ht
 have ho:=hW.own k _ hk
 have hlive:=qcg ho (g:=g) rfl
 have hfz:∀ j,w.frozen? ⟨g,j,none⟩ = false:=fun j=>by
  rcases ho.2 with ⟨hv,_⟩ | ⟨g',cap,cur,hv,_,hg,_⟩
  ·cases hv
  simp only [Rw.v,Value.slice.injEq,Option.some.injEq,Addr.mk.injEq,and_true] at hv
  obtain ⟨rfl,_⟩:=hv
  unfold World.frozen?
  rw [hg]
  simp
 have hlt:∀ (j:Nat) (r:Rw),(rs.take k)[j]? = some r → j ≠ k ∧ rs[j]? = some r:=fun j r hj=>by
  rw [List.getElem?_take] at hj
  split at hj
  ·exact ⟨by omega,hj⟩
  cases hj
 refine ⟨(hW.rows k).add ⟨g,0,xs,true⟩ hlive (fun j v hj=>?_) (fun _ j _=>⟨.inl hm,by dsimp only; rw [Nat.zero_add]; exact hfz j⟩) (fun i q hi _=>.inl (hW.rtb k _ hk g rfl i q hi)) (fun i r hi he=>?_),⟨fun x y _ hn ha=>hn ?_,Step.refl _ _⟩⟩
 ·have:=ho.cells (g:=g) rfl j v hj
  rw [qb4] at this
  dsimp only
  exact this
 ·obtain ⟨h1,h2⟩:=hlt i r hi
  exact hW.rr k i _ r (fun e=>h1 e.symm) hk h2 g rfl he
 rcases ha with ⟨j,q,hj,h1,h2,h3,h4⟩ | ⟨j,r,hj,h1⟩
 ·by_cases hjt:j < tb.length
  ·rw [List.getElem?_append_left hjt] at hj
   exact .inl ⟨j,q,hj,h1,h2,h3,h4⟩
  rw [List.getElem?_append_right (Nat.not_lt.1 hjt)] at hj
  have hq:q = ⟨g,0,xs,true⟩:=by
   rcases Nat.eq_zero_or_pos (j - tb.length) with h | h
   ·rw [h] at hj; exact (Option.some.inj hj).symm
   rw [List.getElem?_eq_none (by simp only [List.length_cons,List.length_nil]; omega)] at hj; cases hj
  subst hq
  exact .inr ⟨k,_,hk,by rw [← h2]; rfl⟩
 exact .inr ⟨j,r,(hlt j r hj).2,h1⟩
def qcO (z:Value) (j:Nat):List Value:=(Builtin.zeroCells z.cells j).toList
variable {P:Program} {ops:Array Oper} {Q:Exit → Act → World → Prop} {n:Nat} {env:Env} {a:Act}
theorem qeN {w:World} (size len cap:Nat) (A:Option Addr):(Builtin.firstCells size 0 (.slice A len cap)).run P w = .ok #[] w:=by
 cases A with
 | none=>exact run_firstCells_none w size 0 len cap
 | some b=>exact run_firstCells_some w size 0 b len cap [] (by simp) (fun j v h=>by simp at h)
theorem qfm (w:World) (t tn ty e:TypeId) (A0:Option Addr) (i:TypeInfo) (z:Value) (k kn:IntKind) (ht:P.underlying t = some (.slice e)) (htn:P.underlying tn = some (.int kn)) (hi:P.info? e = some i) (hz:i.zero = some z)
  (n:Nat) (h0:0 < n) (hs:0 < i.size) (h63:(n:Int) ≤ 9223372036854775807) (h48:n * i.bytes ≤ 281474976710656) :
  (Builtin.append_ #[t,tn] ty #[.slice A0 0 0,.int k n]).run P w =
   .ok (.slice (some ⟨w.heap.size,0,none⟩) n (grownCap w n 0 e)) (w.drew.alloc (.cells (Builtin.zeroCells z.cells n ++ Builtin.zeroCells z.cells (grownCap w n 0 e - n)) e)):=by
 cases A0 with
 | none=>exact Lib.run_append_nil_zeros w t tn ty e i z k kn ht htn hi hz n h0 hs h63 h48
 | some b =>
  have hn:n ≠ 0:=by omega
  have hw:IntKind.i64.wrap (n:Int) = n:=by rw [IntKind.wrap_i64]; omega
  have h63':¬ (9223372036854775807 < (n:Int)):=by omega
  have h48':¬ (281474976710656 < Builtin.nextslicecap n 0 * i.bytes):=by rw [nextslicecap_zero h0]; omega
  have h48i:¬ (281474976710656 < (n:Int) * (i.bytes:Int)):=by
   rw [← Int.natCast_mul]
   omega
  have hneg:¬ ((n:Int) < 0):=by omega
  have hns:¬ (n * i.size = 0):=Nat.mul_ne_zero hn (by omega)
  simp [Builtin.append_,run_underlying ht,run_underlying htn,sizeOf,typeInfo,zeroValue,hi,hz,asInt,asIntOf,hw,hn,hneg,hns,h63',h48',h48i,Question.forced,qeN,newRow,grownCap]
theorem qhz {i d j:Nat} {A0:Option Addr} {t tn e:TypeId} {size bytes:Nat} {k kn:IntKind} {q:Int} {z:Value} {N:Act → World → Prop} (hW:WOk w0 M w tb rs) (hE:EnvOk n tb env a)
  (h:appE tb env ops n i = some (t,tn,.slice A0 0 0,.int k q,d)) (ht:qc2 P t = some (e,size,bytes)) (htn:P.underlying tn = some (.int kn)) (hz:(P.info? e).bind (·.zero) = some z)
  (hq:q = (j:Int)) (hj:0 < j) (hb:j * bytes ≤ 140737488355328)
  (K:∀ b c a' w',b = w.heap.size → w0.heap.size ≤ b → Fr w tb rs w' tb (rs ++ [⟨some ⟨b,0,none⟩,c,e,size,j,qcO z j⟩]) → WOk w0 M w' tb (rs ++ [⟨some ⟨b,0,none⟩,c,e,size,j,qcO z j⟩]) →
   EnvOk n tb ((d,.v (.slice (some ⟨b,0,none⟩) j c)) :: env) a' → N a' w'):wpOp P ops Q i N a w:=by
 subst hq
 obtain ⟨ht',inf,z',hi,hz',hzs,hs1,rfl,hsz,hbp⟩:=qcD ht
 have hzz:z' = z:=by rw [hi] at hz; simpa [hz'] using hz
 subst hzz
 obtain ⟨op,ho,hd,hrun⟩:=qjd (P:=P) (w:=w) hE h
 obtain ⟨o,h1,h2,h3,h4,h5⟩:=qbH hE ho
 have hjm:j ≤ maxLen:=by
  have:=Nat.le_mul_of_pos_right j hbp
  simp only [maxLen]; omega
 have hr:=qfm (P:=P) w t tn o.type e A0 inf z' k kn ht' htn hi hz' j hj (by omega) (by simp only [maxLen] at hjm; omega) (by omega)
 have hge:=grownCap_ge w j 0 e
 have hcm:=grownCap_le_maxLen w j 0 e hjm
 have hst:Step w (w.drew.alloc (.cells (Builtin.zeroCells z'.cells j ++ Builtin.zeroCells z'.cells (grownCap w j 0 e - j)) e)) Nil:=(Step.drew w).trans (Step.alloc _ _) fun _ _ _ h=>h
 have hown:(w.drew.alloc (.cells (Builtin.zeroCells z'.cells j ++ Builtin.zeroCells z'.cells (grownCap w j 0 e - j)) e)).ownsRow w.heap.size e size (.slice (some ⟨w.heap.size,0,none⟩) j (grownCap w j 0 e)) j (qcO z' j):=by
  refine ⟨by unfold qcO; rw [Array.length_toList,size_zeroCells,hzs,hs1],.inr ⟨w.heap.size,grownCap w j 0 e,_,rfl,Nat.le_refl _,qc5 w.drew _,hge,hcm,?_,?_⟩⟩
  ·rw [Array.size_append,size_zeroCells,size_zeroCells,hzs,hs1,← Nat.add_mul]
   congr 1
   omega
  unfold qcO
  rw [Array.toList_append]
  exact List.take_left' (by rw [Array.length_toList,size_zeroCells,hzs,hs1])
 simp only [wpOp,h1]
 have:Region.wanted o (yielded ops a.tmps) = true:=by first | exact h2 | simp [Region.wanted,h2]
 rw [this]
 simp only [if_true]
 refine .inl ?_
 unfold Oper.wp
 rw [hrun o _ _ h5 hr,Oper.upon,h3]
 exact K w.heap.size _ _ _ rfl hW.step.size (Fr.fresh tb rs hst ⟨some ⟨w.heap.size,0,none⟩,grownCap w j 0 e,e,size,j,qcO z' j⟩ (Nat.le_refl _) hown) (hW.fresh hst ⟨some ⟨w.heap.size,0,none⟩,grownCap w j 0 e,e,size,j,qcO z' j⟩ (Nat.le_refl _) hown) (hE.put hd (.v _) trivial)
theorem qhY (z:Value) (j:Nat):qcO z (j + 1) = z.cells.toList ++ qcO z j:=by
 refine List.ext_getElem? fun i=>?_
 unfold qcO Builtin.zeroCells
 rw [List.getElem?_append]
 simp only [Array.toList_map,Array.toList_range,List.getElem?_map,Array.length_toList,Array.getElem?_toList]
 by_cases h:i < z.cells.size
 ·have h2:i < (j + 1) * z.cells.size:=Nat.lt_of_lt_of_le h (Nat.le_mul_of_pos_left _ (Nat.succ_pos j))
  rw [if_pos h,List.getElem?_range h2,Option.map_some,Nat.mod_eq_of_lt h,getElem!_pos z.cells i h,Array.getElem?_eq_getElem h]
 rw [if_neg h]
 by_cases h2:i < (j + 1) * z.cells.size
 ·have h3:i - z.cells.size < j * z.cells.size:=by rw [Nat.succ_mul] at h2; omega
  rw [List.getElem?_range h2,List.getElem?_range h3,Option.map_some,Option.map_some,Nat.mod_eq_sub_mod (Nat.not_lt.1 h)]
 have h3:¬ i - z.cells.size < j * z.cells.size:=by rw [Nat.succ_mul] at h2; omega
 rw [List.getElem?_eq_none (by simpa using h2),List.getElem?_eq_none (by simpa using h3)]
end
abbrev qcz:=World → (Nat → Nat → Prop) → Prop
structure MvF (P:qcz):Prop where
 move:∀ {w w':World} {F F' M:Nat → Nat → Prop},Step w w' M → (∀ b o,F b o → b < w.heap.size → ¬ M b o) → (∀ b o,F b o → b < w.heap.size → F' b o) → P w F → P w' F'
def noF:qcz:=fun _ _=>True
def andF (P Q:qcz):qcz:=fun w F=>P w F ∧ Q w F
def isF (p:Prop):qcz:=fun _ _=>p
theorem MvF.no:MvF noF:=⟨fun _ _ _ _=>trivial⟩
theorem MvF.and {P Q:qcz} (h:MvF P) (h':MvF Q):MvF (andF P Q):=⟨fun hs hM hF g=>⟨h.move hs hM hF g.1,h'.move hs hM hF g.2⟩⟩
theorem MvF.is (p:Prop):MvF (isF p):=⟨fun _ _ _ g=>g⟩
theorem MvF.mono {P:qcz} (h:MvF P) {w:World} {F F':Nat → Nat → Prop} (hF:∀ b o,F b o → b < w.heap.size → F' b o) (g:P w F):P w F':=h.move (Step.refl w Nil) nilM hF g
def qi0 (A:Option Addr) (X:Bs):qcz:=fun w F=>∀ ad,A = some ad → ∃ b o,ad = ⟨b,o,none⟩ ∧ AtF w F b o [.string (bs X)]
theorem MvF.text (A:Option Addr) (X:Bs):MvF (qi0 A X):=⟨fun hs hM hF g ad hA=>by
 obtain ⟨b,o,h1,h2⟩:=g ad hA
 exact ⟨b,o,h1,h2.move hs hM hF⟩⟩
def ql7 (m:Option Nat) (u:List (Int × Bs)):qcz:=fun w F=>MapR w F m u
theorem MvF.tags (m:Option Nat) (u:List (Int × Bs)):MvF (ql7 m u):=⟨fun hs hM hF g=>MapR.move g hs hM hF⟩
def atF (b o:Nat) (cs:List Value):qcz:=fun w F=>AtF w F b o cs
theorem MvF.at_ (b o:Nat) (cs:List Value):MvF (atF b o cs):=⟨fun hs hM hF g=>AtF.move g hs hM hF⟩
abbrev rdo (br:Nat) (A:Option Addr) (m c:Nat):Ob:=⟨br,0,[.slice A m c,.bool false],true⟩
theorem qlB {br:Nat} {A A':Option Addr} {m c m' c':Nat} {tb:Tb} {rs:List Rw} {b o:Nat} (h:Act_ (rdo br A m c :: tb) rs b o):Act_ (rdo br A' m' c' :: tb) rs b o:=by
 rcases h with ⟨i,ob,hi,h1⟩ | h
 ·cases i with
  | zero =>
   simp only [List.getElem?_cons_zero,Option.some.injEq] at hi
   subst hi
   exact .inl ⟨0,_,rfl,h1⟩
  | succ i=>exact .inl ⟨i + 1,ob,hi,h1⟩
 exact .inr h
theorem qgR {G:Nat → Nat → Prop} {w0 w:World} {br:Nat} {A A':Option Addr} {m c m' c':Nat} {tb:Tb} {rs:List Rw} {b o:Nat} (h:Imm G w0 w (rdo br A m c :: tb) rs b o):Imm G w0 w (rdo br A' m' c' :: tb) rs b o :=
 ⟨h.1,h.2.1,fun ha=>h.2.2 (qlB ha)⟩
theorem EnvOk.rdo {n br:Nat} {A A':Option Addr} {m c m' c':Nat} {tb:Tb} {env:Env} {a:Act} (h:EnvOk n (rdo br A m c :: tb) env a):EnvOk n (rdo br A' m' c' :: tb) env a:=by
 refine h.table fun i hi=>?_
 cases i with
 | zero=>exact ⟨by simp,rfl,rfl⟩
 | succ i=>exact ⟨by simpa using hi,rfl,rfl⟩
structure RS (w0:World) (M F:Nat → Nat → Prop) (n br:Nat) (tb:Tb) (env:Env) (P:qcz) (s:Bs) (a:Act) (w:World):Prop where
 mv:MvF P
 ex:∃ A m c,WOk w0 M w (rdo br A m c :: tb) [] ∧ RdS w (Imm F w0 w (rdo br none 0 0 :: tb) []) A m c s
 env_:EnvOk n (rdo br none 0 0 :: tb) env a
 fact:P w (Imm F w0 w (rdo br none 0 0 :: tb) [])
section
variable {Pr:Program} {ops opsA opsB opsC:Array Oper} {Q:Exit → Act → World → Prop} {w0:World} {M F:Nat → Nat → Prop} {n br:Nat} {tb:Tb} {env:Env} {P:qcz} {s:Bs} {a:Act} {w:World}
theorem RS.mk' {A:Option Addr} {m c:Nat} (hW:WOk w0 M w (rdo br A m c :: tb) []) (hr:RdS w (Imm F w0 w (rdo br A m c :: tb) []) A m c s) (hE:EnvOk n (rdo br A m c :: tb) env a) (mv:MvF P) (hP:P w (Imm F w0 w (rdo br A m c :: tb) [])):RS w0 M F n br tb env P s a w :=
 ⟨mv,⟨A,m,c,hW,hr.move (Step.refl w Nil) nilM fun b o h _=>qgR h⟩,hE.rdo,mv.mono (fun b o h _=>qgR h) hP⟩
theorem RS.open_ (h:RS w0 M F n br tb env P s a w):∃ A m c,WOk w0 M w (rdo br A m c :: tb) [] ∧ RdS w (Imm F w0 w (rdo br A m c :: tb) []) A m c s ∧ EnvOk n (rdo br A m c :: tb) env a ∧ P w (Imm F w0 w (rdo br A m c :: tb) []):=by
 obtain ⟨A,m,c,hW,hr⟩:=h.ex
 exact ⟨A,m,c,hW,hr.move (Step.refl w Nil) nilM fun b o h _=>qgR h,h.env_.rdo,h.mv.mono (fun b o h _=>qgR h) h.fact⟩
theorem RS.cast {t:Bs} (h:RS w0 M F n br tb env P s a w) (e:s = t):RS w0 M F n br tb env P t a w:=e ▸ h
theorem RS.weak {P':qcz} (h:RS w0 M F n br tb env P s a w) (mv:MvF P') (hP:∀ w F,P w F → P' w F):RS w0 M F n br tb env P' s a w:=⟨mv,h.ex,h.env_,hP _ _ h.fact⟩
theorem RS.pk {env':Env} (h:RS w0 M F n br tb env P s a w) (e:ME.pick env (qcf env') = some env':=by kernel_rfl):RS w0 M F n br tb env' P s a w:=⟨h.mv,h.ex,h.env_.pk e,h.fact⟩
theorem RS.envEq {env':Env} (h:RS w0 M F n br tb env P s a w) (e:env = env'):RS w0 M F n br tb env' P s a w:=e ▸ h
theorem RS.tbEq {tb':Tb} (h:RS w0 M F n br tb env P s a w) (e:tb = tb'):RS w0 M F n br tb' env P s a w:=e ▸ h
theorem RS.recast (h:RS w0 M F n br tb env P s a w) (k:Nat) (x y:SV) (hx:lk env k = some x) (hy:y.val (rdo br none 0 0 :: tb) = x.val (rdo br none 0 0 :: tb)) (ho:y.ok (rdo br none 0 0 :: tb)):RS w0 M F n br tb ((k,y) :: env) P s a w:=⟨h.mv,h.ex,h.env_.recast k x y hx hy ho,h.fact⟩
theorem qcR {L:List Nat} (idxs rest:List Nat) (env':Env) (h:RS w0 M F n br tb env P s a w) (k:∀ a',RS w0 M F n br tb env' P s a' w → wpOps Pr ops Q rest a' w) (e:∀ A m c,qdy Pr ops n (rdo br A m c :: tb) idxs (qcf env') env = some env':=by intro _ _ _; kernel_rfl) (hl:L = idxs ++ rest:=by rfl):wpOps Pr ops Q L a w:=by
 obtain ⟨A,m,c,hW,hr,hE,hP⟩:=h.open_
 exact qb5 idxs rest (qcf env') hW hE (e A m c) hl fun a' hE'=>k a' (RS.mk' hW hr hE' h.mv hP)
theorem qbD {id:Nat} (env':Env) (h:RS w0 M F n br tb env P s a w) (k:∀ a',RS w0 M F n br tb env' P s a' w → Q .normal a' w) (e:∀ A m c,qdy Pr ops n (rdo br A m c :: tb) (List.range ops.size) (qcf env') env = some env':=by intro _ _ _; kernel_rfl):(Code.region id ops false).wp Pr Q a w :=
 qau (List.range ops.size) rfl (qcR (List.range ops.size) [] env' h (fun a' h'=>qag (k a' h')) e (List.append_nil _).symm)
theorem qmr {id:Nat} {y:Code} (env':Env) (h:RS w0 M F n br tb env P s a w) (k:∀ a',RS w0 M F n br tb env' P s a' w → y.wp Pr Q a' w) (e:∀ A m c,qdy Pr ops n (rdo br A m c :: tb) (List.range ops.size) (qcf env') env = some env':=by intro _ _ _; kernel_rfl):(Code.seq (.region id ops false) y).wp Pr Q a w :=
 wp_seq (qbD env' h (fun a' h'=>qab (k a' h')) e)
def qj5 (Pr:Program) (f:FuncId) {τ:Type} (X rest:Bs) (val:τ → Value) (fact:τ → qcz):Prop :=
 ∀ {br:Nat} {A:Option Addr} {m c:Nat} {w:World} {F:Nat → Nat → Prop},Str w br [.slice A m c,.bool false] → RdS w F A m c (X ++ rest) → (∀ b o,F b o → ¬ RdM br b o) →
  Calls Pr f #[.pointer (some ⟨br,0,none⟩)] w (RdPost w br (Fp F w) rest fun v w'=>∃ x,v = val x ∧ fact x w' (Fp F w))
def qdJ (Pr:Program) (f:FuncId) (X rest:Bs) (v0:Value):Prop :=
 ∀ {br:Nat} {A:Option Addr} {m c:Nat} {w:World} {F:Nat → Nat → Prop},Str w br [.slice A m c,.bool false] → RdS w F A m c (X ++ rest) → (∀ b o,F b o → ¬ RdM br b o) →
  Calls Pr f #[.pointer (some ⟨br,0,none⟩)] w (RdPost w br (Fp F w) rest fun v w'=>v = v0)
theorem RdPost.fp {w:World} {br:Nat} {F:Nat → Nat → Prop} {rest:Bs} {Q Q':Value → World → Prop} {e:Ending} {w':World} (hq:∀ v w',Q v w' → Q' v w') (h:RdPost w br F rest Q e w'):RdPost w br (Fp F w) rest Q' e w':=by
 obtain ⟨v,A',n',c',h1,h2,h3,h4,h5⟩:=h
 exact ⟨v,A',n',c',h1,h2,h3.move (Step.refl _ Nil) nilM fun b o g _=>.inl g,h4,hq _ _ h5⟩
theorem RdPost.q {w:World} {br:Nat} {F:Nat → Nat → Prop} {rest:Bs} {Q Q':Value → World → Prop} {e:Ending} {w':World} (hq:∀ v w',Q v w' → Q' v w') (h:RdPost w br F rest Q e w'):RdPost w br F rest Q' e w':=by
 obtain ⟨v,A',n',c',h1,h2,h3,h4,h5⟩:=h
 exact ⟨v,A',n',c',h1,h2,h3,h4,hq _ _ h5⟩
theorem qfn {i d:Nat} {f:FuncId} {τ:Type} {X rest:Bs} {val:τ → Value} {fact:τ → qcz} {N:Act → World → Prop} (h:RS w0 M F n br tb env P (X ++ rest) a w) (hc:qj5 Pr f X rest val fact) (hm:∀ x,MvF (fact x))
  (hf:∀ args w,(callFunc f args).run Pr w = .ok (.enter f args) w) (K:∀ x P' a' w',(∀ w F,P' w F → P w F ∧ fact x w F) → RS w0 M F n br tb ((d,.v (val x)) :: env) P' rest a' w' → N a' w')
  (he:∀ A m c,qfc (rdo br A m c :: tb) env ops n i = some (f,[.pointer (some ⟨br,0,none⟩)],d):=by intro _ _ _; kernel_rfl):wpOp Pr ops Q i N a w:=by
 obtain ⟨A,m,c,hW,hr,hE,hP⟩:=h.open_
 refine qal hE (he A m c) hf (hc (Str.of hW 0 rfl) hr (qdw 0 rfl)) ?_
 rintro e_ w1 ⟨_,A1,n1,c1,rfl,hs,hr1,hst,x,rfl,hx⟩
 refine ⟨_,rfl,fun a1 hE1=>?_⟩
 obtain ⟨hW2,hF2,hL⟩:=hW.wrote 0 (rdo br A1 n1 c1 :: tb) rfl hst hs
 exact K x (andF P (fact x)) a1 w1 (fun _ _ g=>g) (RS.mk' hW2 (hr1.move (Step.refl _ Nil) nilM hL) hE1.rdo (h.mv.and (hm x)) ⟨h.mv.move hF2.step immM hF2.to' hP,(hm x).mono hL hx⟩)
theorem qiq {i d:Nat} {f:FuncId} {X rest:Bs} {v0:Value} {N:Act → World → Prop} (h:RS w0 M F n br tb env P (X ++ rest) a w) (hc:qdJ Pr f X rest v0)
  (hf:∀ args w,(callFunc f args).run Pr w = .ok (.enter f args) w) (K:∀ a' w',RS w0 M F n br tb ((d,.v v0) :: env) P rest a' w' → N a' w')
  (he:∀ A m c,qfc (rdo br A m c :: tb) env ops n i = some (f,[.pointer (some ⟨br,0,none⟩)],d):=by intro _ _ _; kernel_rfl):wpOp Pr ops Q i N a w:=by
 obtain ⟨A,m,c,hW,hr,hE,hP⟩:=h.open_
 refine qal hE (he A m c) hf (hc (Str.of hW 0 rfl) hr (qdw 0 rfl)) ?_
 rintro e_ w1 ⟨_,A1,n1,c1,rfl,hs,hr1,hst,rfl⟩
 refine ⟨_,rfl,fun a1 hE1=>?_⟩
 obtain ⟨hW2,hF2,hL⟩:=hW.wrote 0 (rdo br A1 n1 c1 :: tb) rfl hst hs
 exact K a1 w1 (RS.mk' hW2 (hr1.move (Step.refl _ Nil) nilM hL) hE1.rdo h.mv (h.mv.move hF2.step immM hF2.to' hP))
theorem qhZ {i d:Nat} {f:FuncId} {v0:Value} {N:Act → World → Prop} (h:RS w0 M F n br tb env P s a w) (hc:∀ {br:Nat} {A:Option Addr} {m c:Nat} {w:World},Str w br [.slice A m c,.bool false] → Calls Pr f #[.pointer (some ⟨br,0,none⟩)] w (fun e w'=>e = .returned v0 ∧ w' = w))
  (hf:∀ args w,(callFunc f args).run Pr w = .ok (.enter f args) w) (K:∀ a',RS w0 M F n br tb ((d,.v v0) :: env) P s a' w → N a' w)
  (he:∀ A m c,qfc (rdo br A m c :: tb) env ops n i = some (f,[.pointer (some ⟨br,0,none⟩)],d):=by intro _ _ _; kernel_rfl):wpOp Pr ops Q i N a w:=by
 obtain ⟨A,m,c,hW,hr,hE,hP⟩:=h.open_
 refine qal hE (he A m c) hf (hc (Str.of hW 0 rfl)) ?_
 rintro e_ _ ⟨rfl,rfl⟩
 exact ⟨_,rfl,fun a1 hE1=>K a1 (RS.mk' hW hr hE1 h.mv hP)⟩
theorem qex {i:Nat} (tb':Tb) (j:Nat) {N:Act → World → Prop} (h:RS w0 M F n br tb env P s a w) (K:∀ w',RS w0 M F n br tb' env P s a w' → N a w')
  (he:∀ A m c,qh7 Pr (rdo br A m c :: tb) env ops i = some (j + 1,(obAt tb' j).cells):=by intro _ _ _; kernel_rfl) (ht:Tb.put tb j (obAt tb' j).cells = tb':=by rfl):wpOp Pr ops Q i N a w:=by
 obtain ⟨A,m,c,hW,hr,hE,hP⟩:=h.open_
 refine qao hW hE (he A m c) fun w1 hF1 hW1 hE1=>K w1 ?_
 have e:Tb.put (rdo br A m c :: tb) (j + 1) (obAt tb' j).cells = rdo br A m c :: tb':=by
  show rdo br A m c :: Tb.put tb j (obAt tb' j).cells = _
  rw [ht]
 rw [e] at hF1 hW1 hE1
 exact RS.mk' hW1 (hr.move hF1.step immM hF1.to') hE1 h.mv (h.mv.move hF1.step immM hF1.to' hP)
theorem qkH {i d:Nat} (cs:List Value) {N:Act → World → Prop} (h:RS w0 M F n br tb env P s a w)
  (K:∀ b a' w',w0.heap.size ≤ b → RS w0 M F n br (tb ++ [⟨b,0,cs,true⟩]) ((d,.p (tb.length + 1) 0) :: env) P s a' w' → N a' w')
  (he:qg4 Pr env ops n i = some (d,cs):=by kernel_rfl):wpOp Pr ops Q i N a w:=by
 obtain ⟨A,m,c,hW,hr,hE,hP⟩:=h.open_
 refine qaM hW hE he fun b a1 w1 hb hb0 hF1 hW1 hE1=>K b a1 w1 hb0 ?_
 exact RS.mk' hW1 (hr.move hF1.step immM hF1.to') hE1 h.mv (h.mv.move hF1.step immM hF1.to' hP)
theorem qgt {k:Nat} (h:Nat.blt 0 k = true):List.range k = [0] ++ (List.range k).drop 1:=by
 cases k with
 | zero=>cases h
 | succ k=>rw [List.range_succ_eq_map]; rfl
theorem qi1 {id d:Nat} {f:FuncId} {τ:Type} {X rest:Bs} {val:τ → Value} {fact:τ → qcz} (env':τ → Env) (h:RS w0 M F n br tb env P (X ++ rest) a w) (hc:qj5 Pr f X rest val fact) (hm:∀ x,MvF (fact x))
  (hf:∀ args w,(callFunc f args).run Pr w = .ok (.enter f args) w) (K:∀ x P' a' w',(∀ w F,P' w F → P w F ∧ fact x w F) → RS w0 M F n br tb (env' x) P' rest a' w' → Q .normal a' w')
  (he:∀ A m c,qfc (rdo br A m c :: tb) env ops n 0 = some (f,[.pointer (some ⟨br,0,none⟩)],d):=by intro _ _ _; kernel_rfl)
  (e:∀ x A m c,qdy Pr ops n (rdo br A m c :: tb) ((List.range ops.size).drop 1) (qcf (env' x)) ((d,.v (val x)) :: env) = some (env' x):=by intro _ _ _ _; kernel_rfl) (hs:Nat.blt 0 ops.size = true:=by kernel_rfl):(Code.region id ops false).wp Pr Q a w:=by
 refine qau _ (qgt hs) (qan (qfn h hc hm hf (fun x P' a' w' hP hS=>?_) he))
 exact qcR ((List.range ops.size).drop 1) [] (env' x) hS (fun a2 h2=>qag (K x P' a2 w' hP h2)) (e x) (List.append_nil _).symm
theorem qdY {id d:Nat} {f:FuncId} {X rest:Bs} {v0:Value} (env':Env) (h:RS w0 M F n br tb env P (X ++ rest) a w) (hc:qdJ Pr f X rest v0)
  (hf:∀ args w,(callFunc f args).run Pr w = .ok (.enter f args) w) (K:∀ a' w',RS w0 M F n br tb env' P rest a' w' → Q .normal a' w')
  (he:∀ A m c,qfc (rdo br A m c :: tb) env ops n 0 = some (f,[.pointer (some ⟨br,0,none⟩)],d):=by intro _ _ _; kernel_rfl)
  (e:∀ A m c,qdy Pr ops n (rdo br A m c :: tb) ((List.range ops.size).drop 1) (qcf env') ((d,.v v0) :: env) = some env':=by intro _ _ _; kernel_rfl) (hs:Nat.blt 0 ops.size = true:=by kernel_rfl):(Code.region id ops false).wp Pr Q a w:=by
 refine qau _ (qgt hs) (qan (qiq h hc hf (fun a' w' hS=>?_) he))
 exact qcR ((List.range ops.size).drop 1) [] env' hS (fun a2 h2=>qag (K a2 w' h2)) e (List.append_nil _).symm
theorem qgS {idA idB idC d1 d2:Nat} {o:Operand} {b:Bool} {f1 f2:FuncId} {X1 X2 rest:Bs} {v0:Value} (envA env':Env) (h:RS w0 M F n br tb env P ((if b = true then X1 else X2) ++ rest) a w)
  (hc1:qdJ Pr f1 X1 rest v0) (hf1:∀ args w,(callFunc f1 args).run Pr w = .ok (.enter f1 args) w) (hc2:qdJ Pr f2 X2 rest v0) (hf2:∀ args w,(callFunc f2 args).run Pr w = .ok (.enter f2 args) w)
  (K:∀ a' w',RS w0 M F n br tb env' P rest a' w' → Q .normal a' w')
  (eA:∀ A m c,qdy Pr opsA n (rdo br A m c :: tb) (List.range opsA.size) (qcf envA) env = some envA:=by intro _ _ _; kernel_rfl) (ho:opd envA o = some (.v (.bool b)):=by kernel_rfl)
  (he1:∀ A m c,qfc (rdo br A m c :: tb) envA opsB n 0 = some (f1,[.pointer (some ⟨br,0,none⟩)],d1):=by intro _ _ _; kernel_rfl) (he2:∀ A m c,qfc (rdo br A m c :: tb) envA opsC n 0 = some (f2,[.pointer (some ⟨br,0,none⟩)],d2):=by intro _ _ _; kernel_rfl)
  (e1:∀ A m c,qdy Pr opsB n (rdo br A m c :: tb) ((List.range opsB.size).drop 1) (qcf env') ((d1,.v v0) :: envA) = some env':=by intro _ _ _; kernel_rfl) (e2:∀ A m c,qdy Pr opsC n (rdo br A m c :: tb) ((List.range opsC.size).drop 1) (qcf env') ((d2,.v v0) :: envA) = some env':=by intro _ _ _; kernel_rfl)
  (hs1:Nat.blt 0 opsB.size = true:=by kernel_rfl) (hs2:Nat.blt 0 opsC.size = true:=by kernel_rfl):(Code.seq (.region idA opsA false) (.cond o (.region idB opsB false) (.region idC opsC false))).wp Pr Q a w :=
 qmr envA h (fun a1 h1=>qax h1.env_ ho (fun hb=>qdY env' (h1.cast (by rw [if_pos hb])) hc1 hf1 K he1 e1 hs1) (fun hb=>qdY env' (h1.cast (by rw [hb]; rfl)) hc2 hf2 K he2 e2 hs2)) eA
def stoE (P:Program) (ops:Array Oper) (n:Nat) (tb:Tb) (env:Env) (keys:List Nat):Option (Nat × List Value × Env) :=
 match runs P ops n tb (List.range (ops.size - 1)) env with
 | some e=>match qh7 P tb e ops (ops.size - 1),pick e keys with
  | some (i,cs),some e'=>some (i,cs,e')
  | _,_=>none
 | none=>none
theorem qc1 {id:Nat} (tb':Tb) (j:Nat) (env':Env) (h:RS w0 M F n br tb env P s a w) (K:∀ a' w',RS w0 M F n br tb' env' P s a' w' → Q .normal a' w')
  (he:∀ A m c,stoE Pr ops n (rdo br A m c :: tb) env (qcf env') = some (j + 1,(obAt tb' j).cells,env'):=by intro _ _ _; kernel_rfl) (ht:Tb.put tb j (obAt tb' j).cells = tb':=by rfl) (hs:Nat.blt 0 ops.size = true:=by kernel_rfl):(Code.region id ops false).wp Pr Q a w:=by
 obtain ⟨A,m,c,hW,hr,hE,hP⟩:=h.open_
 have h1:=he A m c
 unfold stoE at h1
 split at h1
 ·rename_i e he'
  split at h1
  ·rename_i i cs e' g1 g2
   simp only [Option.some.injEq,Prod.mk.injEq] at h1
   obtain ⟨rfl,rfl,rfl⟩:=h1
   have hr0:List.range ops.size = List.range (ops.size - 1) ++ [ops.size - 1]:=by
    have:0 < ops.size:=by simpa [Nat.blt_eq] using hs
    rw [← List.range_succ]; congr 1; omega
   refine qau _ hr0 (qeg hW.cells hE he' fun a1 hE1=>qan (qao hW hE1 g1 fun w1 hF1 hW1 hE2=>qag (K a1 w1 ?_)))
   have e:Tb.put (rdo br A m c :: tb) (j + 1) (obAt tb' j).cells = rdo br A m c :: tb':=by
    show rdo br A m c :: Tb.put tb j (obAt tb' j).cells = _
    rw [ht]
   rw [e] at hF1 hW1 hE2
   exact RS.mk' hW1 (hr.move hF1.step immM hF1.to') (hE2.pick g2) h.mv (h.mv.move hF1.step immM hF1.to' hP)
  cases h1
 cases h1
theorem qfo {A0:Option Addr} {i d j:Nat} {t tn e:TypeId} {size bytes:Nat} {k kn:IntKind} {q:Int} (z:Value) {N:Act → World → Prop} (h:RS w0 M F n br tb env P s a w)
  (K:∀ g c a' w',w0.heap.size ≤ g → j ≤ c → RS w0 M F n br (tb ++ [⟨g,0,qcO z j,true⟩]) ((d,.v (.slice (some ⟨g,0,none⟩) j c)) :: env) P s a' w' → N a' w')
  (hq:q = (j:Int)) (hj:0 < j) (hb:j * bytes ≤ 140737488355328)
  (he:∀ A m c,appE (rdo br A m c :: tb) env ops n i = some (t,tn,.slice A0 0 0,.int k q,d):=by intro _ _ _; kernel_rfl) (ht:qc2 Pr t = some (e,size,bytes):=by kernel_rfl) (htn:Pr.underlying tn = some (.int kn):=by kernel_rfl) (hz:(Pr.info? e).bind (·.zero) = some z:=by kernel_rfl):wpOp Pr ops Q i N a w:=by
 obtain ⟨A,m,c,hW,hr,hE,hP⟩:=h.open_
 refine qhz hW hE (he A m c) ht htn hz hq hj hb fun g c1 a1 w1 hg hg0 hF1 hW1 hE1=>?_
 have hP1:=h.mv.move hF1.step immM hF1.to' hP
 have hr1:=hr.move hF1.step immM hF1.to'
 have hcap:j ≤ c1:=by
  obtain ⟨A',c',hv,_,_,h4⟩:=qfA (hW1.own 0 _ rfl)
  simp only [Rw.v,Value.slice.injEq,true_and] at hv
  rw [hv.2]; exact h4
 obtain ⟨hW2,hF2⟩:=hW1.layRowM (k:=0) rfl rfl hg0 [] (rdo br A m c :: (tb ++ [⟨g,0,qcO z j,true⟩])) rfl rfl
 exact K g c1 a1 w1 hg0 hcap (RS.mk' hW2 (hr1.move hF2.step immM hF2.to') (hE1.grow ⟨g,0,qcO z j,true⟩) h.mv (h.mv.move hF2.step immM hF2.to' hP1))
theorem qj6 {i d n':Nat} {f:FuncId} {fn:Func} {c:Code} {vs:List Value} {N:Act → World → Prop} (h:RS w0 M F n br tb env P s a w) (hf:∀ args w,(callFunc f args).run Pr w = .ok (.enter f args) w) (hfn:Pr.funcs[f]? = some fn) (hb:fn.body = some c) (hn:fn.ntmps = n')
  (K:∀ a2,RS w0 M F n' br tb (qfd 0 vs) P s a2 w → c.wp Pr (bodyPost Pr fn (fun e w'=>∃ v,e = .returned v ∧ ∀ a',EnvOk n (rdo br none 0 0 :: tb) ((d,.v v) :: env) a' → N a' w')) a2 w)
  (he:∀ A m c,qfc (rdo br A m c :: tb) env ops n i = some (f,vs,d):=by intro _ _ _; kernel_rfl) (hl:Nat.ble vs.length n' = true:=by kernel_rfl):wpOp Pr ops Q i N a w:=by
 obtain ⟨A,m,c,hW,hr,hE,hP⟩:=h.open_
 exact qbK h.env_ (he none 0 0) hf hfn hb hn hl fun a2 hE2=>K a2 (RS.mk' hW hr hE2.rdo h.mv hP)
theorem qlC {n' d:Nat} {fn:Func} {tb0:Tb} {env0:Env} {v:Value} {N:Act → World → Prop} (h:RS w0 M F n' br tb env P s a w) (K:∀ a',RS w0 M F n br tb ((d,.v v) :: env0) P s a' w → N a' w) (hp:Pl (rdo br none 0 0 :: tb0) (rdo br none 0 0 :: tb))
  (hr:∀ A m c,resE Pr (rdo br A m c :: tb) env fn.results = some v:=by intro _ _ _; kernel_rfl):bodyPost Pr fn (fun e w'=>∃ v,e = .returned v ∧ ∀ a',EnvOk n (rdo br none 0 0 :: tb0) ((d,.v v) :: env0) a' → N a' w') .ret a w:=by
 obtain ⟨A,m,c,hW,hrd,hE,hP⟩:=h.open_
 exact qaK hE hW.cells (hr A m c) ⟨v,rfl,fun a' hE'=>K a' (RS.mk' hW hrd (hE'.places hp).rdo h.mv hP)⟩
theorem qkI {n' d:Nat} {fn:Func} {tb0:Tb} {env0:Env} {v:Value} {N:Act → World → Prop} (h:RS w0 M F n' br tb env P s a w) (K:∀ a',RS w0 M F n br tb ((d,.v v) :: env0) P s a' w → N a' w) (hp:Pl (rdo br none 0 0 :: tb0) (rdo br none 0 0 :: tb))
  (hr:∀ A m c,resE Pr (rdo br A m c :: tb) env fn.results = some v:=by intro _ _ _; kernel_rfl):bodyPost Pr fn (fun e w'=>∃ v,e = .returned v ∧ ∀ a',EnvOk n (rdo br none 0 0 :: tb0) ((d,.v v) :: env0) a' → N a' w') .normal a w :=
 qlC h K hp hr
end
def qh0:Env → Env
 | []=>[]
 | (k,.v x) :: r=>(k,.v x) :: qh0 r
 | (k,.p i j) :: r=>(k,.p (match i with | 0=>1 | 1=>0 | i=>i) j) :: qh0 r
theorem qlD {n:Nat} {o1 o2:Ob} {env:Env} {a:Act} (h:EnvOk n [o1,o2] env a):EnvOk n [o2,o1] (qh0 env) a:=by
 have key:∀ (env:Env) (k:Nat) (x:SV),lk (qh0 env) k = some x → ∃ y,lk env k = some y ∧ (y.ok [o1,o2] → x.val [o2,o1] = y.val [o1,o2] ∧ x.ok [o2,o1]):=by
  intro env
  induction env with
  | nil=>intro k x hx; cases hx
  | cons e r ih =>
   obtain ⟨k',sv⟩:=e
   intro k x hx
   cases sv with
   | v y =>
    simp only [qh0,lk] at hx ⊢
    split at hx
    ·rename_i hb
     simp only [Option.some.injEq] at hx
     subst hx
     exact ⟨_,rfl,fun _=>⟨rfl,trivial⟩⟩
    exact ih k x hx
   | p i j =>
    simp only [qh0,lk] at hx ⊢
    split at hx
    ·rename_i hb
     simp only [Option.some.injEq] at hx
     subst hx
     refine ⟨_,rfl,fun hok=>?_⟩
     have hok':i < 2:=hok
     match i,hok' with
     | 0,_=>exact ⟨rfl,show 1 < 2 by omega⟩
     | 1,_=>exact ⟨rfl,show 0 < 2 by omega⟩
    exact ih k x hx
 refine ⟨h.defers,h.size,fun k x hx=>?_⟩
 obtain ⟨y,hy,hv⟩:=key env k x hx
 obtain ⟨h1,h2⟩:=h.at_ k y hy
 obtain ⟨h3,h4⟩:=hv h2
 exact ⟨by rw [h3]; exact h1,h4⟩
theorem qdx {α:Type} {x y o:α} {i:Nat} (h:[y,x][i]? = some o):[x,y][1 - i]? = some o ∧ i < 2:=by
 match i,h with
 | 0,h=>exact ⟨h,by omega⟩
 | 1,h=>exact ⟨h,by omega⟩
 | i + 2,h=>simp at h
theorem WOk.swap2 {w0 w:World} {M:Nat → Nat → Prop} {o1 o2:Ob} (h:WOk w0 M w [o1,o2] []):WOk w0 M w [o2,o1] [] :=
 ⟨h.step,fun i o hi=>h.cells _ o (qdx hi).1,fun i o hi=>h.live _ o (qdx hi).1,fun i o hi=>h.rw_ _ o (qdx hi).1,fun i j o o' hij hi hj hw=>h.apart _ _ o o' (by have:=(qdx hi).2; have:=(qdx hj).2; omega) (qdx hi).1 (qdx hj).1 hw,h.own,h.ownM,fun i r hi=>by simp at hi,h.rr⟩
theorem qkJ {o1 o2:Ob} {b o:Nat} (h:Act_ [o2,o1] [] b o):Act_ [o1,o2] [] b o:=by
 rcases h with ⟨i,ob,hi,h1⟩ | ⟨i,r,hi,_⟩
 ·exact .inl ⟨_,ob,(qdx hi).1,h1⟩
 simp at hi
theorem RS.start {w0 w:World} {M F:Nat → Nat → Prop} {n br c:Nat} {A:Option Addr} {o1:Ob} {env:Env} {s:Bs} {a:Act} (hW:WOk w0 M w [o1,rdo br A s.length c] []) (hE:EnvOk n [o1,rdo br A s.length c] env a) (ho:Octs w (Imm F w0 w [o1,rdo br A s.length c] []) A c s) (env':Env) (he:pick (qh0 env) (qcf env') = some env':=by kernel_rfl):RS w0 M F n br [o1] env' noF s a w :=
 RS.mk' hW.swap2 ⟨rfl,ho.move (Step.refl w Nil) nilM fun b o h _=>⟨h.1,h.2.1,fun ha=>h.2.2 (qkJ ha)⟩⟩ ((qlD hE).pick he) MvF.no trivial
theorem qeO {α:Type} {l:List α} {x y o:α} {i:Nat} (h:(l ++ [x,y])[i]? = some o):(i < l.length ∧ l[i]? = some o) ∨ (i = l.length ∧ o = x) ∨ (i = l.length + 1 ∧ o = y):=by
 rcases Nat.lt_or_ge i l.length with hl | hl
 ·rw [List.getElem?_append_left hl] at h; exact .inl ⟨hl,h⟩
 rw [List.getElem?_append_right hl] at h
 rcases hk:i - l.length with _ | _ | k
 ·rw [hk] at h; exact .inr (.inl ⟨by omega,(Option.some.inj h).symm⟩)
 ·rw [hk] at h; exact .inr (.inr ⟨by omega,(Option.some.inj h).symm⟩)
 rw [hk] at h; simp at h
theorem qfF {α:Type} {l:List α} {x:α}:(l ++ [x])[l.length]? = some x:=by simp
section
variable {w0 w:World} {M:Nat → Nat → Prop} {tb:Tb} {rs:List Rw}
theorem WOk.splitL {b o o2:Nat} {cs1 cs2:List Value} (hW:WOk w0 M w (tb ++ [⟨b,o,cs1 ++ cs2,true⟩]) rs) (ho:o2 = o + cs1.length) :
  WOk w0 M w (tb ++ [⟨b,o2,cs2,true⟩,⟨b,o,cs1,true⟩]) rs ∧ Fr w (tb ++ [⟨b,o,cs1 ++ cs2,true⟩]) rs w (tb ++ [⟨b,o2,cs2,true⟩,⟨b,o,cs1,true⟩]) rs:=by
 subst ho
 have hi:(tb ++ [(⟨b,o,cs1 ++ cs2,true⟩:Ob)])[tb.length]? = some ⟨b,o,cs1 ++ cs2,true⟩:=qfF
 have old:∀ {j:Nat} {q:Ob},j < tb.length → tb[j]? = some q → (tb ++ [(⟨b,o,cs1 ++ cs2,true⟩:Ob)])[j]? = some q:=fun {j q} hj h=>by rw [List.getElem?_append_left hj]; exact h
 have hlen:(cs1 ++ cs2).length = cs1.length + cs2.length:=List.length_append
 have act:∀ x y,Act_ (tb ++ [⟨b,o + cs1.length,cs2,true⟩,⟨b,o,cs1,true⟩]) rs x y → Act_ (tb ++ [⟨b,o,cs1 ++ cs2,true⟩]) rs x y:=fun x y ha=>by
  rcases ha with ⟨j,q,hj,h1,h2,h3,h4⟩ | ha
  ·rcases qeO hj with ⟨hlt,hj⟩ | ⟨rfl,rfl⟩ | ⟨rfl,rfl⟩
   ·exact .inl ⟨j,q,old hlt hj,h1,h2,h3,h4⟩
   ·exact .inl ⟨_,_,hi,rfl,h2,by dsimp only at h3 ⊢; omega,by dsimp only at h4 ⊢; omega⟩
   exact .inl ⟨_,_,hi,rfl,h2,by dsimp only at h3 ⊢; omega,by dsimp only at h4 ⊢; omega⟩
  exact .inr ha
 refine ⟨⟨hW.step,?_,?_,?_,?_,hW.own,hW.ownM,?_,hW.rr⟩,⟨fun x y _ hn ha=>hn (act x y ha),Step.refl _ _⟩⟩
 ·intro j q hj p v hv
  rcases qeO hj with ⟨hlt,hj⟩ | ⟨rfl,rfl⟩ | ⟨rfl,rfl⟩
  ·exact hW.cells j q (old hlt hj) p v hv
  ·have:=hW.cells _ _ hi (cs1.length + p) v (by dsimp only at hv ⊢; rw [List.getElem?_append_right (by omega),Nat.add_sub_cancel_left]; exact hv)
   dsimp only at this ⊢
   rwa [Nat.add_assoc]
  exact hW.cells _ _ hi p v (by dsimp only at hv ⊢; rw [List.getElem?_append_left (List.getElem?_eq_some_iff.1 hv).1]; exact hv)
 ·intro j q hj
  rcases qeO hj with ⟨hlt,hj⟩ | ⟨rfl,rfl⟩ | ⟨rfl,rfl⟩
  ·exact hW.live j q (old hlt hj)
  ·have:=hW.live _ _ hi; exact this
  have:=hW.live _ _ hi; exact this
 ·intro j q hj hr p hp
  rcases qeO hj with ⟨hlt,hj⟩ | ⟨rfl,rfl⟩ | ⟨rfl,rfl⟩
  ·exact hW.rw_ j q (old hlt hj) hr p hp
  ·have:=hW.rw_ _ _ hi rfl (cs1.length + p) (by dsimp only at hp ⊢; omega)
   dsimp only at this ⊢
   rwa [Nat.add_assoc]
  exact hW.rw_ _ _ hi rfl p (by dsimp only at hp ⊢; omega)
 ·intro j k q q' hjk hj hk hw
  rcases qeO hj with ⟨hlj,hj⟩ | ⟨rfl,rfl⟩ | ⟨rfl,rfl⟩ <;> rcases qeO hk with ⟨hlk,hk⟩ | ⟨rfl,rfl⟩ | ⟨rfl,rfl⟩
  ·exact hW.apart j k q q' hjk (old hlj hj) (old hlk hk) hw
  ·have:=hW.apart j _ q _ (by omega) (old hlj hj) hi (.inr rfl)
   dsimp only at this ⊢; omega
  ·have:=hW.apart j _ q _ (by omega) (old hlj hj) hi (.inr rfl)
   dsimp only at this ⊢; omega
  ·have:=hW.apart _ k _ q' (by omega) hi (old hlk hk) (.inl rfl)
   dsimp only at this ⊢; omega
  ·exact absurd rfl hjk
  ·exact .inr (.inr (Nat.le_refl _))
  ·have:=hW.apart _ k _ q' (by omega) hi (old hlk hk) (.inl rfl)
   dsimp only at this ⊢; omega
  ·exact .inr (.inl (Nat.le_refl _))
  exact absurd rfl hjk
 intro j r hj g hg k q hk
 rcases qeO hk with ⟨hlk,hk⟩ | ⟨rfl,rfl⟩ | ⟨rfl,rfl⟩
 ·exact hW.rtb j r hj g hg k q (old hlk hk)
 ·have:=hW.rtb j r hj g hg _ _ hi; exact this
 have:=hW.rtb j r hj g hg _ _ hi; exact this
theorem WOk.atLast {G:Nat → Nat → Prop} {b o:Nat} {cs:List Value} (hW:WOk w0 M w (tb ++ [⟨b,o,cs,true⟩]) []) (hb:w0.heap.size ≤ b):AtF w (Imm G w0 w tb []) b o cs:=fun j v hj=>by
 have hlt:j < cs.length:=(List.getElem?_eq_some_iff.1 hj).1
 refine ⟨⟨.inr hb,?_,fun ha=>?_⟩,?_⟩
 ·have:=hW.live _ _ qfF; exact this
 ·rcases ha with ⟨i,q,hi,hr,h2,h3,h4⟩ | ⟨i,r,hi,_⟩
  ·have hil:i < tb.length:=(List.getElem?_eq_some_iff.1 hi).1
   have:=hW.apart i _ q _ (by omega) (by rw [List.getElem?_append_left hil]; exact hi) qfF (.inr rfl)
   dsimp only at this; omega
  simp at hi
 have:=hW.cells _ _ qfF j v hj; exact this
end
def qf1 (g size:Nat) (cl:DV → List Value) (ok:World → (Nat → Nat → Prop) → DV → Prop) (rel:DV → Tree → Prop) (L:List Tree) (k:Nat):qcz:=fun w F=>∃ ds:Nat → DV,∀ i,i < k → (cl (ds i)).length = size ∧ AtF w F g (0 + i * size) (cl (ds i)) ∧ ok w F (ds i) ∧ rel (ds i) (L.getD i .zero)
theorem MvF.done {g size:Nat} {cl:DV → List Value} {ok:World → (Nat → Nat → Prop) → DV → Prop} {rel:DV → Tree → Prop} {L:List Tree} {k:Nat} (mv:qga ok):MvF (qf1 g size cl ok rel L k):=⟨fun hs hM hF h=>by
 obtain ⟨ds,h⟩:=h
 refine ⟨ds,fun i hi=>?_⟩
 obtain ⟨h1,h2,h3,h4⟩:=h i hi
 exact ⟨h1,h2.move hs hM hF,mv _ hs hM hF h3,h4⟩⟩
abbrev qbw (g size:Nat) (z:Value) (l k:Nat):Ob:=⟨g,k * size,qcO z (l - k),true⟩
def lstF (size:Nat) (cl:DV → List Value) (ok:World → (Nat → Nat → Prop) → DV → Prop) (rel:DV → Tree → Prop) (A:Option Addr) (c:Nat) (L:List Tree) (f:Nat → DV):qcz:=fun w F=>Slots w F size A c L.length (fun i=>cl (f i)) ∧ (∀ i,i < L.length → ok w F (f i)) ∧ ∀ i,i < L.length → rel (f i) (L.getD i .zero)
theorem MvF.lst {size:Nat} {cl:DV → List Value} {ok:World → (Nat → Nat → Prop) → DV → Prop} {rel:DV → Tree → Prop} {A:Option Addr} {c:Nat} {L:List Tree} {f:Nat → DV} (mv:qga ok):MvF (lstF size cl ok rel A c L f):=⟨fun hs hM hF h =>
 ⟨h.1.move hs hM hF,fun i hi=>mv _ hs hM hF (h.2.1 i hi),h.2.2⟩⟩
section
variable {Pr:Program} {ops:Array Oper} {Q:Exit → Act → World → Prop} {w0:World} {M F:Nat → Nat → Prop} {n br:Nat} {tb:Tb} {env:Env} {P:qcz} {s:Bs} {a:Act} {w:World}
 {g size:Nat} {cl:DV → List Value} {ok:World → (Nat → Nat → Prop) → DV → Prop} {rel:DV → Tree → Prop} {L:List Tree} {z:Value}
theorem RS.pull {ι:Type} {Qf:ι → qcz} (h:RS w0 M F n br tb env (andF P (fun w F=>∃ x,Qf x w F)) s a w) (mP:MvF P) (mv:∀ x,MvF (Qf x)):∃ x,RS w0 M F n br tb env (andF P (Qf x)) s a w:=by
 obtain ⟨h1,x,hx⟩:=h.fact
 exact ⟨x,mP.and (mv x),h.ex,h.env_,h1,hx⟩
theorem RS.drop {b o:Nat} {cs:List Value} (h:RS w0 M F n br (tb ++ [⟨b,o,cs,true⟩]) env P s a w) (hb:w0.heap.size ≤ b) (hl:qeW (tb.length + 1) env = true):RS w0 M F n br tb env (andF P (atF b o cs)) s a w:=by
 obtain ⟨A,m,c,hW,hr,hE,hP⟩:=h.open_
 have hW':WOk w0 M w ((rdo br A m c :: tb) ++ [⟨b,o,cs,true⟩]) []:=hW
 have h1:=hW'.cutTb (tb.length + 1)
 have hF:=Fr.cutTb w ((rdo br A m c :: tb) ++ [⟨b,o,cs,true⟩]) [] (tb.length + 1)
 have e:((rdo br A m c :: tb) ++ [(⟨b,o,cs,true⟩:Ob)]).take (tb.length + 1) = rdo br A m c :: tb:=by
  show List.take ((rdo br A m c :: tb).length) _ = _
  exact List.take_left
 have hE1:=hE.cutTb (tb.length + 1) hl
 have e2:(rdo br A m c :: (tb ++ [(⟨b,o,cs,true⟩:Ob)])).take (tb.length + 1) = rdo br A m c :: tb:=e
 rw [e] at h1 hF
 rw [e2] at hE1
 exact RS.mk' h1 (hr.move hF.step immM hF.to') hE1 (h.mv.and (MvF.at_ _ _ _)) ⟨h.mv.move hF.step immM hF.to' hP,hW'.atLast hb⟩
theorem RS.dropT {b o:Nat} {cs:List Value} (h:RS w0 M F n br (tb ++ [⟨b,o,cs,true⟩]) env P s a w) (hb:w0.heap.size ≤ b) (hl:qeW (tb.length + 1) env = true):RS w0 M F n br tb env P s a w :=
 (h.drop hb hl).weak h.mv fun _ _ g=>g.1
theorem RS.next {l k:Nat} (h:RS w0 M F n br (tb ++ [qbw g size z l k]) env P s a w) (hk:k < l) (hz:z.cells.size = size) (hl:qeW (tb.length + 1) env = true):RS w0 M F n br (tb ++ [qbw g size z l (k + 1),⟨g,k * size,z.cells.toList,true⟩]) env P s a w:=by
 obtain ⟨A,m,c,hW,hr,hE,hP⟩:=h.open_
 have e:qcO z (l - k) = z.cells.toList ++ qcO z (l - (k + 1)):=by rw [show l - k = (l - (k + 1)) + 1 by omega,qhY]
 have hW':WOk w0 M w ((rdo br A m c :: tb) ++ [⟨g,k * size,z.cells.toList ++ qcO z (l - (k + 1)),true⟩]) []:=by rw [← e]; exact hW
 obtain ⟨h1,hF⟩:=hW'.splitL (o2:=(k + 1) * size) (by rw [Array.length_toList,hz,Nat.add_mul,Nat.one_mul])
 rw [← e] at hF
 have hE1:=hE.cutTb (tb.length + 1) hl
 have e2:(rdo br A m c :: (tb ++ [qbw g size z l k])).take (tb.length + 1) = rdo br A m c :: tb:=by
  show List.take ((rdo br A m c :: tb).length) ((rdo br A m c :: tb) ++ _) = _
  exact List.take_left
 rw [e2] at hE1
 have hE2:=(hE1.grow (qbw g size z l (k + 1))).grow ⟨g,k * size,z.cells.toList,true⟩
 have e3:((rdo br A m c :: tb) ++ [qbw g size z l (k + 1)]) ++ [(⟨g,k * size,z.cells.toList,true⟩:Ob)] = rdo br A m c :: (tb ++ [qbw g size z l (k + 1),⟨g,k * size,z.cells.toList,true⟩]):=by simp
 rw [e3] at hE2
 exact RS.mk' h1 (hr.move hF.step immM hF.to') hE2 h.mv (h.mv.move hF.step immM hF.to' hP)
theorem RS.thing {k:Nat} {D:DV} {X:qcz} (h:RS w0 M F n br (tb ++ [qbw g size z L.length (k + 1),⟨g,k * size,cl D,true⟩]) env X s a w) (hg:w0.heap.size ≤ g) {t:Tree} (ht:L[k]? = some t) (mv:qga ok) (mP:MvF P) (hcl:(cl D).length = size)
  (hx:∀ w F,X w F → P w F ∧ qf1 g size cl ok rel L k w F ∧ ok w F D ∧ rel D t) (hl:qeW (tb.length + 2) env = true):RS w0 M F n br (tb ++ [qbw g size z L.length (k + 1)]) env (andF P (qf1 g size cl ok rel L (k + 1))) s a w:=by
 have h':RS w0 M F n br ((tb ++ [qbw g size z L.length (k + 1)]) ++ [⟨g,k * size,cl D,true⟩]) env X s a w:=by
  rw [List.append_assoc]; exact h
 refine (h'.drop hg (by simpa using hl)).weak (mP.and (MvF.done mv)) fun w F hf=>?_
 obtain ⟨hf,hat⟩:=hf
 obtain ⟨h1,⟨ds,h2⟩,h3,h4⟩:=hx w F hf
 refine ⟨h1,fun i=>if i = k then D else ds i,fun i hi=>?_⟩
 by_cases hik:i = k
 ·subst hik
  simp only [if_true]
  exact ⟨hcl,by rw [Nat.zero_add]; exact hat,h3,by rw [List.getD_eq_getElem?_getD,ht]; exact h4⟩
 simp only [if_neg hik]
 exact h2 i (by omega)
theorem RS.listEnd {c:Nat} (h:RS w0 M F n br (tb ++ [qbw g size z L.length L.length]) env (andF P (qf1 g size cl ok rel L L.length)) s a w) (hg:w0.heap.size ≤ g) (mv:qga ok) (mP:MvF P) (hc:L.length ≤ c) (hsm:L.length ≤ 1099511627776) (h0:0 < L.length)
  (hl:qeW (tb.length + 1) env = true):∃ f:Nat → DV,RS w0 M F n br tb env (andF P (lstF size cl ok rel (some ⟨g,0,none⟩) c L f)) s a w:=by
 have mE:MvF (fun w F=>∃ f:Nat → DV,lstF size cl ok rel (some ⟨g,0,none⟩) c L f w F):=⟨fun hs hM hF hx=>by
  obtain ⟨f,hx⟩:=hx
  exact ⟨f,(MvF.lst mv).move hs hM hF hx⟩⟩
 refine RS.pull (Qf:=fun f=>lstF size cl ok rel (some ⟨g,0,none⟩) c L f) ((h.drop hg hl).weak (mP.and mE) fun w F hf=>?_) mP fun f=>MvF.lst mv
 obtain ⟨⟨h1,ds,h2⟩,_⟩:=hf
 refine ⟨h1,ds,⟨hc,hsm,fun h=>by (cases h),fun ad hA _=>?_⟩,fun i hi=>(h2 i hi).2.2.1,fun i hi=>(h2 i hi).2.2.2⟩
 obtain rfl:=Option.some.inj hA
 exact ⟨g,0,rfl,fun i hi=>⟨(h2 i hi).1,(h2 i hi).2.1⟩⟩
theorem qh1 {c:Code} (gf:Tree → Bs) (rest:Bs) (envk:Nat → Env) (h:RS w0 M F n br (tb ++ [⟨g,0,qcO z L.length,true⟩]) (envk 0) P (L.flatMap gf ++ rest) a w) (mv:qga ok)
  (body:∀ k t a w,L[k]? = some t → k < L.length → RS w0 M F n br (tb ++ [qbw g size z L.length k]) (envk k) (andF P (qf1 g size cl ok rel L k)) (gf t ++ ((L.drop (k + 1)).flatMap gf ++ rest)) a w →
   c.wp Pr (Exit.then (fun a' w'=>RS w0 M F n br (tb ++ [qbw g size z L.length (k + 1)]) (envk (k + 1)) (andF P (qf1 g size cl ok rel L (k + 1))) ((L.drop (k + 1)).flatMap gf ++ rest) a' w') Q) a w)
  (fin:∀ a w,RS w0 M F n br (tb ++ [qbw g size z L.length L.length]) (envk L.length) (andF P (qf1 g size cl ok rel L L.length)) rest a w → c.wp Pr (Exit.then (fun _ _=>False) Q) a w):(Code.loop c).wp Pr Q a w:=by
 refine wp_loop_ghost (fun q a_ w_=>∃ k,q = L.length - k ∧ k ≤ L.length ∧ RS w0 M F n br (tb ++ [qbw g size z L.length k]) (envk k) (andF P (qf1 g size cl ok rel L k)) ((L.drop k).flatMap gf ++ rest) a_ w_) L.length
  ⟨0,by omega,Nat.zero_le _,?_⟩ ?_
 ·have e:qbw g size z L.length 0 = ⟨g,0,qcO z L.length,true⟩:=by simp only [qbw,Nat.zero_mul,Nat.sub_zero]
  rw [e,List.drop_zero]
  exact h.weak (h.mv.and (MvF.done mv)) fun w F hP=>⟨hP,fun _=>dv0,fun i hi=>absurd hi (Nat.not_lt_zero i)⟩
 rintro q aq wq ⟨k,rfl,hk,hS⟩
 rcases Nat.lt_or_ge k L.length with hlt | hge
 ·obtain ⟨t,ht⟩:∃ t,L[k]? = some t:=⟨_,List.getElem?_eq_getElem hlt⟩
  have e:(L.drop k).flatMap gf ++ rest = gf t ++ ((L.drop (k + 1)).flatMap gf ++ rest):=by
   rw [qcH ht,List.flatMap_cons,List.append_assoc]
  refine wp_mono (body k t aq wq ht hlt (hS.cast e)) fun e a' w' hq=>?_
  cases e <;> first | exact hq | exact ⟨L.length - (k + 1),by omega,k + 1,rfl,hlt,hq⟩
 obtain rfl:k = L.length:=by omega
 rw [List.drop_length] at hS
 refine wp_mono (fin aq wq hS) fun e a' w' hq=>?_
 cases e <;> first | exact hq | exact hq.elim
theorem qfG {c:Code} (h:c.wp Pr (Exit.then (fun _ _=>False) Q) a w):(Code.loop c).wp Pr Q a w:=by
 refine wp_loop_ghost (fun _ a_ w_=>a_ = a ∧ w_ = w) 0 ⟨rfl,rfl⟩ ?_
 rintro q _ _ ⟨rfl,rfl⟩
 refine wp_mono h fun e a' w' hq=>?_
 cases e <;> first | exact hq | exact hq.elim
theorem qgT {x y z:Code} {Mid:Act → World → Prop} (h1:x.wp Pr (Exit.then (fun a w=>y.wp Pr (Exit.then Mid Q) a w) Q) a w) (h2:∀ a' w',Mid a' w' → z.wp Pr Q a' w'):(Code.seq x (.seq y z)).wp Pr Q a w :=
 wp_seq (qhX h1 fun a' w' hy=>wp_seq (qhX hy h2))
end
end Go.Proofs.YtdlaobdadlmcdaaGreatDoor.ME