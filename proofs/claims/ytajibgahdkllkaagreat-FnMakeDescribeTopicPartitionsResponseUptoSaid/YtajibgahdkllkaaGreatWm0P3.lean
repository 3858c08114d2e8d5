/- The texts of a claim, put together: the engine, the contracts, the law. Own work. -/
import Derived.Test.YtajibgahdkllkaaGreatWm0P2
namespace Go.Proofs.YtajibgahdkllkaaGreat.ME
open Go
open Go.RowKit
set_option linter.unusedVariables false
set_option linter.unusedSimpArgs false
set_option maxRecDepth 20000
def qi6 (d:Nat):Prop:=∀ (cf:List Value) (f:Fld) (ct:List Value) (t:Tree) (w:World) (F:Nat → Nat → Prop),FldR w F cf f → f.depth ≤ d → TreeR w F ct t →
  Calls Tryz.prog 53 #[.agg cf.toArray,.agg ct.toArray] w (qdu w (.bool (f.usual t)))
theorem qg5 {d:Nat} (hu:qi6 d) (cf:List Value) (f:Fld) (ct:List Value) (t:Tree) (w:World) (F:Nat → Nat → Prop) (hf:FldR w F cf f) (hd:f.depth ≤ d + 1) (ht:TreeR w F ct t) :
  Calls Tryz.prog 53 #[.agg cf.toArray,.agg ct.toArray] w (qdu w (.bool (f.usual t))):=by
 obtain ⟨k1,y2,y3,y4,y5,y6,y7,l8,A9,aB,dv,rfl,rfl,dw,ec⟩:=hf.open_
 have ee:=dw.small
 obtain ⟨af,ab,aD,aL,aC,ah,ai,bT,bU,bu,bv,eU,rfl,rfl,ef,eV,gq,eW⟩:=ht.open_
 have eg:=ef.small
 have eh:=eV.small
 refine enter (n:=91) Tryz.func53 rfl Tryz.ntmps53 kz fun a hE=>?_
 have hW:=WOk.start w Nil
 refine qad [0,1,2] kz ?_
 refine qah (qa9 hW hE (d:=2) (cs:=[.int .i64 k1,.int .i64 y2,.int .i64 y3,.int .i64 y4,.int .i64 y5,.int .i64 y6,.int .i64 y7,.slice A9 l8.length aB]) kz fun dx gt gu eX eY eZ dy dA=>?_)
 refine qah (qa9 dy dA (d:=3) (cs:=[.int .i64 af,.slice ah ab.length ai,.bool aD,.slice bT aL.length bU,.slice bu aC.length bv]) kz fun dB gv gw e5 e6 e7 aa dC=>?_)
 refine qak [2] [] [(2,.p 0 0),(3,.p 1 0)] aa dC fun gx dD=>?_
 refine qae (qaa ?_)
 refine wp_seq ?_
 refine qaz [(2,.p 0 0),(3,.p 1 0),(10,.v (.int .i64 k1))] aa dD fun gy dE=>?_
 refine wp_block ?_
 refine qaz [(2,.p 0 0),(3,.p 1 0),(10,.v (.int .i64 k1)),(11,.v (.bool (k1 == 0)))] aa dE fun gz bN=>?_
 refine qau bN (b:=k1 == 0) kz (fun bO=>?_) (fun bO=>?_)
 ·
  have e9:k1 = 0:=by simpa using bO
  refine qaz [(4,.v (.bool ((IntKind.i64.wrap (BitVec.ofInt 64 af &&& BitVec.ofInt 64 1).toNat) == y6)))] aa bN fun gA dF=>?_
  refine wp_ret ?_
  refine qaR ?_
  refine qaB ?_
  refine qaV dF aa.cells (v:=.bool ((IntKind.i64.wrap (BitVec.ofInt 64 af &&& BitVec.ofInt 64 1).toNat) == y6)) kz ?_
  refine ⟨congrArg (fun b_=>Ending.returned (Value.bool b_)) ?_,aa.step⟩
  first
   | (rw [qcW ‹_›]; simp only [and1]; done)
   | (rw [qbG ‹_› ‹_›]; exact qbE hz (by omega); done)
   | (rw [qbG ‹_› ‹_›]; exact qbw (k:=k) (by omega) (by omega) ‹_›; done)
   | (rw [qca ‹_› ‹_› (by omega) ‹_›]; done)
   | (rw [qcs ‹_› ‹_› (by omega) ‹_›]; done)
   | (rw [qct ‹_› ‹_› ‹_› ‹_› ‹_›]; done)
   | (rw [qcl ‹_› ‹_› ‹_› ‹_› ‹_› ‹_›,huu,qbO (by omega),Bool.true_and]; done)
   | (rw [qbN ‹_› ‹_› ‹_› ‹_› ‹_› ‹_›]; done)
 have fa:k1 ≠ 0:=by simpa using bO
 refine qaz [(2,.p 0 0),(3,.p 1 0),(10,.v (.int .i64 k1)),(19,.v (.bool (k1 == 7)))] aa bN fun gB bP=>?_
 refine qau bP (b:=k1 == 7) kz (fun bQ=>?_) (fun bQ=>?_)
 ·
  have fb:k1 = 7:=by simpa using bQ
  refine wp_seq ?_
  refine qaz [(22,.v (.slice ah ab.length ai)),(23,.v (.int .i64 ((ab.length:Nat):Int))),(24,.v (.int .i64 0))] aa bP fun gC dG=>?_
  refine wp_block ?_
  refine wp_loop_ghost (fun n_ a_ w_=>∃ (k:Nat),n_ = ab.length - k ∧ k ≤ ab.length ∧ (∀ q,q < k → q < 16 → (((ab.getD q 0).toNat:Nat):Int) = 0) ∧ LInv aa 91 [⟨dx,0,[.int .i64 k1,.int .i64 y2,.int .i64 y3,.int .i64 y4,.int .i64 y5,.int .i64 y6,.int .i64 y7,.slice A9 l8.length aB],true⟩,⟨dB,0,[.int .i64 af,.slice ah ab.length ai,.bool aD,.slice bT aL.length bU,.slice bu aC.length bv],true⟩] [] [(22,.v (.slice ah ab.length ai)),(23,.v (.int .i64 ((ab.length:Nat):Int))),(24,.v (.int .i64 ((k:Nat):Int)))] a_ w_) (ab.length) ⟨0,by omega,by omega,fun q h_=>absurd h_ (Nat.not_lt_zero q),dG.pk,aa,Fr.refl _ _ _⟩ ?_
  rintro gD gE gF ⟨k,fc,fe,hz,dH,ae,bV⟩
  refine qaz [(22,.v (.slice ah ab.length ai)),(23,.v (.int .i64 ((ab.length:Nat):Int))),(24,.v (.int .i64 ((k:Nat):Int))),(25,.v (.bool (decide (((k:Nat):Int) < ((ab.length:Nat):Int)))))] ae dH fun gG bR=>?_
  refine wp_seq ?_
  refine qau bR (b:=decide (((k:Nat):Int) < ((ab.length:Nat):Int))) kz (fun bS=>?_) (fun bS=>?_)
  ·
   have ff:=of_decide_eq_true bS
   refine wp_skip ?_
   refine qaa ?_
   refine wp_seq ?_
   refine wp_block ?_
   refine qad [0,1,2,3,4] kz ?_
   refine qak [0] [1,2,3,4] [(22,.v (.slice ah ab.length ai)),(23,.v (.int .i64 ((ab.length:Nat):Int))),(24,.v (.int .i64 ((k:Nat):Int))),(26,.v (.int .i64 ((k:Nat):Int)))] ae bR fun gH dI=>?_
   obtain ⟨fg,fh,dJ,fi,bW⟩:=Slots.get ef (i:=k) (by omega)
   refine qah (qaM dI (t:=22) (A:=ah) (m:=ab.length) (q:=((k:Nat):Int)) (d:=27) kz (e:=5) (size:=1) (bytes:=1) kz dJ rfl (by omega) fun gI dK=>?_)
   refine qah (qa0 dK (t:=5) (b:=fg) (o:=fh + k * 1) (d:=28) kz (cs:=[.int .u8 ((ab.getD k 0).toNat:Int)]) (v:=.int .u8 ((ab.getD k 0).toNat:Int)) kz (AtF.move bW ae.step nilM qco).at_ fun gJ dL=>?_)
   refine qak [3,4] [] [(5,.v (.int .i64 ((k:Nat):Int))),(6,.v (.int .u8 ((ab.getD k 0).toNat:Int))),(22,.v (.slice ah ab.length ai)),(23,.v (.int .i64 ((ab.length:Nat):Int))),(24,.v (.int .i64 ((k:Nat):Int)))] ae dL fun gK dM=>?_
   refine qae (qaa ?_)
   refine qad [0,1,2,3,4,5] kz ?_
   refine qak [0,1,2] [3,4,5] [(6,.v (.int .u8 ((ab.getD k 0).toNat:Int))),(22,.v (.slice ah ab.length ai)),(23,.v (.int .i64 ((ab.length:Nat):Int))),(24,.v (.int .i64 ((k:Nat):Int))),(31,.v (.bool (decide (((k:Nat):Int) < 16))))] ae dM fun gL bX=>?_
   refine (Bool.eq_false_or_eq_true (decide (((k:Nat):Int) < 16))).elim (fun aM=>?_) (fun aM=>?_)
   ·
    have fj:=of_decide_eq_true aM
    have dN:=bX.cast (env':=[(6,.v (.int .u8 ((ab.getD k 0).toNat:Int))),(22,.v (.slice ah ab.length ai)),(23,.v (.int .i64 ((ab.length:Nat):Int))),(24,.v (.int .i64 ((k:Nat):Int))),(31,.v (.bool true))]) (by rw [aM])
    refine qak [3,4,5] [] [(22,.v (.slice ah ab.length ai)),(23,.v (.int .i64 ((ab.length:Nat):Int))),(24,.v (.int .i64 ((k:Nat):Int))),(34,.v (.bool (((ab.getD k 0).toNat:Int) != 0)))] ae dN fun gM aN=>?_
    refine qae (qaa ?_)
    refine qau aN (b:=((ab.getD k 0).toNat:Int) != 0) kz (fun aO=>?_) (fun aO=>?_)
    ·
     have ei:((ab.getD k 0).toNat:Int) ≠ 0:=by simpa using aO
     refine qaz [(4,.v (.bool false))] ae aN fun fk bY=>?_
     refine wp_ret ?_
     refine qaR ?_
     refine qaB ?_
     refine qaB ?_
     refine qaR ?_
     refine qaB ?_
     refine qaR ?_
     refine qaB ?_
     refine qaV bY ae.cells (v:=.bool false) kz ?_
     refine ⟨congrArg (fun b_=>Ending.returned (Value.bool b_)) ?_,ae.step⟩
     first
      | (rw [qcW ‹_›]; simp only [and1]; done)
      | (rw [qbG ‹_› ‹_›]; exact qbE hz (by omega); done)
      | (rw [qbG ‹_› ‹_›]; exact qbw (k:=k) (by omega) (by omega) ‹_›; done)
      | (rw [qca ‹_› ‹_› (by omega) ‹_›]; done)
      | (rw [qcs ‹_› ‹_› (by omega) ‹_›]; done)
      | (rw [qct ‹_› ‹_› ‹_› ‹_› ‹_›]; done)
      | (rw [qcl ‹_› ‹_› ‹_› ‹_› ‹_› ‹_›,huu,qbO (by omega),Bool.true_and]; done)
      | (rw [qbN ‹_› ‹_› ‹_› ‹_› ‹_› ‹_›]; done)
    have ej:((ab.getD k 0).toNat:Int) = 0:=by simpa using aO
    refine wp_skip ?_
    refine qas ?_
    refine qaa ?_
    refine qap [0,1] kz ?_
    refine qak [0,1] [] [(22,.v (.slice ah ab.length ai)),(23,.v (.int .i64 ((ab.length:Nat):Int))),(24,.v (.int .i64 (IntKind.i64.wrap (((k:Nat):Int) + 1))))] ae aN fun fl bw=>?_
    refine qae (qaa ?_)
    have bZ:IntKind.i64.wrap (((k:Nat):Int) + 1) = ((k + 1:Nat):Int):=qaN (by omega)
    rw [bZ] at bw
    exact ⟨ab.length - (k + 1),by omega,k + 1,rfl,by omega,fun q hq b0=>by rcases Nat.lt_succ_iff_lt_or_eq.1 hq with h_ | h_; exact hz q h_ b0; rw [h_] at b0 ⊢; first | assumption | omega,bw.pk,ae,bV⟩
   have ek:=of_decide_eq_false aM
   have b5:=bX.cast (env':=[(6,.v (.int .u8 ((ab.getD k 0).toNat:Int))),(22,.v (.slice ah ab.length ai)),(23,.v (.int .i64 ((ab.length:Nat):Int))),(24,.v (.int .i64 ((k:Nat):Int))),(31,.v (.bool false))]) (by rw [aM])
   refine qak [3,4,5] [] [(22,.v (.slice ah ab.length ai)),(23,.v (.int .i64 ((ab.length:Nat):Int))),(24,.v (.int .i64 ((k:Nat):Int))),(34,.v (.bool false))] ae b5 fun fm bz=>?_
   refine qae (qaa ?_)
   refine qbx bz (b:=false) kz rfl ?_
   refine wp_skip ?_
   refine qas ?_
   refine qaa ?_
   refine qap [0,1] kz ?_
   refine qak [0,1] [] [(22,.v (.slice ah ab.length ai)),(23,.v (.int .i64 ((ab.length:Nat):Int))),(24,.v (.int .i64 (IntKind.i64.wrap (((k:Nat):Int) + 1))))] ae bz fun fo bA=>?_
   refine qae (qaa ?_)
   have b6:IntKind.i64.wrap (((k:Nat):Int) + 1) = ((k + 1:Nat):Int):=qaN (by omega)
   rw [b6] at bA
   exact ⟨ab.length - (k + 1),by omega,k + 1,rfl,by omega,fun q hq b0=>by rcases Nat.lt_succ_iff_lt_or_eq.1 hq with h_ | h_; exact hz q h_ b0; rw [h_] at b0 ⊢; first | assumption | omega,bA.pk,ae,bV⟩
  have em:=of_decide_eq_false bS
  refine wp_exit ?_
  refine qar ?_
  refine qar ?_
  refine qaE ?_
  refine qaa ?_
  refine qaz [(4,.v (.bool true))] ae bR fun fp b8=>?_
  refine wp_ret ?_
  refine qaR ?_
  refine qaB ?_
  refine qaV b8 ae.cells (v:=.bool true) kz ?_
  refine ⟨congrArg (fun b_=>Ending.returned (Value.bool b_)) ?_,ae.step⟩
  first
   | (rw [qcW ‹_›]; simp only [and1]; done)
   | (rw [qbG ‹_› ‹_›]; exact qbE hz (by omega); done)
   | (rw [qbG ‹_› ‹_›]; exact qbw (k:=k) (by omega) (by omega) ‹_›; done)
   | (rw [qca ‹_› ‹_› (by omega) ‹_›]; done)
   | (rw [qcs ‹_› ‹_› (by omega) ‹_›]; done)
   | (rw [qct ‹_› ‹_› ‹_› ‹_› ‹_›]; done)
   | (rw [qcl ‹_› ‹_› ‹_› ‹_› ‹_› ‹_›,huu,qbO (by omega),Bool.true_and]; done)
   | (rw [qbN ‹_› ‹_› ‹_› ‹_› ‹_› ‹_›]; done)
 have eo:k1 ≠ 7:=by simpa using bQ
 refine wp_seq ?_
 refine qaz [(2,.p 0 0),(3,.p 1 0),(10,.v (.int .i64 k1)),(36,.v (.bool (k1 == 8)))] aa bP fun fq aE=>?_
 refine qau aE (b:=k1 == 8) kz (fun aF=>?_) (fun aF=>?_)
 ·
  have ep:k1 = 8:=by simpa using aF
  refine wp_skip ?_
  refine qaa ?_
  refine qcS aE (b:=k1 == 8) kz (aF) ?_
  refine wp_seq ?_
  refine qaz [(3,.p 1 0),(41,.v (.bool (decide (y4 ≥ 0))))] aa aE fun fr aP=>?_
  refine qau aP (b:=decide (y4 ≥ 0)) kz (fun aQ=>?_) (fun aQ=>?_)
  ·
   have eu:=of_decide_eq_true aQ
   refine qaz [(4,.v (.bool aD))] aa aP fun ft ca=>?_
   refine wp_ret ?_
   refine qaB ?_
   refine qaR ?_
   refine qaB ?_
   refine qaV ca aa.cells (v:=.bool aD) kz ?_
   refine ⟨congrArg (fun b_=>Ending.returned (Value.bool b_)) ?_,aa.step⟩
   first
    | (rw [qcW ‹_›]; simp only [and1]; done)
    | (rw [qbG ‹_› ‹_›]; exact qbE hz (by omega); done)
    | (rw [qbG ‹_› ‹_›]; exact qbw (k:=k) (by omega) (by omega) ‹_›; done)
    | (rw [qca ‹_› ‹_› (by omega) ‹_›]; done)
    | (rw [qcs ‹_› ‹_› (by omega) ‹_›]; done)
    | (rw [qct ‹_› ‹_› ‹_› ‹_› ‹_›]; done)
    | (rw [qcl ‹_› ‹_› ‹_› ‹_› ‹_› ‹_›,huu,qbO (by omega),Bool.true_and]; done)
    | (rw [qbN ‹_› ‹_› ‹_› ‹_› ‹_› ‹_›]; done)
  have ev:=of_decide_eq_false aQ
  refine wp_skip ?_
  refine qaa ?_
  refine qaz [(4,.v (.bool (((ab.length:Nat):Int) == 0)))] aa aP fun fu cb=>?_
  refine wp_ret ?_
  refine qaR ?_
  refine qaB ?_
  refine qaV cb aa.cells (v:=.bool (((ab.length:Nat):Int) == 0)) kz ?_
  refine ⟨congrArg (fun b_=>Ending.returned (Value.bool b_)) ?_,aa.step⟩
  first
   | (rw [qcW ‹_›]; simp only [and1]; done)
   | (rw [qbG ‹_› ‹_›]; exact qbE hz (by omega); done)
   | (rw [qbG ‹_› ‹_›]; exact qbw (k:=k) (by omega) (by omega) ‹_›; done)
   | (rw [qca ‹_› ‹_› (by omega) ‹_›]; done)
   | (rw [qcs ‹_› ‹_› (by omega) ‹_›]; done)
   | (rw [qct ‹_› ‹_› ‹_› ‹_› ‹_›]; done)
   | (rw [qcl ‹_› ‹_› ‹_› ‹_› ‹_› ‹_›,huu,qbO (by omega),Bool.true_and]; done)
   | (rw [qbN ‹_› ‹_› ‹_› ‹_› ‹_› ‹_›]; done)
 have ew:k1 ≠ 8:=by simpa using aF
 refine qap [0,1] kz ?_
 refine qak [0,1] [] [(2,.p 0 0),(3,.p 1 0),(10,.v (.int .i64 k1)),(36,.v (.bool (k1 == 9)))] aa aE fun fv aR=>?_
 refine qae (qaa ?_)
 refine qau aR (b:=k1 == 9) kz (fun aS=>?_) (fun aS=>?_)
 ·
  have ey:k1 = 9:=by simpa using aS
  refine wp_seq ?_
  refine qaz [(3,.p 1 0),(41,.v (.bool (decide (y4 ≥ 0))))] aa aR fun fw aT=>?_
  refine qau aT (b:=decide (y4 ≥ 0)) kz (fun aU=>?_) (fun aU=>?_)
  ·
   have ez:=of_decide_eq_true aU
   refine qaz [(4,.v (.bool aD))] aa aT fun fx cc=>?_
   refine wp_ret ?_
   refine qaB ?_
   refine qaR ?_
   refine qaB ?_
   refine qaV cc aa.cells (v:=.bool aD) kz ?_
   refine ⟨congrArg (fun b_=>Ending.returned (Value.bool b_)) ?_,aa.step⟩
   first
    | (rw [qcW ‹_›]; simp only [and1]; done)
    | (rw [qbG ‹_› ‹_›]; exact qbE hz (by omega); done)
    | (rw [qbG ‹_› ‹_›]; exact qbw (k:=k) (by omega) (by omega) ‹_›; done)
    | (rw [qca ‹_› ‹_› (by omega) ‹_›]; done)
    | (rw [qcs ‹_› ‹_› (by omega) ‹_›]; done)
    | (rw [qct ‹_› ‹_› ‹_› ‹_› ‹_›]; done)
    | (rw [qcl ‹_› ‹_› ‹_› ‹_› ‹_› ‹_›,huu,qbO (by omega),Bool.true_and]; done)
    | (rw [qbN ‹_› ‹_› ‹_› ‹_› ‹_› ‹_›]; done)
  have eA:=of_decide_eq_false aU
  refine wp_skip ?_
  refine qaa ?_
  refine qaz [(4,.v (.bool (((ab.length:Nat):Int) == 0)))] aa aT fun fy cd=>?_
  refine wp_ret ?_
  refine qaR ?_
  refine qaB ?_
  refine qaV cd aa.cells (v:=.bool (((ab.length:Nat):Int) == 0)) kz ?_
  refine ⟨congrArg (fun b_=>Ending.returned (Value.bool b_)) ?_,aa.step⟩
  first
   | (rw [qcW ‹_›]; simp only [and1]; done)
   | (rw [qbG ‹_› ‹_›]; exact qbE hz (by omega); done)
   | (rw [qbG ‹_› ‹_›]; exact qbw (k:=k) (by omega) (by omega) ‹_›; done)
   | (rw [qca ‹_› ‹_› (by omega) ‹_›]; done)
   | (rw [qcs ‹_› ‹_› (by omega) ‹_›]; done)
   | (rw [qct ‹_› ‹_› ‹_› ‹_› ‹_›]; done)
   | (rw [qcl ‹_› ‹_› ‹_› ‹_› ‹_› ‹_›,huu,qbO (by omega),Bool.true_and]; done)
   | (rw [qbN ‹_› ‹_› ‹_› ‹_› ‹_› ‹_›]; done)
 have eB:k1 ≠ 9:=by simpa using aS
 refine qaz [(2,.p 0 0),(3,.p 1 0),(10,.v (.int .i64 k1)),(48,.v (.bool (k1 == 11)))] aa aR fun fz aV=>?_
 refine qau aV (b:=k1 == 11) kz (fun aW=>?_) (fun aW=>?_)
 ·
  have eC:k1 = 11:=by simpa using aW
  refine qaz [(4,.v (.bool (((aL.length:Nat):Int) == 0)))] aa aV fun fA ce=>?_
  refine wp_ret ?_
  refine qaR ?_
  refine qaB ?_
  refine qaV ce aa.cells (v:=.bool (((aL.length:Nat):Int) == 0)) kz ?_
  refine ⟨congrArg (fun b_=>Ending.returned (Value.bool b_)) ?_,aa.step⟩
  first
   | (rw [qcW ‹_›]; simp only [and1]; done)
   | (rw [qbG ‹_› ‹_›]; exact qbE hz (by omega); done)
   | (rw [qbG ‹_› ‹_›]; exact qbw (k:=k) (by omega) (by omega) ‹_›; done)
   | (rw [qca ‹_› ‹_› (by omega) ‹_›]; done)
   | (rw [qcs ‹_› ‹_› (by omega) ‹_›]; done)
   | (rw [qct ‹_› ‹_› ‹_› ‹_› ‹_›]; done)
   | (rw [qcl ‹_› ‹_› ‹_› ‹_› ‹_› ‹_›,huu,qbO (by omega),Bool.true_and]; done)
   | (rw [qbN ‹_› ‹_› ‹_› ‹_› ‹_› ‹_›]; done)
 have eD:k1 ≠ 11:=by simpa using aW
 refine qaz [(2,.p 0 0),(3,.p 1 0),(54,.v (.bool (k1 == 10)))] aa aV fun fB aX=>?_
 refine qau aX (b:=k1 == 10) kz (fun aY=>?_) (fun aY=>?_)
 ·
  have eE:k1 = 10:=by simpa using aY
  refine wp_seq ?_
  refine qaz [(2,.p 0 0),(3,.p 1 0),(57,.v (.slice A9 l8.length aB)),(58,.v (.int .i64 ((l8.length:Nat):Int))),(59,.v (.int .i64 0))] aa aX fun fC cg=>?_
  refine wp_block ?_
  refine wp_loop_ghost (fun n_ a_ w_=>∃ (k:Nat),n_ = l8.length - k ∧ k ≤ l8.length ∧ (usuals l8 (Tree.mk af ab aD aL aC) 0 = usuals (l8.drop k) (Tree.mk af ab aD aL aC) k) ∧ LInv aa 91 [⟨dx,0,[.int .i64 k1,.int .i64 y2,.int .i64 y3,.int .i64 y4,.int .i64 y5,.int .i64 y6,.int .i64 y7,.slice A9 l8.length aB],true⟩,⟨dB,0,[.int .i64 af,.slice ah ab.length ai,.bool aD,.slice bT aL.length bU,.slice bu aC.length bv],true⟩] [] [(2,.p 0 0),(3,.p 1 0),(57,.v (.slice A9 l8.length aB)),(58,.v (.int .i64 ((l8.length:Nat):Int))),(59,.v (.int .i64 ((k:Nat):Int)))] a_ w_) (l8.length) ⟨0,by omega,by omega,rfl,cg.pk,aa,Fr.refl _ _ _⟩ ?_
  rintro fD fE fF ⟨k,eF,eG,huu,cl,ac,cm⟩
  refine qaz [(2,.p 0 0),(3,.p 1 0),(57,.v (.slice A9 l8.length aB)),(58,.v (.int .i64 ((l8.length:Nat):Int))),(59,.v (.int .i64 ((k:Nat):Int))),(60,.v (.bool (decide (((k:Nat):Int) < ((l8.length:Nat):Int)))))] ac cl fun fG aZ=>?_
  refine wp_seq ?_
  refine qau aZ (b:=decide (((k:Nat):Int) < ((l8.length:Nat):Int))) kz (fun ba=>?_) (fun ba=>?_)
  ·
   have eH:=of_decide_eq_true ba
   refine wp_skip ?_
   refine qaa ?_
   refine wp_seq ?_
   refine wp_block ?_
   refine qad [0,1,2,3,4,5] kz ?_
   refine qak [0] [1,2,3,4,5] [(2,.p 0 0),(3,.p 1 0),(57,.v (.slice A9 l8.length aB)),(58,.v (.int .i64 ((l8.length:Nat):Int))),(59,.v (.int .i64 ((k:Nat):Int))),(61,.v (.int .i64 ((k:Nat):Int)))] ac aZ fun fH cq=>?_
   obtain ⟨dO,dP,cr,eI,bd⟩:=Slots.get dw (i:=k) (by omega)
   obtain ⟨dQ,aG⟩:∃ x,l8[k]? = some x:=⟨_,List.getElem?_eq_getElem (by omega)⟩
   have bf:=ec k dQ aG
   obtain ⟨aj,ak,al,am,ao,ap,ar,au,aJ,aK,eJ,rfl,bg,dR,fI⟩:=bf.open_
   rw [bg] at bf
   have dS:=dR.small
   rw [bg] at bd
   refine qah (qaM cq (t:=29) (A:=A9) (m:=l8.length) (q:=((k:Nat):Int)) (d:=62) kz (e:=50) (size:=8) (bytes:=80) kz cr rfl (by omega) fun fJ cu=>?_)
   refine qah (qa0 cu (t:=50) (b:=dO) (o:=dP + k * 8) (d:=63) kz (cs:=[.int .i64 aj,.int .i64 ak,.int .i64 al,.int .i64 am,.int .i64 ao,.int .i64 ap,.int .i64 ar,.slice aJ au.length aK]) (v:=.agg #[.int .i64 aj,.int .i64 ak,.int .i64 al,.int .i64 am,.int .i64 ao,.int .i64 ap,.int .i64 ar,.slice aJ au.length aK]) kz (AtF.move bd ac.step nilM qco).at_ fun fK cv=>?_)
   refine qah (qaw ac cv (d:=8) (cs:=[.int .i64 0,.int .i64 0,.int .i64 0,.int .i64 0,.int .i64 0,.int .i64 0,.int .i64 0,.slice none 0 0]) kz fun fL fM fN eK eL cw bB cy=>?_)
   refine qak [4] [5] [(2,.p 0 0),(3,.p 1 0),(7,.v (.int .i64 ((k:Nat):Int))),(8,.p 2 0),(57,.v (.slice A9 l8.length aB)),(58,.v (.int .i64 ((l8.length:Nat):Int))),(59,.v (.int .i64 ((k:Nat):Int))),(63,.v (.agg #[.int .i64 aj,.int .i64 ak,.int .i64 al,.int .i64 am,.int .i64 ao,.int .i64 ap,.int .i64 ar,.slice aJ au.length aK]))] bB cy fun fO cz=>?_
   refine qah (qaj bB cz (oi:=2) (cs:=[.int .i64 aj,.int .i64 ak,.int .i64 al,.int .i64 am,.int .i64 ao,.int .i64 ap,.int .i64 ar,.slice aJ au.length aK]) kz fun fP cA cB cC=>?_)
   refine qae (qaa ?_)
   refine qb5 6 kz cB fun fQ cD av cE=>?_
   refine qbg [0,1,2] [(2,.p 0 0),(3,.p 1 0),(57,.v (.slice A9 l8.length aB)),(58,.v (.int .i64 ((l8.length:Nat):Int))),(59,.v (.int .i64 ((k:Nat):Int))),(64,.v (.agg #[.int .i64 aj,.int .i64 ak,.int .i64 al,.int .i64 am,.int .i64 ao,.int .i64 ap,.int .i64 ar,.slice aJ au.length aK])),(65,.v (.agg #[.int .i64 af,.slice ah ab.length ai,.bool aD,.slice bT aL.length bU,.slice bu aC.length bv])),(66,.v (.int .i64 ((k:Nat):Int)))] 3 (qab (qaf (qab (qab (qaf (qab (qaf (qab qal)))))))) (fun _ h=>h.cells) cE cC fun fR cG=>?_
   refine qaH (i:=3) kz (qai cG (f:=22) (vs:=[.agg #[.int .i64 af,.slice ah ab.length ai,.bool aD,.slice bT aL.length bU,.slice bu aC.length bv],.int .i64 ((k:Nat):Int)]) (d:=67) kz Tryz.call22 (sAt _ _ k _ _ (ht.move av.step nilM av.imm)) ?_)
   rintro e_ fS ⟨eM,rfl,cH,aw⟩
   have bh:=cH.move aw nilM (fun b o h_ hb_=>av.laid (G:=F) aw b o (.inl h_) (Nat.lt_of_lt_of_le hb_ aw.size))
   obtain ⟨dT,dU,dV,dW,dX,dY,dZ,d4,d5,d6,d7,eN,eO,bi,d8,d9,fT,fU⟩:=bh.open_
   rw [bi] at bh
   have ea:=d8.small
   have eb:=d9.small
   rw [bi]
   refine ⟨_,rfl,fun fV cI=>?_⟩
   have ax:=av.next_nil aw
   have bj:=av.frN aw
   have cJ:=TT.ofW bj ax
   refine ⟨fun _=>cJ,?_⟩
   refine qaH (i:=4) kz (qai cI (f:=53) (vs:=[.agg #[.int .i64 aj,.int .i64 ak,.int .i64 al,.int .i64 am,.int .i64 ao,.int .i64 ap,.int .i64 ar,.slice aJ au.length aK],.agg #[.int .i64 dT,.slice dY dU.length dZ,.bool dV,.slice d4 dW.length d5,.slice d6 dX.length d7]]) (d:=68) kz Tryz.call53 ( hu _ _ _ _ _ _ (bf.move ax.step nilM ax.imm) (by have h_:=qcP aG; rw [qdS] at hd; omega) bh) ?_)
   rintro e_ fW ⟨rfl,bC⟩
   refine ⟨_,rfl,fun fX cK=>?_⟩
   have ag:=ax.next_nil bC
   have bD:=ax.frN bC
   have bE:=TT.ofW (bj.trans bD) ag
   refine ⟨fun _=>bE,?_⟩
   refine qbg [5] [(2,.p 0 0),(3,.p 1 0),(57,.v (.slice A9 l8.length aB)),(58,.v (.int .i64 ((l8.length:Nat):Int))),(59,.v (.int .i64 ((k:Nat):Int))),(69,.v (.bool (!(Fld.usual (Fld.mk aj ak al am ao ap ar au) (Tree.at_ (Tree.mk af ab aD aL aC) k)))))] 0 (qab (qaf (qab (qab (qaf (qab (qaf (qab qal)))))))) (fun _ h=>h.cells) bE cK fun fY bk=>?_
   refine qbb kz ?_ _
   refine qaa ?_
   refine qau bk (b:=!(Fld.usual (Fld.mk aj ak al am ao ap ar au) (Tree.at_ (Tree.mk af ab aD aL aC) k))) kz (fun bn=>?_) (fun bn=>?_)
   ·
    refine qaz [(4,.v (.bool false))] ag bk fun fZ cL=>?_
    refine wp_ret ?_
    refine qaR ?_
    refine qaB ?_
    refine qaB ?_
    refine qaR ?_
    refine qaB ?_
    refine qaR ?_
    refine qaB ?_
    refine qaV cL ag.cells (v:=.bool false) kz ?_
    refine ⟨congrArg (fun b_=>Ending.returned (Value.bool b_)) ?_,ag.step⟩
    first
     | (rw [qcW ‹_›]; simp only [and1]; done)
     | (rw [qbG ‹_› ‹_›]; exact qbE hz (by omega); done)
     | (rw [qbG ‹_› ‹_›]; exact qbw (k:=k) (by omega) (by omega) ‹_›; done)
     | (rw [qca ‹_› ‹_› (by omega) ‹_›]; done)
     | (rw [qcs ‹_› ‹_› (by omega) ‹_›]; done)
     | (rw [qct ‹_› ‹_› ‹_› ‹_› ‹_›]; done)
     | (rw [qcl ‹_› ‹_› ‹_› ‹_› ‹_› ‹_›,huu,qbO (by omega),Bool.true_and]; done)
     | (rw [qbN ‹_› ‹_› ‹_› ‹_› ‹_› ‹_›]; done)
     | (rw [qcl ‹_› ‹_› ‹_› ‹_› ‹_› ‹_›,huu,qgW aG (by simpa using bn),Bool.false_and]; done)
   refine wp_skip ?_
   refine qas ?_
   refine qaa ?_
   refine qap [0,1] kz ?_
   refine qak [0,1] [] [(2,.p 0 0),(3,.p 1 0),(57,.v (.slice A9 l8.length aB)),(58,.v (.int .i64 ((l8.length:Nat):Int))),(59,.v (.int .i64 (IntKind.i64.wrap (((k:Nat):Int) + 1))))] ag bk fun f0 cM=>?_
   refine qae (qaa ?_)
   obtain ⟨bF,cN,cO⟩:=ag.cutB cM 2 [⟨dx,0,[.int .i64 k1,.int .i64 y2,.int .i64 y3,.int .i64 y4,.int .i64 y5,.int .i64 y6,.int .i64 y7,.slice A9 l8.length aB],true⟩,⟨dB,0,[.int .i64 af,.slice ah ab.length ai,.bool aD,.slice bT aL.length bU,.slice bu aC.length bv],true⟩] [(2,.p 0 0),(3,.p 1 0),(57,.v (.slice A9 l8.length aB)),(58,.v (.int .i64 ((l8.length:Nat):Int))),(59,.v (.int .i64 (IntKind.i64.wrap (((k:Nat):Int) + 1))))]
   have cP:IntKind.i64.wrap (((k:Nat):Int) + 1) = ((k + 1:Nat):Int):=qaN (by omega)
   rw [cP] at bF
   exact ⟨l8.length - (k + 1),by omega,k + 1,rfl,by omega,by rw [huu]; exact qgV aG (by simpa using bn),bF.pk,cN,((((((cm.trans cw).trans cA).trans cD).trans bj).trans bD).trans cO)⟩
  have eP:=of_decide_eq_false ba
  refine wp_exit ?_
  refine qar ?_
  refine qar ?_
  refine qaE ?_
  refine qaa ?_
  refine qad [0,1,2,3,4,5,6,7] kz ?_
  refine qak [0,1,2,3] [4,5,6,7] [(72,.v (.slice A9 l8.length aB)),(74,.v (.slice bu aC.length bv))] ac aZ fun f5 cQ=>?_
  refine qah (qai cQ (f:=23) (vs:=[.slice A9 l8.length aB,.slice bu aC.length bv]) (d:=75) kz Tryz.call23 (qf8 _ _ l8 _ _ aC _ _ ⟨dv,(dw.move ac.step nilM ac.imm),(fun i_ x_ h_=>((ec i_ x_ h_).move ac.step nilM ac.imm))⟩ (eW.move ac.step nilM ac.imm)) ?_)
  rintro e_ f7 ⟨f8,f9,rfl,cR,bp⟩
  have eQ:=cR.move (Step.refl _ Nil) nilM (ac.laid (G:=F) bp)
  refine ⟨_,rfl,fun ga cS=>?_⟩
  have bq:=ac.next_nil bp
  have eR:=ac.frN bp
  refine qak [5,6,7] [] [(4,.v (.bool ((((qag l8 aC).length:Nat):Int) == 0)))] bq cS fun gb cT=>?_
  refine qae (qaa ?_)
  refine wp_ret ?_
  refine qaR ?_
  refine qaB ?_
  refine qaV cT bq.cells (v:=.bool ((((qag l8 aC).length:Nat):Int) == 0)) kz ?_
  refine ⟨congrArg (fun b_=>Ending.returned (Value.bool b_)) ?_,bq.step⟩
  first
   | (rw [qcW ‹_›]; simp only [and1]; done)
   | (rw [qbG ‹_› ‹_›]; exact qbE hz (by omega); done)
   | (rw [qbG ‹_› ‹_›]; exact qbw (k:=k) (by omega) (by omega) ‹_›; done)
   | (rw [qca ‹_› ‹_› (by omega) ‹_›]; done)
   | (rw [qcs ‹_› ‹_› (by omega) ‹_›]; done)
   | (rw [qct ‹_› ‹_› ‹_› ‹_› ‹_›]; done)
   | (rw [qcl ‹_› ‹_› ‹_› ‹_› ‹_› ‹_›,huu,qbO (by omega),Bool.true_and]; done)
   | (rw [qbN ‹_› ‹_› ‹_› ‹_› ‹_› ‹_›]; done)
 have eS:k1 ≠ 10:=by simpa using aY
 refine wp_skip ?_
 refine qas ?_
 refine qaa ?_
 refine qb5 13 kz aa fun gc eT bG cV=>?_
 refine qbg [0,1,2,3,6,7,8,9] [(79,.v (.int .i64 af)),(81,.v (.int .i64 k1)),(85,.v (.int .i64 y6)),(87,.v (.int .i64 k1))] 6 (qab qal) (fun _ h=>h.cells) cV aX fun gd cW=>?_
 refine qaH (i:=4) kz (qai cW (f:=67) (vs:=[.int .i64 k1]) (d:=82) kz Tryz.call67 (qi3 k1 _) ?_)
 rintro e_ ge ⟨rfl,bH⟩
 refine ⟨_,rfl,fun gf cX=>?_⟩
 have bI:=bG.next_nil bH
 have ay:=bG.frN bH
 have cY:=TT.ofW ay bI
 refine ⟨fun _=>cY,?_⟩
 refine qaH (i:=5) kz (qai cX (f:=66) (vs:=[.int .i64 af,.int .i64 ((qbv k1:Nat):Int)]) (d:=83) kz Tryz.call66 (qfj af (qbv k1) (by first | decide | exact qbW _ | omega) _) ?_)
 rintro e_ gg ⟨cZ,c5,rfl,c8,da⟩
 refine ⟨_,rfl,fun gh db=>?_⟩
 obtain ⟨br,aH⟩:=bI.frFresh da (brow cZ c5 5 (be (qbv k1) af)) (Nat.le_refl _) c8
 have dc:=TT.ofW (ay.trans aH) br
 refine ⟨fun _=>dc,?_⟩
 refine qaH (i:=10) kz (qai db (f:=67) (vs:=[.int .i64 k1]) (d:=88) kz Tryz.call67 (qi3 k1 _) ?_)
 rintro e_ gi ⟨rfl,bJ⟩
 refine ⟨_,rfl,fun gj de=>?_⟩
 have bK:=br.next_nil bJ
 have bt:=br.frN bJ
 have df:=TT.ofW ((ay.trans aH).trans bt) bK
 refine ⟨fun _=>df,?_⟩
 refine qaH (i:=11) kz (qai de (f:=66) (vs:=[.int .i64 y6,.int .i64 ((qbv k1:Nat):Int)]) (d:=89) kz Tryz.call66 (qfj y6 (qbv k1) (by first | decide | exact qbW _ | omega) _) ?_)
 rintro e_ gk ⟨dg,dh,rfl,di,dj⟩
 refine ⟨_,rfl,fun gl dl=>?_⟩
 obtain ⟨aA,bL⟩:=bK.frFresh dj (brow dg dh 5 (be (qbv k1) y6)) (Nat.le_refl _) di
 have dp:=TT.ofW (((ay.trans aH).trans bt).trans bL) aA
 refine ⟨fun _=>dp,?_⟩
 refine qaH (i:=12) kz (qai dl (f:=8) (vs:=[.slice cZ ((be (qbv k1) af).length) c5,.slice dg ((be (qbv k1) y6).length) dh]) (d:=90) kz Tryz.call8 (qkL _ _ _ _ (be (qbv k1) af) (be (qbv k1) y6) _ _ (qeV (aA.own 0 _ rfl) (by first | omega | (rw [qb7]; decide) | (simp only [be_length]; exact Nat.le_trans (qbW _) (by decide)) | (have:=hroom; omega) | (have:=hmade; omega) | (simp only [List.length_append,List.length_nil]; omega)) (F:=fun _ _=>True) (fun _ _ _=>trivial)) (qeV (aA.own 1 _ rfl) (by first | omega | (rw [qb7]; decide) | (simp only [be_length]; exact Nat.le_trans (qbW _) (by decide)) | (have:=hroom; omega) | (have:=hmade; omega) | (simp only [List.length_append,List.length_nil]; omega)) (F:=fun _ _=>True) (fun _ _ _=>trivial))) ?_)
 rintro e_ gm ⟨rfl,bM⟩
 refine ⟨_,rfl,fun gn dq=>?_⟩
 have aI:=aA.next_nil bM
 have dr:=aA.frN bM
 have dt:=TT.ofW ((((ay.trans aH).trans bt).trans bL).trans dr) aI
 refine ⟨fun _=>dt,?_⟩
 refine qaH (i:=13) kz (qcD [4] aI.cells dq (env':=[(4,.v (.bool (decide (be (qbv k1) af = be (qbv k1) y6))))]) kz fun gp du=>?_)
 refine ⟨fun h=>absurd rfl h,?_⟩
 refine qbb kz ?_ _
 refine qaa ?_
 refine wp_ret ?_
 refine qaV du aI.cells (v:=.bool (decide (be (qbv k1) af = be (qbv k1) y6))) kz ?_
 refine ⟨congrArg (fun b_=>Ending.returned (Value.bool b_)) ?_,aI.step⟩
 first
  | (rw [qcW ‹_›]; simp only [and1]; done)
  | (rw [qbG ‹_› ‹_›]; exact qbE hz (by omega); done)
  | (rw [qbG ‹_› ‹_›]; exact qbw (k:=k) (by omega) (by omega) ‹_›; done)
  | (rw [qca ‹_› ‹_› (by omega) ‹_›]; done)
  | (rw [qcs ‹_› ‹_› (by omega) ‹_›]; done)
  | (rw [qct ‹_› ‹_› ‹_› ‹_› ‹_›]; done)
  | (rw [qcl ‹_› ‹_› ‹_› ‹_› ‹_› ‹_›,huu,qbO (by omega),Bool.true_and]; done)
  | (rw [qbN ‹_› ‹_› ‹_› ‹_› ‹_› ‹_›]; done)
theorem qj3:∀ d,qi6 d
 | 0=>fun cf f ct t w F hf hd ht=>by
  obtain ⟨k,x1,x2,x3,x4,x5,x6,l,A,c,xs,rfl,_⟩:=hf.open_
  rw [qdS] at hd; omega
 | d + 1=>qg5 (qj3 d)
theorem qkN (W:Fld → Tree → Bs) (A:Option Addr) (c:Nat) (l:List Fld) (v:Int) (flex:Bool) (ct:List Value) (t:Tree) (w:World) (F:Nat → Nat → Prop) (hW_:∀ cf f ct t w F,f ∈ l → FldR w F cf f → TreeR w F ct t → (W f t).length ≤ 1099511627776 → Calls Tryz.prog 52 #[.agg cf.toArray,.int .i64 v,.bool flex,.agg ct.toArray] w (qdr w 5 (W f t))) (hl:FldsR w F A c l) (ht:TreeR w F ct t) (hroom:(qem W l v flex t).length ≤ 1099511627776) :
  Calls Tryz.prog 25 #[.slice A l.length c,.int .i64 v,.bool flex,.agg ct.toArray] w (qdr w 5 (qem W l v flex t)):=by
 obtain ⟨xfs,h1,h2⟩:=hl.ex
 have hsm:=h1.small
 obtain ⟨n1,s2,b3,l4,u5,A6,c7,A8,c9,aV,aW,lD,rfl,rfl,lE,lF,ov,lG⟩:=ht.open_
 have kJ:=lE.small
 have kK:=lF.small
 have hkr:=qd9 l
 refine enter (n:=132) Tryz.func25 rfl Tryz.ntmps25 kz fun a hE=>?_
 have hW:=WOk.start w Nil
 refine qad [0,1] kz ?_
 refine qah (qa9 hW hE (d:=7) (cs:=[.int .i64 n1,.slice A6 s2.length c7,.bool b3,.slice A8 l4.length c9,.slice aV u5.length aW]) kz fun cv ow ox lH lI lJ ce jD=>?_)
 refine qak [1] [] [(0,.v (.slice A l.length c)),(1,.v (.int .i64 v)),(2,.v (.bool flex)),(7,.p 0 0)] ce jD fun oy jE=>?_
 refine qae (qaa ?_)
 refine qaz [(0,.v (.slice A l.length c)),(1,.v (.int .i64 v)),(2,.v (.bool flex)),(7,.p 0 0),(9,.v (.slice none 0 0)),(10,.v (.slice none 0 0))] ce jE fun oz jF=>?_
 refine qaz [(0,.v (.slice A l.length c)),(1,.v (.int .i64 v)),(2,.v (.bool flex)),(7,.p 0 0),(9,.v (.slice none 0 0)),(10,.v (.slice none 0 0)),(11,.v (.int .i64 0))] ce jF fun oA jG=>?_
 refine wp_seq ?_
 refine qaz [(0,.v (.slice A l.length c)),(1,.v (.int .i64 v)),(2,.v (.bool flex)),(7,.p 0 0),(9,.v (.slice none 0 0)),(10,.v (.slice none 0 0)),(11,.v (.int .i64 0)),(21,.v (.slice A l.length c)),(22,.v (.int .i64 ((l.length:Nat):Int))),(23,.v (.int .i64 0))] ce jG fun oB jH=>?_
 refine wp_block ?_
 have ey:=ce.addNil 5 1
 have lK:=ce.frNil 5 1
 have htot:(qaJ W l v (Tree.mk n1 s2 b3 l4 u5) 0).length ≤ 1099511627776:=by have h_:=hroom; rw [qem,List.length_append] at h_; omega
 refine wp_loop_ghost (fun n_ a_ w_=>∃ (k:Nat) (A_:Option Addr) (c_:Nat) (dn:Bs),n_ = l.length - k ∧ k ≤ l.length ∧ (dn ++ qaJ W (l.drop k) v (Tree.mk n1 s2 b3 l4 u5) k = qaJ W l v (Tree.mk n1 s2 b3 l4 u5) 0) ∧ LInv ey 132 [⟨cv,0,[.int .i64 n1,.slice A6 s2.length c7,.bool b3,.slice A8 l4.length c9,.slice aV u5.length aW],true⟩] [brow A_ c_ 5 dn] [(0,.v (.slice A l.length c)),(1,.v (.int .i64 v)),(2,.v (.bool flex)),(7,.p 0 0),(9,.v (.slice A_ dn.length c_)),(10,.v (.slice none 0 0)),(11,.v (.int .i64 0)),(21,.v (.slice A l.length c)),(22,.v (.int .i64 ((l.length:Nat):Int))),(23,.v (.int .i64 ((k:Nat):Int)))] a_ w_) (l.length) ⟨0,none,0,[],by omega,by omega,rfl,jH.pk,ey,Fr.refl _ _ _⟩ ?_
 rintro oC oD oE ⟨k,A_,c_,dn,lL,lM,hB,jI,aA,d8⟩
 refine qaz [(0,.v (.slice A l.length c)),(1,.v (.int .i64 v)),(2,.v (.bool flex)),(7,.p 0 0),(9,.v (.slice A_ dn.length c_)),(10,.v (.slice none 0 0)),(11,.v (.int .i64 0)),(21,.v (.slice A l.length c)),(22,.v (.int .i64 ((l.length:Nat):Int))),(23,.v (.int .i64 ((k:Nat):Int))),(24,.v (.bool (decide (((k:Nat):Int) < ((l.length:Nat):Int)))))] aA jI fun oF d9=>?_
 refine wp_seq ?_
 refine qau d9 (b:=decide (((k:Nat):Int) < ((l.length:Nat):Int))) kz (fun ea=>?_) (fun ea=>?_)
 ·
  have lN:=of_decide_eq_true ea
  refine wp_skip ?_
  refine qaa ?_
  refine wp_seq ?_
  refine wp_block ?_
  refine qad [0,1,2,3,4,5] kz ?_
  refine qak [0] [1,2,3,4,5] [(0,.v (.slice A l.length c)),(1,.v (.int .i64 v)),(2,.v (.bool flex)),(7,.p 0 0),(9,.v (.slice A_ dn.length c_)),(10,.v (.slice none 0 0)),(11,.v (.int .i64 0)),(21,.v (.slice A l.length c)),(22,.v (.int .i64 ((l.length:Nat):Int))),(23,.v (.int .i64 ((k:Nat):Int))),(25,.v (.int .i64 ((k:Nat):Int)))] aA d9 fun oG jJ=>?_
  obtain ⟨lO,lP,jK,lQ,dq⟩:=Slots.get h1 (i:=k) (by omega)
  obtain ⟨lR,bj⟩:∃ x,l[k]? = some x:=⟨_,List.getElem?_eq_getElem (by omega)⟩
  have eb:=h2 k lR bj
  obtain ⟨aB,aC,aD,aE,ax,aF,aG,aH,dl,dp,lS,rfl,dr,lT,oH⟩:=eb.open_
  rw [dr] at eb
  have kL:=lT.small
  rw [dr] at dq
  refine qah (qaM jJ (t:=29) (A:=A) (m:=l.length) (q:=((k:Nat):Int)) (d:=26) kz (e:=50) (size:=8) (bytes:=80) kz jK rfl (by omega) fun oI jL=>?_)
  refine qah (qa0 jL (t:=50) (b:=lO) (o:=lP + k * 8) (d:=27) kz (cs:=[.int .i64 aB,.int .i64 aC,.int .i64 aD,.int .i64 aE,.int .i64 ax,.int .i64 aF,.int .i64 aG,.slice dl aH.length dp]) (v:=.agg #[.int .i64 aB,.int .i64 aC,.int .i64 aD,.int .i64 aE,.int .i64 ax,.int .i64 aF,.int .i64 aG,.slice dl aH.length dp]) kz (AtF.move dq aA.step nilM qco).at_ fun oJ jM=>?_)
  refine qah (qaw aA jM (d:=13) (cs:=[.int .i64 0,.int .i64 0,.int .i64 0,.int .i64 0,.int .i64 0,.int .i64 0,.int .i64 0,.slice none 0 0]) kz fun oK oL oM lU lV ec ez jN=>?_)
  refine qak [4] [5] [(0,.v (.slice A l.length c)),(1,.v (.int .i64 v)),(2,.v (.bool flex)),(7,.p 0 0),(9,.v (.slice A_ dn.length c_)),(10,.v (.slice none 0 0)),(11,.v (.int .i64 0)),(12,.v (.int .i64 ((k:Nat):Int))),(13,.p 1 0),(21,.v (.slice A l.length c)),(22,.v (.int .i64 ((l.length:Nat):Int))),(23,.v (.int .i64 ((k:Nat):Int))),(27,.v (.agg #[.int .i64 aB,.int .i64 aC,.int .i64 aD,.int .i64 aE,.int .i64 ax,.int .i64 aF,.int .i64 aG,.slice dl aH.length dp]))] ez jN fun oN jO=>?_
  refine qah (qaj ez jO (oi:=1) (cs:=[.int .i64 aB,.int .i64 aC,.int .i64 aD,.int .i64 aE,.int .i64 ax,.int .i64 aF,.int .i64 aG,.slice dl aH.length dp]) kz fun oO ee bH jP=>?_)
  refine qae (qaa ?_)
  refine qad [0,1,2,3,4,5,6,7] kz ?_
  refine qak [0,1,2,3] [4,5,6,7] [(0,.v (.slice A l.length c)),(1,.v (.int .i64 v)),(2,.v (.bool flex)),(7,.p 0 0),(9,.v (.slice A_ dn.length c_)),(10,.v (.slice none 0 0)),(11,.v (.int .i64 0)),(12,.v (.int .i64 ((k:Nat):Int))),(13,.p 1 0),(21,.v (.slice A l.length c)),(22,.v (.int .i64 ((l.length:Nat):Int))),(23,.v (.int .i64 ((k:Nat):Int))),(31,.v (.bool (decide (ax < 0))))] bH jP fun oP eA=>?_
  refine (Bool.eq_false_or_eq_true (decide (ax < 0))).elim (fun cw=>?_) (fun cw=>?_)
  ·
   have lW:=of_decide_eq_true cw
   have jQ:=eA.cast (env':=[(0,.v (.slice A l.length c)),(1,.v (.int .i64 v)),(2,.v (.bool flex)),(7,.p 0 0),(9,.v (.slice A_ dn.length c_)),(10,.v (.slice none 0 0)),(11,.v (.int .i64 0)),(12,.v (.int .i64 ((k:Nat):Int))),(13,.p 1 0),(21,.v (.slice A l.length c)),(22,.v (.int .i64 ((l.length:Nat):Int))),(23,.v (.int .i64 ((k:Nat):Int))),(31,.v (.bool true))]) (by rw [cw])
   refine qak [4,5] [6,7] [(0,.v (.slice A l.length c)),(1,.v (.int .i64 v)),(2,.v (.bool flex)),(7,.p 0 0),(9,.v (.slice A_ dn.length c_)),(10,.v (.slice none 0 0)),(11,.v (.int .i64 0)),(12,.v (.int .i64 ((k:Nat):Int))),(13,.p 1 0),(21,.v (.slice A l.length c)),(22,.v (.int .i64 ((l.length:Nat):Int))),(23,.v (.int .i64 ((k:Nat):Int))),(31,.v (.bool true)),(32,.v (.agg #[.int .i64 aB,.int .i64 aC,.int .i64 aD,.int .i64 aE,.int .i64 ax,.int .i64 aF,.int .i64 aG,.slice dl aH.length dp])),(33,.v (.int .i64 v))] bH jQ fun oQ eB=>?_
   refine qah (qai eB (f:=51) (vs:=[.agg #[.int .i64 aB,.int .i64 aC,.int .i64 aD,.int .i64 aE,.int .i64 ax,.int .i64 aF,.int .i64 aG,.slice dl aH.length dp],.int .i64 v]) (d:=34) kz Tryz.call51 (sHas aB aC aD aE ax aF aG aH _ _ v _) ?_)
   rintro e_ lX ⟨rfl,dt⟩
   refine ⟨_,rfl,fun lY eC=>?_⟩
   have bO:=bH.next_nil dt
   have du:=bH.frN dt
   refine qak [7] [] [(0,.v (.slice A l.length c)),(1,.v (.int .i64 v)),(2,.v (.bool flex)),(7,.p 0 0),(9,.v (.slice A_ dn.length c_)),(10,.v (.slice none 0 0)),(11,.v (.int .i64 0)),(12,.v (.int .i64 ((k:Nat):Int))),(13,.p 1 0),(21,.v (.slice A l.length c)),(22,.v (.int .i64 ((l.length:Nat):Int))),(23,.v (.int .i64 ((k:Nat):Int))),(35,.v (.bool (Fld.has (Fld.mk aB aC aD aE ax aF aG aH) v)))] bO eC fun lZ cy=>?_
   refine qae (qaa ?_)
   refine qau cy (b:=Fld.has (Fld.mk aB aC aD aE ax aF aG aH) v) kz (fun eD=>?_) (fun eD=>?_)
   ·
    refine qcB 9 kz bO fun l0 eE bk eF=>?_
    refine qbg [0,1,2,3,4,5] [(0,.v (.slice A l.length c)),(1,.v (.int .i64 v)),(2,.v (.bool flex)),(7,.p 0 0),(9,.v (.slice A_ dn.length c_)),(10,.v (.slice none 0 0)),(11,.v (.int .i64 0)),(21,.v (.slice A l.length c)),(22,.v (.int .i64 ((l.length:Nat):Int))),(23,.v (.int .i64 ((k:Nat):Int))),(36,.v (.slice A_ dn.length c_)),(37,.v (.agg #[.int .i64 aB,.int .i64 aC,.int .i64 aD,.int .i64 aE,.int .i64 ax,.int .i64 aF,.int .i64 aG,.slice dl aH.length dp])),(38,.v (.int .i64 v)),(39,.v (.bool flex)),(40,.v (.agg #[.int .i64 n1,.slice A6 s2.length c7,.bool b3,.slice A8 l4.length c9,.slice aV u5.length aW])),(41,.v (.int .i64 ((k:Nat):Int)))] 4 (qaf (qab (qab (qaf (qab qal))))) (fun _ h=>h.cells) eF cy fun l3 eG=>?_
    refine qaH (i:=6) kz (qai eG (f:=22) (vs:=[.agg #[.int .i64 n1,.slice A6 s2.length c7,.bool b3,.slice A8 l4.length c9,.slice aV u5.length aW],.int .i64 ((k:Nat):Int)]) (d:=42) kz Tryz.call22 (sAt _ _ k _ _ (ht.move bk.step nilM bk.imm)) ?_)
    rintro e_ l5 ⟨kM,rfl,eH,bn⟩
    have cz:=eH.move bn nilM (fun b o h_ hb_=>bk.laid (G:=F) bn b o (.inl h_) (Nat.lt_of_lt_of_le hb_ bn.size))
    obtain ⟨ef,eg,eh,ei,ej,ek,em,eo,ep,eu,ev,kN,kO,cA,jR,jS,l6,l7⟩:=cz.open_
    rw [cA] at cz
    have jT:=jR.small
    have jU:=jS.small
    rw [cA]
    refine ⟨_,rfl,fun l9 eI=>?_⟩
    have bP:=bk.next_nil bn
    have bQ:=bk.frN bn
    have eJ:=TT.ofW bQ bP
    refine ⟨fun _=>eJ,?_⟩
    refine qaH (i:=7) kz (qai eI (f:=52) (vs:=[.agg #[.int .i64 aB,.int .i64 aC,.int .i64 aD,.int .i64 aE,.int .i64 ax,.int .i64 aF,.int .i64 aG,.slice dl aH.length dp],.int .i64 v,.bool flex,.agg #[.int .i64 ef,.slice ek eg.length em,.bool eh,.slice eo ei.length ep,.slice eu ej.length ev]]) (d:=43) kz Tryz.call52 ( hW_ _ _ _ _ _ _ (List.mem_of_getElem? bj) (eb.move bP.step nilM bP.imm) cz (by have h_:=congrArg List.length hB; rw [qey bj ‹_› ‹_›] at h_; simp only [List.length_append] at h_; omega)) ?_)
    rintro e_ ma ⟨cB,cC,rfl,eK,eL⟩
    refine ⟨_,rfl,fun mc eM=>?_⟩
    obtain ⟨bR,cD⟩:=bP.frFresh eL (brow cB cC 5 (W (Fld.mk aB aC aD aE ax aF aG aH) (Tree.at_ (Tree.mk n1 s2 b3 l4 u5) k))) (Nat.le_refl _) eK
    have jV:(W (Fld.mk aB aC aD aE ax aF aG aH) (Tree.at_ (Tree.mk n1 s2 b3 l4 u5) k)).length ≤ 1099511627776:=by have h_:=congrArg List.length hB; rw [qey bj ‹_› ‹_›] at h_; simp only [List.length_append] at h_; omega
    have eN:=TT.ofW (bQ.trans cD) bR
    refine ⟨fun _=>eN,?_⟩
    refine qaH (i:=8) kz (qaU bR eM (k:=0) (d:=44) (t:=22) (e:=5) (size:=1) (bytes:=1) (A:=A_) (As:=cB) (m0:=dn.length) (c:=c_) (m:=((W (Fld.mk aB aC aD aE ax aF aG aH) (Tree.at_ (Tree.mk n1 s2 b3 l4 u5) k)).length)) (cs:=cC) (xs:=(bc dn)) (news:=bc (W (Fld.mk aB aC aD aE ax aF aG aH) (Tree.at_ (Tree.mk n1 s2 b3 l4 u5) k))) kz kz rfl (qbL (bR.own 1 _ rfl) (qcZ _)) (qb0 (bR.own 1 _ rfl)) (by have h_:=congrArg List.length hB; rw [qey bj ‹_› ‹_›] at h_; simp only [List.length_append] at h_ ⊢; omega) fun aX aY md me dv eO eP=>?_)
    have eQ:(⟨aX,aY,5,1,dn.length + (W (Fld.mk aB aC aD aE ax aF aG aH) (Tree.at_ (Tree.mk n1 s2 b3 l4 u5) k)).length,bc dn ++ bc (W (Fld.mk aB aC aD aE ax aF aG aH) (Tree.at_ (Tree.mk n1 s2 b3 l4 u5) k))⟩:Rw) = brow aX aY 5 (dn ++ (W (Fld.mk aB aC aD aE ax aF aG aH) (Tree.at_ (Tree.mk n1 s2 b3 l4 u5) k))):=qbr (rfl) rfl
    obtain ⟨bS,dw⟩:=eO.rowEq 0 [brow aX aY 5 (dn ++ (W (Fld.mk aB aC aD aE ax aF aG aH) (Tree.at_ (Tree.mk n1 s2 b3 l4 u5) k))),brow cB cC 5 (W (Fld.mk aB aC aD aE ax aF aG aH) (Tree.at_ (Tree.mk n1 s2 b3 l4 u5) k))] eQ
    have eR:=EnvOk.pick eP (ks:=[0,1,2,7,9,10,11,21,22,23,36,37,38,39,40,41,42,43,44]) (env':=[(0,.v (.slice A l.length c)),(1,.v (.int .i64 v)),(2,.v (.bool flex)),(7,.p 0 0),(9,.v (.slice A_ dn.length c_)),(10,.v (.slice none 0 0)),(11,.v (.int .i64 0)),(21,.v (.slice A l.length c)),(22,.v (.int .i64 ((l.length:Nat):Int))),(23,.v (.int .i64 ((k:Nat):Int))),(36,.v (.slice A_ dn.length c_)),(37,.v (.agg #[.int .i64 aB,.int .i64 aC,.int .i64 aD,.int .i64 aE,.int .i64 ax,.int .i64 aF,.int .i64 aG,.slice dl aH.length dp])),(38,.v (.int .i64 v)),(39,.v (.bool flex)),(40,.v (.agg #[.int .i64 n1,.slice A6 s2.length c7,.bool b3,.slice A8 l4.length c9,.slice aV u5.length aW])),(41,.v (.int .i64 ((k:Nat):Int))),(42,.v (.agg #[.int .i64 ef,.slice ek eg.length em,.bool eh,.slice eo ei.length ep,.slice eu ej.length ev])),(43,.v (.slice cB ((W (Fld.mk aB aC aD aE ax aF aG aH) (Tree.at_ (Tree.mk n1 s2 b3 l4 u5) k)).length) cC)),(44,.v (.slice aX (dn.length + (W (Fld.mk aB aC aD aE ax aF aG aH) (Tree.at_ (Tree.mk n1 s2 b3 l4 u5) k)).length) aY))]) kz
    have eS:=eR.cast (env':=[(0,.v (.slice A l.length c)),(1,.v (.int .i64 v)),(2,.v (.bool flex)),(7,.p 0 0),(9,.v (.slice A_ dn.length c_)),(10,.v (.slice none 0 0)),(11,.v (.int .i64 0)),(21,.v (.slice A l.length c)),(22,.v (.int .i64 ((l.length:Nat):Int))),(23,.v (.int .i64 ((k:Nat):Int))),(36,.v (.slice A_ dn.length c_)),(37,.v (.agg #[.int .i64 aB,.int .i64 aC,.int .i64 aD,.int .i64 aE,.int .i64 ax,.int .i64 aF,.int .i64 aG,.slice dl aH.length dp])),(38,.v (.int .i64 v)),(39,.v (.bool flex)),(40,.v (.agg #[.int .i64 n1,.slice A6 s2.length c7,.bool b3,.slice A8 l4.length c9,.slice aV u5.length aW])),(41,.v (.int .i64 ((k:Nat):Int))),(42,.v (.agg #[.int .i64 ef,.slice ek eg.length em,.bool eh,.slice eo ei.length ep,.slice eu ej.length ev])),(43,.v (.slice cB ((W (Fld.mk aB aC aD aE ax aF aG aH) (Tree.at_ (Tree.mk n1 s2 b3 l4 u5) k)).length) cC)),(44,.v (.slice aX ((dn ++ (W (Fld.mk aB aC aD aE ax aF aG aH) (Tree.at_ (Tree.mk n1 s2 b3 l4 u5) k))).length) aY))]) (by simp only [List.length_append,List.length_cons,List.length_nil,Nat.zero_add])
    have eT:=TT.ofW (((bQ.trans cD).trans dv).trans dw) bS
    refine ⟨fun _=>eT,?_⟩
    refine qaH (i:=9) kz (qcD [0,1,2,7,9,10,11,21,22,23] bS.cells eS (env':=[(0,.v (.slice A l.length c)),(1,.v (.int .i64 v)),(2,.v (.bool flex)),(7,.p 0 0),(9,.v (.slice aX ((dn ++ (W (Fld.mk aB aC aD aE ax aF aG aH) (Tree.at_ (Tree.mk n1 s2 b3 l4 u5) k))).length) aY)),(10,.v (.slice none 0 0)),(11,.v (.int .i64 0)),(21,.v (.slice A l.length c)),(22,.v (.int .i64 ((l.length:Nat):Int))),(23,.v (.int .i64 ((k:Nat):Int)))]) kz fun mf eU=>?_)
    refine ⟨fun h=>absurd rfl h,?_⟩
    refine qbb kz ?_ _
    refine qas ?_
    refine qaa ?_
    refine qap [0,1] kz ?_
    refine qak [0,1] [] [(0,.v (.slice A l.length c)),(1,.v (.int .i64 v)),(2,.v (.bool flex)),(7,.p 0 0),(9,.v (.slice aX ((dn ++ (W (Fld.mk aB aC aD aE ax aF aG aH) (Tree.at_ (Tree.mk n1 s2 b3 l4 u5) k))).length) aY)),(10,.v (.slice none 0 0)),(11,.v (.int .i64 0)),(21,.v (.slice A l.length c)),(22,.v (.int .i64 ((l.length:Nat):Int))),(23,.v (.int .i64 (IntKind.i64.wrap (((k:Nat):Int) + 1))))] bS eU fun mg eV=>?_
    refine qae (qaa ?_)
    obtain ⟨dx,eW,eX⟩:=bS.cutB eV 1 [⟨cv,0,[.int .i64 n1,.slice A6 s2.length c7,.bool b3,.slice A8 l4.length c9,.slice aV u5.length aW],true⟩] [(0,.v (.slice A l.length c)),(1,.v (.int .i64 v)),(2,.v (.bool flex)),(7,.p 0 0),(9,.v (.slice aX ((dn ++ (W (Fld.mk aB aC aD aE ax aF aG aH) (Tree.at_ (Tree.mk n1 s2 b3 l4 u5) k))).length) aY)),(10,.v (.slice none 0 0)),(11,.v (.int .i64 0)),(21,.v (.slice A l.length c)),(22,.v (.int .i64 ((l.length:Nat):Int))),(23,.v (.int .i64 (IntKind.i64.wrap (((k:Nat):Int) + 1))))]
    obtain ⟨eY,eZ⟩:=eW.cutR 1 [brow aX aY 5 (dn ++ (W (Fld.mk aB aC aD aE ax aF aG aH) (Tree.at_ (Tree.mk n1 s2 b3 l4 u5) k)))]
    have e5:IntKind.i64.wrap (((k:Nat):Int) + 1) = ((k + 1:Nat):Int):=qaN (by omega)
    rw [e5] at dx
    exact ⟨l.length - (k + 1),by omega,k + 1,aX,aY,dn ++ (W (Fld.mk aB aC aD aE ax aF aG aH) (Tree.at_ (Tree.mk n1 s2 b3 l4 u5) k)),rfl,by omega,by rw [List.append_assoc,← qey bj ‹_› ‹_›]; exact hB,dx.pk,eY,((((((((((d8.trans ec).trans ee).trans du).trans eE).trans bQ).trans cD).trans dv).trans dw).trans eX).trans eZ)⟩
   refine wp_skip ?_
   refine qas ?_
   refine qaa ?_
   refine qap [0,1] kz ?_
   refine qak [0,1] [] [(0,.v (.slice A l.length c)),(1,.v (.int .i64 v)),(2,.v (.bool flex)),(7,.p 0 0),(9,.v (.slice A_ dn.length c_)),(10,.v (.slice none 0 0)),(11,.v (.int .i64 0)),(21,.v (.slice A l.length c)),(22,.v (.int .i64 ((l.length:Nat):Int))),(23,.v (.int .i64 (IntKind.i64.wrap (((k:Nat):Int) + 1))))] bO cy fun mh e6=>?_
   refine qae (qaa ?_)
   obtain ⟨dy,e7,e9⟩:=bO.cutB e6 1 [⟨cv,0,[.int .i64 n1,.slice A6 s2.length c7,.bool b3,.slice A8 l4.length c9,.slice aV u5.length aW],true⟩] [(0,.v (.slice A l.length c)),(1,.v (.int .i64 v)),(2,.v (.bool flex)),(7,.p 0 0),(9,.v (.slice A_ dn.length c_)),(10,.v (.slice none 0 0)),(11,.v (.int .i64 0)),(21,.v (.slice A l.length c)),(22,.v (.int .i64 ((l.length:Nat):Int))),(23,.v (.int .i64 (IntKind.i64.wrap (((k:Nat):Int) + 1))))]
   have fa:IntKind.i64.wrap (((k:Nat):Int) + 1) = ((k + 1:Nat):Int):=qaN (by omega)
   rw [fa] at dy
   exact ⟨l.length - (k + 1),by omega,k + 1,A_,c_,dn,rfl,by omega,by rw [← qhP bj ‹_›]; exact hB,dy.pk,e7,((((d8.trans ec).trans ee).trans du).trans e9)⟩
  have kP:=of_decide_eq_false cw
  have fb:=eA.cast (env':=[(0,.v (.slice A l.length c)),(1,.v (.int .i64 v)),(2,.v (.bool flex)),(7,.p 0 0),(9,.v (.slice A_ dn.length c_)),(10,.v (.slice none 0 0)),(11,.v (.int .i64 0)),(12,.v (.int .i64 ((k:Nat):Int))),(13,.p 1 0),(21,.v (.slice A l.length c)),(22,.v (.int .i64 ((l.length:Nat):Int))),(23,.v (.int .i64 ((k:Nat):Int))),(31,.v (.bool false))]) (by rw [cw])
  refine qak [4,5,6,7] [] [(0,.v (.slice A l.length c)),(1,.v (.int .i64 v)),(2,.v (.bool flex)),(7,.p 0 0),(9,.v (.slice A_ dn.length c_)),(10,.v (.slice none 0 0)),(11,.v (.int .i64 0)),(12,.v (.int .i64 ((k:Nat):Int))),(13,.p 1 0),(21,.v (.slice A l.length c)),(22,.v (.int .i64 ((l.length:Nat):Int))),(23,.v (.int .i64 ((k:Nat):Int))),(35,.v (.bool false))] bH fb fun mi dA=>?_
  refine qae (qaa ?_)
  refine qbx dA (b:=false) kz rfl ?_
  refine wp_skip ?_
  refine qas ?_
  refine qaa ?_
  refine qap [0,1] kz ?_
  refine qak [0,1] [] [(0,.v (.slice A l.length c)),(1,.v (.int .i64 v)),(2,.v (.bool flex)),(7,.p 0 0),(9,.v (.slice A_ dn.length c_)),(10,.v (.slice none 0 0)),(11,.v (.int .i64 0)),(21,.v (.slice A l.length c)),(22,.v (.int .i64 ((l.length:Nat):Int))),(23,.v (.int .i64 (IntKind.i64.wrap (((k:Nat):Int) + 1))))] bH dA fun mj fc=>?_
  refine qae (qaa ?_)
  obtain ⟨dB,fe,ff⟩:=bH.cutB fc 1 [⟨cv,0,[.int .i64 n1,.slice A6 s2.length c7,.bool b3,.slice A8 l4.length c9,.slice aV u5.length aW],true⟩] [(0,.v (.slice A l.length c)),(1,.v (.int .i64 v)),(2,.v (.bool flex)),(7,.p 0 0),(9,.v (.slice A_ dn.length c_)),(10,.v (.slice none 0 0)),(11,.v (.int .i64 0)),(21,.v (.slice A l.length c)),(22,.v (.int .i64 ((l.length:Nat):Int))),(23,.v (.int .i64 (IntKind.i64.wrap (((k:Nat):Int) + 1))))]
  have fg:IntKind.i64.wrap (((k:Nat):Int) + 1) = ((k + 1:Nat):Int):=qaN (by omega)
  rw [fg] at dB
  exact ⟨l.length - (k + 1),by omega,k + 1,A_,c_,dn,rfl,by omega,by rw [← qhO bj ‹_›]; exact hB,dB.pk,fe,(((d8.trans ec).trans ee).trans ff)⟩
 have kQ:=of_decide_eq_false ea
 refine wp_exit ?_
 refine qar ?_
 refine qar ?_
 refine qaE ?_
 refine qaa ?_
 refine wp_seq ?_
 refine qaz [(0,.v (.slice A l.length c)),(1,.v (.int .i64 v)),(2,.v (.bool flex)),(7,.p 0 0),(9,.v (.slice A_ dn.length c_)),(10,.v (.slice none 0 0)),(11,.v (.int .i64 0)),(47,.v (.bool (!flex)))] aA d9 fun ml cE=>?_
 refine qau cE (b:=!flex) kz (fun bT=>?_) (fun bT=>?_)
 ·
  refine qaz [(8,.v (.slice A_ dn.length c_))] aA cE fun mm fh=>?_
  refine wp_ret ?_
  refine qaB ?_
  refine qaV fh aA.cells (v:=.slice A_ dn.length c_) kz ?_
  exact qbd aA (k:=0) rfl (by rw [show flex = false by simpa using bT,qiI,← hB,qgq (by omega),List.append_nil])
 refine wp_skip ?_
 refine qaa ?_
 refine wp_seq ?_
 refine qad [0,1,2,3] kz ?_
 refine qak [0] [1,2,3] [(0,.v (.slice A l.length c)),(1,.v (.int .i64 v)),(2,.v (.bool flex)),(7,.p 0 0),(9,.v (.slice A_ dn.length c_)),(10,.v (.slice none 0 0)),(11,.v (.int .i64 0)),(49,.v (.slice A l.length c))] aA cE fun mn fi=>?_
 refine qah (qai fi (f:=50) (vs:=[.slice A l.length c]) (d:=50) kz Tryz.call50 (qj2 _ _ l _ _ ⟨xfs,(h1.move aA.step nilM aA.imm),(fun i_ x_ h_=>((h2 i_ x_ h_).move aA.step nilM aA.imm))⟩) ?_)
 rintro e_ mo ⟨rfl,dC⟩
 refine ⟨_,rfl,fun mp fj=>?_⟩
 have dD:=aA.next_nil dC
 have kR:=aA.frN dC
 refine qak [2,3] [] [(0,.v (.slice A l.length c)),(1,.v (.int .i64 v)),(2,.v (.bool flex)),(7,.p 0 0),(9,.v (.slice A_ dn.length c_)),(10,.v (.slice none 0 0)),(11,.v (.int .i64 0)),(51,.v (.int .i64 (IntKind.i64.wrap (qaq l)))),(52,.v (.int .i64 0))] dD fj fun mq dE=>?_
 refine qae (qaa ?_)
 refine wp_block ?_
 have hdn:dn = qaJ W l v (Tree.mk n1 s2 b3 l4 u5) 0:=by rw [← hB,qgq (by omega),List.append_nil]
 have dF:dn = (qaJ W l v (Tree.mk n1 s2 b3 l4 u5) 0):=hdn
 have fk:=congrArg (brow A_ c_ 5) dF
 obtain ⟨dG,kS⟩:=dD.rowEq 0 [brow A_ c_ 5 (qaJ W l v (Tree.mk n1 s2 b3 l4 u5) 0)] fk
 rw [dF] at dE
 have hfx:flex = true:=by simpa using bT
 have htot2:(qaJ W l v (Tree.mk n1 s2 b3 l4 u5) 0).length + (uv (qaS W l (Tree.mk n1 s2 b3 l4 u5) (qaq l).toNat + (qag l u5).length)).length + ((qaA W l (Tree.mk n1 s2 b3 l4 u5) (qaq l).toNat).length + (qa7 (qag l u5)).length) ≤ 1099511627776:=by have h_:=hroom; rw [hfx,qfx] at h_; simpa only [List.length_append] using h_
 have hmono:=fun i (h_:i ≤ (qaq l).toNat)=>qhQ W l (Tree.mk n1 s2 b3 l4 u5) h_
 have hcnt:=qhi W l (Tree.mk n1 s2 b3 l4 u5)
 have hknn:=qiJ l
 have fl:=EnvOk.pick dE (ks:=[0,1,2,7,9,10,11,51,52]) (env':=[(0,.v (.slice A l.length c)),(1,.v (.int .i64 v)),(2,.v (.bool flex)),(7,.p 0 0),(9,.v (.slice A_ ((qaJ W l v (Tree.mk n1 s2 b3 l4 u5) 0).length) c_)),(10,.v (.slice none 0 0)),(11,.v (.int .i64 0)),(51,.v (.int .i64 (IntKind.i64.wrap (qaq l)))),(52,.v (.int .i64 0))]) kz
 have fm:=fl.cast (env':=[(0,.v (.slice A l.length c)),(1,.v (.int .i64 v)),(2,.v (.bool flex)),(7,.p 0 0),(9,.v (.slice A_ ((qaJ W l v (Tree.mk n1 s2 b3 l4 u5) 0).length) c_)),(10,.v (.slice none 0 0)),(11,.v (.int .i64 0)),(51,.v (.int .i64 (((qaq l).toNat:Nat):Int))),(52,.v (.int .i64 0))]) (by rw [hknn])
 have dH:=dG.addNil 5 1
 have kT:=dG.frNil 5 1
 refine wp_loop_ghost (fun n_ a_ w_=>∃ (k2:Nat) (A2_:Option Addr) (c2_:Nat),n_ = (qaq l).toNat - k2 ∧ k2 ≤ (qaq l).toNat ∧ LInv dH 132 [⟨cv,0,[.int .i64 n1,.slice A6 s2.length c7,.bool b3,.slice A8 l4.length c9,.slice aV u5.length aW],true⟩] [brow A_ c_ 5 (qaJ W l v (Tree.mk n1 s2 b3 l4 u5) 0),brow A2_ c2_ 5 (qaA W l (Tree.mk n1 s2 b3 l4 u5) k2)] [(0,.v (.slice A l.length c)),(1,.v (.int .i64 v)),(2,.v (.bool flex)),(7,.p 0 0),(9,.v (.slice A_ ((qaJ W l v (Tree.mk n1 s2 b3 l4 u5) 0).length) c_)),(10,.v (.slice A2_ ((qaA W l (Tree.mk n1 s2 b3 l4 u5) k2).length) c2_)),(11,.v (.int .i64 ((qaS W l (Tree.mk n1 s2 b3 l4 u5) k2:Nat):Int))),(51,.v (.int .i64 (((qaq l).toNat:Nat):Int))),(52,.v (.int .i64 ((k2:Nat):Int)))] a_ w_) ((qaq l).toNat) ⟨0,none,0,by omega,by omega,fm.pk,dH,Fr.refl _ _ _⟩ ?_
 rintro mr mt mu ⟨k2,A2_,c2_,kU,kV,fo,ao,fp⟩
 refine qaz [(0,.v (.slice A l.length c)),(1,.v (.int .i64 v)),(2,.v (.bool flex)),(7,.p 0 0),(9,.v (.slice A_ ((qaJ W l v (Tree.mk n1 s2 b3 l4 u5) 0).length) c_)),(10,.v (.slice A2_ ((qaA W l (Tree.mk n1 s2 b3 l4 u5) k2).length) c2_)),(11,.v (.int .i64 ((qaS W l (Tree.mk n1 s2 b3 l4 u5) k2:Nat):Int))),(51,.v (.int .i64 (((qaq l).toNat:Nat):Int))),(52,.v (.int .i64 ((k2:Nat):Int))),(53,.v (.bool (decide (((k2:Nat):Int) < (((qaq l).toNat:Nat):Int)))))] ao fo fun mw cG=>?_
 refine wp_seq ?_
 refine qau cG (b:=decide (((k2:Nat):Int) < (((qaq l).toNat:Nat):Int))) kz (fun cH=>?_) (fun cH=>?_)
 ·
  have kW:=of_decide_eq_true cH
  refine wp_skip ?_
  refine qaa ?_
  refine wp_seq ?_
  refine wp_block ?_
  refine qaz [(0,.v (.slice A l.length c)),(1,.v (.int .i64 v)),(2,.v (.bool flex)),(7,.p 0 0),(9,.v (.slice A_ ((qaJ W l v (Tree.mk n1 s2 b3 l4 u5) 0).length) c_)),(10,.v (.slice A2_ ((qaA W l (Tree.mk n1 s2 b3 l4 u5) k2).length) c2_)),(11,.v (.int .i64 ((qaS W l (Tree.mk n1 s2 b3 l4 u5) k2:Nat):Int))),(14,.v (.int .i64 ((k2:Nat):Int))),(51,.v (.int .i64 (((qaq l).toNat:Nat):Int))),(52,.v (.int .i64 ((k2:Nat):Int)))] ao cG fun mx fq=>?_
  refine qaz [(0,.v (.slice A l.length c)),(1,.v (.int .i64 v)),(2,.v (.bool flex)),(7,.p 0 0),(9,.v (.slice A_ ((qaJ W l v (Tree.mk n1 s2 b3 l4 u5) 0).length) c_)),(10,.v (.slice A2_ ((qaA W l (Tree.mk n1 s2 b3 l4 u5) k2).length) c2_)),(11,.v (.int .i64 ((qaS W l (Tree.mk n1 s2 b3 l4 u5) k2:Nat):Int))),(14,.v (.int .i64 ((k2:Nat):Int))),(51,.v (.int .i64 (((qaq l).toNat:Nat):Int))),(52,.v (.int .i64 ((k2:Nat):Int))),(55,.v (.slice A l.length c)),(56,.v (.int .i64 ((l.length:Nat):Int))),(57,.v (.int .i64 0))] ao fq fun my dI=>?_
  refine wp_block ?_
  have dJ:(qaA W l (Tree.mk n1 s2 b3 l4 u5) k2) = (qaA W l (Tree.mk n1 s2 b3 l4 u5) k2 ++ []):=(List.append_nil _).symm
  have fr:=congrArg (brow A2_ c2_ 5) dJ
  obtain ⟨dK,ft⟩:=ao.rowEq 1 [brow A_ c_ 5 (qaJ W l v (Tree.mk n1 s2 b3 l4 u5) 0),brow A2_ c2_ 5 (qaA W l (Tree.mk n1 s2 b3 l4 u5) k2 ++ [])] fr
  rw [dJ] at dI
  have hm2:=hmono (k2 + 1) (by omega)
  rw [qaA,List.length_append] at hm2
  have hc2:=hcnt (k2 + 1)
  rw [qaS,qaA,List.length_append] at hc2
  have hc3:=qgX W k2 (Tree.mk n1 s2 b3 l4 u5) l 0
  refine wp_loop_ghost (fun n_ a_ w_=>∃ (q:Nat) (A3_:Option Addr) (c3_:Nat) (dm:Bs) (cn:Nat),n_ = l.length - q ∧ q ≤ l.length ∧ (dm ++ tagB W (l.drop q) k2 (Tree.mk n1 s2 b3 l4 u5) q = tagB W l k2 (Tree.mk n1 s2 b3 l4 u5) 0) ∧ (cn + tagN W (l.drop q) k2 (Tree.mk n1 s2 b3 l4 u5) q = tagN W l k2 (Tree.mk n1 s2 b3 l4 u5) 0) ∧ LInv dK 132 [⟨cv,0,[.int .i64 n1,.slice A6 s2.length c7,.bool b3,.slice A8 l4.length c9,.slice aV u5.length aW],true⟩] [brow A_ c_ 5 (qaJ W l v (Tree.mk n1 s2 b3 l4 u5) 0),brow A3_ c3_ 5 (qaA W l (Tree.mk n1 s2 b3 l4 u5) k2 ++ dm)] [(0,.v (.slice A l.length c)),(1,.v (.int .i64 v)),(2,.v (.bool flex)),(7,.p 0 0),(9,.v (.slice A_ ((qaJ W l v (Tree.mk n1 s2 b3 l4 u5) 0).length) c_)),(10,.v (.slice A3_ ((qaA W l (Tree.mk n1 s2 b3 l4 u5) k2 ++ dm).length) c3_)),(11,.v (.int .i64 ((qaS W l (Tree.mk n1 s2 b3 l4 u5) k2 + cn:Nat):Int))),(14,.v (.int .i64 ((k2:Nat):Int))),(51,.v (.int .i64 (((qaq l).toNat:Nat):Int))),(52,.v (.int .i64 ((k2:Nat):Int))),(55,.v (.slice A l.length c)),(56,.v (.int .i64 ((l.length:Nat):Int))),(57,.v (.int .i64 ((q:Nat):Int)))] a_ w_) (l.length) ⟨0,A2_,c2_,[],0,by omega,by omega,rfl,Nat.zero_add _,dI.pk,dK,Fr.refl _ _ _⟩ ?_
  rintro mz mA mB ⟨q,A3_,c3_,dm,cn,kX,kY,hB2,hN2,fu,aZ,bU⟩
  refine qaz [(0,.v (.slice A l.length c)),(1,.v (.int .i64 v)),(2,.v (.bool flex)),(7,.p 0 0),(9,.v (.slice A_ ((qaJ W l v (Tree.mk n1 s2 b3 l4 u5) 0).length) c_)),(10,.v (.slice A3_ ((qaA W l (Tree.mk n1 s2 b3 l4 u5) k2 ++ dm).length) c3_)),(11,.v (.int .i64 ((qaS W l (Tree.mk n1 s2 b3 l4 u5) k2 + cn:Nat):Int))),(14,.v (.int .i64 ((k2:Nat):Int))),(51,.v (.int .i64 (((qaq l).toNat:Nat):Int))),(52,.v (.int .i64 ((k2:Nat):Int))),(55,.v (.slice A l.length c)),(56,.v (.int .i64 ((l.length:Nat):Int))),(57,.v (.int .i64 ((q:Nat):Int))),(58,.v (.bool (decide (((q:Nat):Int) < ((l.length:Nat):Int)))))] aZ fu fun mC cI=>?_
  refine wp_seq ?_
  refine qau cI (b:=decide (((q:Nat):Int) < ((l.length:Nat):Int))) kz (fun cJ=>?_) (fun cJ=>?_)
  ·
   have kZ:=of_decide_eq_true cJ
   refine wp_skip ?_
   refine qaa ?_
   refine wp_seq ?_
   refine wp_block ?_
   refine qad [0,1,2,3,4,5] kz ?_
   refine qak [0] [1,2,3,4,5] [(0,.v (.slice A l.length c)),(1,.v (.int .i64 v)),(2,.v (.bool flex)),(7,.p 0 0),(9,.v (.slice A_ ((qaJ W l v (Tree.mk n1 s2 b3 l4 u5) 0).length) c_)),(10,.v (.slice A3_ ((qaA W l (Tree.mk n1 s2 b3 l4 u5) k2 ++ dm).length) c3_)),(11,.v (.int .i64 ((qaS W l (Tree.mk n1 s2 b3 l4 u5) k2 + cn:Nat):Int))),(14,.v (.int .i64 ((k2:Nat):Int))),(51,.v (.int .i64 (((qaq l).toNat:Nat):Int))),(52,.v (.int .i64 ((k2:Nat):Int))),(55,.v (.slice A l.length c)),(56,.v (.int .i64 ((l.length:Nat):Int))),(57,.v (.int .i64 ((q:Nat):Int))),(59,.v (.int .i64 ((q:Nat):Int)))] aZ cI fun mD fv=>?_
   obtain ⟨jW,jX,fw,k6,cK⟩:=Slots.get h1 (i:=q) (by omega)
   obtain ⟨jY,ap⟩:∃ x,l[q]? = some x:=⟨_,List.getElem?_eq_getElem (by omega)⟩
   have bV:=h2 q jY ap
   obtain ⟨ab,ac,ae,af,aa,ag,ah,ai,bp,bq,k7,rfl,cL,jZ,mE⟩:=bV.open_
   rw [cL] at bV
   have j0:=jZ.small
   rw [cL] at cK
   refine qah (qaM fv (t:=29) (A:=A) (m:=l.length) (q:=((q:Nat):Int)) (d:=60) kz (e:=50) (size:=8) (bytes:=80) kz fw rfl (by omega) fun mF fx=>?_)
   refine qah (qa0 fx (t:=50) (b:=jW) (o:=jX + q * 8) (d:=61) kz (cs:=[.int .i64 ab,.int .i64 ac,.int .i64 ae,.int .i64 af,.int .i64 aa,.int .i64 ag,.int .i64 ah,.slice bp ai.length bq]) (v:=.agg #[.int .i64 ab,.int .i64 ac,.int .i64 ae,.int .i64 af,.int .i64 aa,.int .i64 ag,.int .i64 ah,.slice bp ai.length bq]) kz (AtF.move cK aZ.step nilM qco).at_ fun mG fy=>?_)
   refine qah (qaw aZ fy (d:=16) (cs:=[.int .i64 0,.int .i64 0,.int .i64 0,.int .i64 0,.int .i64 0,.int .i64 0,.int .i64 0,.slice none 0 0]) kz fun mH mI mJ k8 k9 cM dL fz=>?_)
   refine qak [4] [5] [(0,.v (.slice A l.length c)),(1,.v (.int .i64 v)),(2,.v (.bool flex)),(7,.p 0 0),(9,.v (.slice A_ ((qaJ W l v (Tree.mk n1 s2 b3 l4 u5) 0).length) c_)),(10,.v (.slice A3_ ((qaA W l (Tree.mk n1 s2 b3 l4 u5) k2 ++ dm).length) c3_)),(11,.v (.int .i64 ((qaS W l (Tree.mk n1 s2 b3 l4 u5) k2 + cn:Nat):Int))),(14,.v (.int .i64 ((k2:Nat):Int))),(15,.v (.int .i64 ((q:Nat):Int))),(16,.p 1 0),(51,.v (.int .i64 (((qaq l).toNat:Nat):Int))),(52,.v (.int .i64 ((k2:Nat):Int))),(55,.v (.slice A l.length c)),(56,.v (.int .i64 ((l.length:Nat):Int))),(57,.v (.int .i64 ((q:Nat):Int))),(61,.v (.agg #[.int .i64 ab,.int .i64 ac,.int .i64 ae,.int .i64 af,.int .i64 aa,.int .i64 ag,.int .i64 ah,.slice bp ai.length bq]))] dL fz fun mK fA=>?_
   refine qah (qaj dL fA (oi:=1) (cs:=[.int .i64 ab,.int .i64 ac,.int .i64 ae,.int .i64 af,.int .i64 aa,.int .i64 ag,.int .i64 ah,.slice bp ai.length bq]) kz fun mL cN fB fC=>?_)
   refine qae (qaa ?_)
   refine qb5 12 kz fB fun mM cO aO cP=>?_
   refine qbg [0,1,2,3,4] [(0,.v (.slice A l.length c)),(1,.v (.int .i64 v)),(2,.v (.bool flex)),(7,.p 0 0),(9,.v (.slice A_ ((qaJ W l v (Tree.mk n1 s2 b3 l4 u5) 0).length) c_)),(10,.v (.slice A3_ ((qaA W l (Tree.mk n1 s2 b3 l4 u5) k2 ++ dm).length) c3_)),(11,.v (.int .i64 ((qaS W l (Tree.mk n1 s2 b3 l4 u5) k2 + cn:Nat):Int))),(14,.v (.int .i64 ((k2:Nat):Int))),(15,.v (.int .i64 ((q:Nat):Int))),(16,.p 1 0),(51,.v (.int .i64 (((qaq l).toNat:Nat):Int))),(52,.v (.int .i64 ((k2:Nat):Int))),(55,.v (.slice A l.length c)),(56,.v (.int .i64 ((l.length:Nat):Int))),(57,.v (.int .i64 ((q:Nat):Int))),(66,.v (.bool (aa == ((k2:Nat):Int))))] 7 (qab (qaf (qab (qab (qaf (qaf (qab (qab (qaf (qab qal)))))))))) (fun _ h=>h.cells) cP fC fun mN dM=>?_
   refine (Bool.eq_false_or_eq_true (aa == ((k2:Nat):Int))).elim (fun br=>?_) (fun br=>?_)
   ·
    have la:aa = ((k2:Nat):Int):=by simpa using br
    have fD:=dM.cast (env':=[(0,.v (.slice A l.length c)),(1,.v (.int .i64 v)),(2,.v (.bool flex)),(7,.p 0 0),(9,.v (.slice A_ ((qaJ W l v (Tree.mk n1 s2 b3 l4 u5) 0).length) c_)),(10,.v (.slice A3_ ((qaA W l (Tree.mk n1 s2 b3 l4 u5) k2 ++ dm).length) c3_)),(11,.v (.int .i64 ((qaS W l (Tree.mk n1 s2 b3 l4 u5) k2 + cn:Nat):Int))),(14,.v (.int .i64 ((k2:Nat):Int))),(15,.v (.int .i64 ((q:Nat):Int))),(16,.p 1 0),(51,.v (.int .i64 (((qaq l).toNat:Nat):Int))),(52,.v (.int .i64 ((k2:Nat):Int))),(55,.v (.slice A l.length c)),(56,.v (.int .i64 ((l.length:Nat):Int))),(57,.v (.int .i64 ((q:Nat):Int))),(66,.v (.bool true))]) (by rw [br])
    refine qbg [5,6,7] [(0,.v (.slice A l.length c)),(1,.v (.int .i64 v)),(2,.v (.bool flex)),(7,.p 0 0),(9,.v (.slice A_ ((qaJ W l v (Tree.mk n1 s2 b3 l4 u5) 0).length) c_)),(10,.v (.slice A3_ ((qaA W l (Tree.mk n1 s2 b3 l4 u5) k2 ++ dm).length) c3_)),(11,.v (.int .i64 ((qaS W l (Tree.mk n1 s2 b3 l4 u5) k2 + cn:Nat):Int))),(14,.v (.int .i64 ((k2:Nat):Int))),(15,.v (.int .i64 ((q:Nat):Int))),(16,.p 1 0),(51,.v (.int .i64 (((qaq l).toNat:Nat):Int))),(52,.v (.int .i64 ((k2:Nat):Int))),(55,.v (.slice A l.length c)),(56,.v (.int .i64 ((l.length:Nat):Int))),(57,.v (.int .i64 ((q:Nat):Int))),(66,.v (.bool true)),(67,.v (.agg #[.int .i64 ab,.int .i64 ac,.int .i64 ae,.int .i64 af,.int .i64 aa,.int .i64 ag,.int .i64 ah,.slice bp ai.length bq])),(68,.v (.agg #[.int .i64 n1,.slice A6 s2.length c7,.bool b3,.slice A8 l4.length c9,.slice aV u5.length aW])),(69,.v (.int .i64 ((q:Nat):Int)))] 4 (qab (qaf (qab (qab (qaf (qaf (qab (qab (qaf (qab qal)))))))))) (fun _ h=>h.cells) cP fD fun mO fE=>?_
    refine qaH (i:=8) kz (qai fE (f:=22) (vs:=[.agg #[.int .i64 n1,.slice A6 s2.length c7,.bool b3,.slice A8 l4.length c9,.slice aV u5.length aW],.int .i64 ((q:Nat):Int)]) (d:=70) kz Tryz.call22 (sAt _ _ q _ _ (ht.move aO.step nilM aO.imm)) ?_)
    rintro e_ mP ⟨lb,rfl,fF,bt⟩
    have cQ:=fF.move bt nilM (fun b o h_ hb_=>aO.laid (G:=F) bt b o (.inl h_) (Nat.lt_of_lt_of_le hb_ bt.size))
    obtain ⟨j1,j2,j3,j4,j5,j6,j7,j8,j9,ka,kd,lc,ld,cR,ke,kf,mQ,mR⟩:=cQ.open_
    rw [cR] at cQ
    have kg:=ke.small
    have kh:=kf.small
    rw [cR]
    refine ⟨_,rfl,fun mS fG=>?_⟩
    have bu:=aO.next_nil bt
    have bW:=aO.frN bt
    have fH:=TT.ofW bW bu
    refine ⟨fun _=>fH,?_⟩
    refine qaH (i:=9) kz (qai fG (f:=53) (vs:=[.agg #[.int .i64 ab,.int .i64 ac,.int .i64 ae,.int .i64 af,.int .i64 aa,.int .i64 ag,.int .i64 ah,.slice bp ai.length bq],.agg #[.int .i64 j1,.slice j6 j2.length j7,.bool j3,.slice j8 j4.length j9,.slice ka j5.length kd]]) (d:=71) kz Tryz.call53 (qj3 _ _ _ _ _ _ _ (bV.move bu.step nilM bu.imm) (Nat.le_refl _) cQ) ?_)
    rintro e_ mT ⟨rfl,dN⟩
    refine ⟨_,rfl,fun mU fI=>?_⟩
    have bX:=bu.next_nil dN
    have cS:=bu.frN dN
    have dO:=TT.ofW (bW.trans cS) bX
    refine ⟨fun _=>dO,?_⟩
    refine qbg [10,11] [(0,.v (.slice A l.length c)),(1,.v (.int .i64 v)),(2,.v (.bool flex)),(7,.p 0 0),(9,.v (.slice A_ ((qaJ W l v (Tree.mk n1 s2 b3 l4 u5) 0).length) c_)),(10,.v (.slice A3_ ((qaA W l (Tree.mk n1 s2 b3 l4 u5) k2 ++ dm).length) c3_)),(11,.v (.int .i64 ((qaS W l (Tree.mk n1 s2 b3 l4 u5) k2 + cn:Nat):Int))),(14,.v (.int .i64 ((k2:Nat):Int))),(15,.v (.int .i64 ((q:Nat):Int))),(16,.p 1 0),(51,.v (.int .i64 (((qaq l).toNat:Nat):Int))),(52,.v (.int .i64 ((k2:Nat):Int))),(55,.v (.slice A l.length c)),(56,.v (.int .i64 ((l.length:Nat):Int))),(57,.v (.int .i64 ((q:Nat):Int))),(73,.v (.bool (!(Fld.usual (Fld.mk ab ac ae af aa ag ah ai) (Tree.at_ (Tree.mk n1 s2 b3 l4 u5) q)))))] 0 (qab (qaf (qab (qab (qaf (qaf (qab (qab (qaf (qab qal)))))))))) (fun _ h=>h.cells) dO fI fun mV cT=>?_
    refine qbb kz ?_ _
    refine qaa ?_
    refine qau cT (b:=!(Fld.usual (Fld.mk ab ac ae af aa ag ah ai) (Tree.at_ (Tree.mk n1 s2 b3 l4 u5) q))) kz (fun ay=>?_) (fun ay=>?_)
    ·
     refine qb5 7 kz bX fun mW fJ bv fK=>?_
     refine qbg [0,1,2,3,4] [(0,.v (.slice A l.length c)),(1,.v (.int .i64 v)),(2,.v (.bool flex)),(7,.p 0 0),(9,.v (.slice A_ ((qaJ W l v (Tree.mk n1 s2 b3 l4 u5) 0).length) c_)),(10,.v (.slice A3_ ((qaA W l (Tree.mk n1 s2 b3 l4 u5) k2 ++ dm).length) c3_)),(11,.v (.int .i64 ((qaS W l (Tree.mk n1 s2 b3 l4 u5) k2 + cn:Nat):Int))),(14,.v (.int .i64 ((k2:Nat):Int))),(51,.v (.int .i64 (((qaq l).toNat:Nat):Int))),(52,.v (.int .i64 ((k2:Nat):Int))),(55,.v (.slice A l.length c)),(56,.v (.int .i64 ((l.length:Nat):Int))),(57,.v (.int .i64 ((q:Nat):Int))),(74,.v (.agg #[.int .i64 ab,.int .i64 ac,.int .i64 ae,.int .i64 af,.int .i64 aa,.int .i64 ag,.int .i64 ah,.slice bp ai.length bq])),(75,.v (.int .i64 v)),(76,.v (.bool flex)),(77,.v (.agg #[.int .i64 n1,.slice A6 s2.length c7,.bool b3,.slice A8 l4.length c9,.slice aV u5.length aW])),(78,.v (.int .i64 ((q:Nat):Int)))] 3 (qab (qaf (qab (qab (qaf (qaf (qab (qab (qaf (qab qal)))))))))) (fun _ h=>h.cells) fK cT fun mX fL=>?_
     refine qaH (i:=5) kz (qai fL (f:=22) (vs:=[.agg #[.int .i64 n1,.slice A6 s2.length c7,.bool b3,.slice A8 l4.length c9,.slice aV u5.length aW],.int .i64 ((q:Nat):Int)]) (d:=79) kz Tryz.call22 (sAt _ _ q _ _ (ht.move bv.step nilM bv.imm)) ?_)
     rintro e_ mY ⟨lf,rfl,fM,bw⟩
     have cV:=fM.move bw nilM (fun b o h_ hb_=>bv.laid (G:=F) bw b o (.inl h_) (Nat.lt_of_lt_of_le hb_ bw.size))
     obtain ⟨ki,kj,km,kn,ko,kp,kq,ku,kv,kw,kx,lg,lh,cW,ky,kA,mZ,m1⟩:=cV.open_
     rw [cW] at cV
     have kB:=ky.small
     have kC:=kA.small
     rw [cW]
     refine ⟨_,rfl,fun m2 fN=>?_⟩
     have bY:=bv.next_nil bw
     have cX:=bv.frN bw
     have fO:=TT.ofW cX bY
     refine ⟨fun _=>fO,?_⟩
     refine qaH (i:=6) kz (qai fN (f:=52) (vs:=[.agg #[.int .i64 ab,.int .i64 ac,.int .i64 ae,.int .i64 af,.int .i64 aa,.int .i64 ag,.int .i64 ah,.slice bp ai.length bq],.int .i64 v,.bool flex,.agg #[.int .i64 ki,.slice kp kj.length kq,.bool km,.slice ku kn.length kv,.slice kw ko.length kx]]) (d:=80) kz Tryz.call52 ( hW_ _ _ _ _ _ _ (List.mem_of_getElem? ap) (bV.move bY.step nilM bY.imm) cV (by have h_:=congrArg List.length hB2; rw [qdT ap (by omega) (by simpa using ay)] at h_; simp only [List.length_append] at h_; omega)) ?_)
     rintro e_ m3 ⟨av,aw,rfl,fP,fQ⟩
     refine ⟨_,rfl,fun m4 fR=>?_⟩
     obtain ⟨bZ,dP⟩:=bY.frFresh fQ (brow av aw 5 (W (Fld.mk ab ac ae af aa ag ah ai) (Tree.at_ (Tree.mk n1 s2 b3 l4 u5) q))) (Nat.le_refl _) fP
     have kD:(W (Fld.mk ab ac ae af aa ag ah ai) (Tree.at_ (Tree.mk n1 s2 b3 l4 u5) q)).length ≤ 1099511627776:=by have h_:=congrArg List.length hB2; rw [qdT ap (by omega) (by simpa using ay)] at h_; simp only [List.length_append] at h_; omega
     have fS:=TT.ofW (cX.trans dP) bZ
     refine ⟨fun _=>fS,?_⟩
     refine qaH (i:=7) kz (qcD [0,1,2,7,9,10,11,14,17,51,52,55,56,57] bZ.cells fR (env':=[(0,.v (.slice A l.length c)),(1,.v (.int .i64 v)),(2,.v (.bool flex)),(7,.p 0 0),(9,.v (.slice A_ ((qaJ W l v (Tree.mk n1 s2 b3 l4 u5) 0).length) c_)),(10,.v (.slice A3_ ((qaA W l (Tree.mk n1 s2 b3 l4 u5) k2 ++ dm).length) c3_)),(11,.v (.int .i64 ((qaS W l (Tree.mk n1 s2 b3 l4 u5) k2 + cn:Nat):Int))),(14,.v (.int .i64 ((k2:Nat):Int))),(17,.v (.slice av ((W (Fld.mk ab ac ae af aa ag ah ai) (Tree.at_ (Tree.mk n1 s2 b3 l4 u5) q)).length) aw)),(51,.v (.int .i64 (((qaq l).toNat:Nat):Int))),(52,.v (.int .i64 ((k2:Nat):Int))),(55,.v (.slice A l.length c)),(56,.v (.int .i64 ((l.length:Nat):Int))),(57,.v (.int .i64 ((q:Nat):Int)))]) kz fun m5 fT=>?_)
     refine ⟨fun h=>absurd rfl h,?_⟩
     refine qbb kz ?_ _
     refine qaa ?_
     refine qad [0,1,2,3,4,5,6,7,8,9,10,11,12] kz ?_
     refine qak [0,1,2] [3,4,5,6,7,8,9,10,11,12] [(0,.v (.slice A l.length c)),(1,.v (.int .i64 v)),(2,.v (.bool flex)),(7,.p 0 0),(9,.v (.slice A_ ((qaJ W l v (Tree.mk n1 s2 b3 l4 u5) 0).length) c_)),(11,.v (.int .i64 ((qaS W l (Tree.mk n1 s2 b3 l4 u5) k2 + cn:Nat):Int))),(14,.v (.int .i64 ((k2:Nat):Int))),(17,.v (.slice av ((W (Fld.mk ab ac ae af aa ag ah ai) (Tree.at_ (Tree.mk n1 s2 b3 l4 u5) q)).length) aw)),(51,.v (.int .i64 (((qaq l).toNat:Nat):Int))),(52,.v (.int .i64 ((k2:Nat):Int))),(55,.v (.slice A l.length c)),(56,.v (.int .i64 ((l.length:Nat):Int))),(57,.v (.int .i64 ((q:Nat):Int))),(81,.v (.slice A3_ ((qaA W l (Tree.mk n1 s2 b3 l4 u5) k2 ++ dm).length) c3_)),(83,.v (.int .u64 (IntKind.u64.wrap ((k2:Nat):Int))))] bZ fT fun m6 fU=>?_
     have fV:IntKind.u64.wrap ((k2:Nat):Int) = ((k2:Nat):Int):=by simp only [qc0,qcc,qdi,IntKind.wrap_i64,IntKind.wrap_i32]; omega
     have fW:=EnvOk.pick fU (ks:=[0,1,2,7,9,11,14,17,51,52,55,56,57,81,83]) (env':=[(0,.v (.slice A l.length c)),(1,.v (.int .i64 v)),(2,.v (.bool flex)),(7,.p 0 0),(9,.v (.slice A_ ((qaJ W l v (Tree.mk n1 s2 b3 l4 u5) 0).length) c_)),(11,.v (.int .i64 ((qaS W l (Tree.mk n1 s2 b3 l4 u5) k2 + cn:Nat):Int))),(14,.v (.int .i64 ((k2:Nat):Int))),(17,.v (.slice av ((W (Fld.mk ab ac ae af aa ag ah ai) (Tree.at_ (Tree.mk n1 s2 b3 l4 u5) q)).length) aw)),(51,.v (.int .i64 (((qaq l).toNat:Nat):Int))),(52,.v (.int .i64 ((k2:Nat):Int))),(55,.v (.slice A l.length c)),(56,.v (.int .i64 ((l.length:Nat):Int))),(57,.v (.int .i64 ((q:Nat):Int))),(81,.v (.slice A3_ ((qaA W l (Tree.mk n1 s2 b3 l4 u5) k2 ++ dm).length) c3_)),(83,.v (.int .u64 (IntKind.u64.wrap ((k2:Nat):Int))))]) kz
     have fX:=fW.cast (env':=[(0,.v (.slice A l.length c)),(1,.v (.int .i64 v)),(2,.v (.bool flex)),(7,.p 0 0),(9,.v (.slice A_ ((qaJ W l v (Tree.mk n1 s2 b3 l4 u5) 0).length) c_)),(11,.v (.int .i64 ((qaS W l (Tree.mk n1 s2 b3 l4 u5) k2 + cn:Nat):Int))),(14,.v (.int .i64 ((k2:Nat):Int))),(17,.v (.slice av ((W (Fld.mk ab ac ae af aa ag ah ai) (Tree.at_ (Tree.mk n1 s2 b3 l4 u5) q)).length) aw)),(51,.v (.int .i64 (((qaq l).toNat:Nat):Int))),(52,.v (.int .i64 ((k2:Nat):Int))),(55,.v (.slice A l.length c)),(56,.v (.int .i64 ((l.length:Nat):Int))),(57,.v (.int .i64 ((q:Nat):Int))),(81,.v (.slice A3_ ((qaA W l (Tree.mk n1 s2 b3 l4 u5) k2 ++ dm).length) c3_)),(83,.v (.int .u64 ((k2:Nat):Int)))]) (by rw [fV])
     refine qah (qai fX (f:=54) (vs:=[.int .u64 ((k2:Nat):Int)]) (d:=84) kz Tryz.call54 (qdW k2 (by omega) _) ?_)
     rintro e_ m7 ⟨bI,bJ,rfl,fY,fZ⟩
     refine ⟨_,rfl,fun m8 f0=>?_⟩
     obtain ⟨cY,f5⟩:=bZ.frFresh fZ (brow bI bJ 5 (uv k2)) (Nat.le_refl _) fY
     refine qah (qaU cY f0 (k:=1) (d:=85) (t:=22) (e:=5) (size:=1) (bytes:=1) (A:=A3_) (As:=bI) (m0:=((qaA W l (Tree.mk n1 s2 b3 l4 u5) k2 ++ dm).length)) (c:=c3_) (m:=((uv k2).length)) (cs:=bJ) (xs:=(bc (qaA W l (Tree.mk n1 s2 b3 l4 u5) k2 ++ dm))) (news:=bc (uv k2)) kz kz rfl (qbL (cY.own 3 _ rfl) (qcZ _)) (qb0 (cY.own 3 _ rfl)) (by have h_:=congrArg List.length hB2; rw [qdT ap (by omega) (by simpa using ay)] at h_; simp only [List.length_append] at h_ ⊢; omega) fun aP aQ m9 na f7 f8 f9=>?_)
     have ga:(⟨aP,aQ,5,1,(qaA W l (Tree.mk n1 s2 b3 l4 u5) k2 ++ dm).length + (uv k2).length,bc (qaA W l (Tree.mk n1 s2 b3 l4 u5) k2 ++ dm) ++ bc (uv k2)⟩:Rw) = brow aP aQ 5 (qaA W l (Tree.mk n1 s2 b3 l4 u5) k2 ++ dm ++ (uv k2)):=qbr (rfl) rfl
     obtain ⟨dQ,gb⟩:=f8.rowEq 1 [brow A_ c_ 5 (qaJ W l v (Tree.mk n1 s2 b3 l4 u5) 0),brow aP aQ 5 (qaA W l (Tree.mk n1 s2 b3 l4 u5) k2 ++ dm ++ (uv k2)),brow av aw 5 (W (Fld.mk ab ac ae af aa ag ah ai) (Tree.at_ (Tree.mk n1 s2 b3 l4 u5) q)),brow bI bJ 5 (uv k2)] ga
     have gc:=EnvOk.pick f9 (ks:=[0,1,2,7,9,11,14,17,51,52,55,56,57,81,83,84,85]) (env':=[(0,.v (.slice A l.length c)),(1,.v (.int .i64 v)),(2,.v (.bool flex)),(7,.p 0 0),(9,.v (.slice A_ ((qaJ W l v (Tree.mk n1 s2 b3 l4 u5) 0).length) c_)),(11,.v (.int .i64 ((qaS W l (Tree.mk n1 s2 b3 l4 u5) k2 + cn:Nat):Int))),(14,.v (.int .i64 ((k2:Nat):Int))),(17,.v (.slice av ((W (Fld.mk ab ac ae af aa ag ah ai) (Tree.at_ (Tree.mk n1 s2 b3 l4 u5) q)).length) aw)),(51,.v (.int .i64 (((qaq l).toNat:Nat):Int))),(52,.v (.int .i64 ((k2:Nat):Int))),(55,.v (.slice A l.length c)),(56,.v (.int .i64 ((l.length:Nat):Int))),(57,.v (.int .i64 ((q:Nat):Int))),(81,.v (.slice A3_ ((qaA W l (Tree.mk n1 s2 b3 l4 u5) k2 ++ dm).length) c3_)),(83,.v (.int .u64 ((k2:Nat):Int))),(84,.v (.slice bI ((uv k2).length) bJ)),(85,.v (.slice aP ((qaA W l (Tree.mk n1 s2 b3 l4 u5) k2 ++ dm).length + (uv k2).length) aQ))]) kz
     have gd:=gc.cast (env':=[(0,.v (.slice A l.length c)),(1,.v (.int .i64 v)),(2,.v (.bool flex)),(7,.p 0 0),(9,.v (.slice A_ ((qaJ W l v (Tree.mk n1 s2 b3 l4 u5) 0).length) c_)),(11,.v (.int .i64 ((qaS W l (Tree.mk n1 s2 b3 l4 u5) k2 + cn:Nat):Int))),(14,.v (.int .i64 ((k2:Nat):Int))),(17,.v (.slice av ((W (Fld.mk ab ac ae af aa ag ah ai) (Tree.at_ (Tree.mk n1 s2 b3 l4 u5) q)).length) aw)),(51,.v (.int .i64 (((qaq l).toNat:Nat):Int))),(52,.v (.int .i64 ((k2:Nat):Int))),(55,.v (.slice A l.length c)),(56,.v (.int .i64 ((l.length:Nat):Int))),(57,.v (.int .i64 ((q:Nat):Int))),(81,.v (.slice A3_ ((qaA W l (Tree.mk n1 s2 b3 l4 u5) k2 ++ dm).length) c3_)),(83,.v (.int .u64 ((k2:Nat):Int))),(84,.v (.slice bI ((uv k2).length) bJ)),(85,.v (.slice aP ((qaA W l (Tree.mk n1 s2 b3 l4 u5) k2 ++ dm ++ (uv k2)).length) aQ))]) (by simp only [List.length_append,List.length_cons,List.length_nil,Nat.zero_add])
     refine qak [5,6,7] [8,9,10,11,12] [(0,.v (.slice A l.length c)),(1,.v (.int .i64 v)),(2,.v (.bool flex)),(7,.p 0 0),(9,.v (.slice A_ ((qaJ W l v (Tree.mk n1 s2 b3 l4 u5) 0).length) c_)),(11,.v (.int .i64 ((qaS W l (Tree.mk n1 s2 b3 l4 u5) k2 + cn:Nat):Int))),(14,.v (.int .i64 ((k2:Nat):Int))),(17,.v (.slice av ((W (Fld.mk ab ac ae af aa ag ah ai) (Tree.at_ (Tree.mk n1 s2 b3 l4 u5) q)).length) aw)),(51,.v (.int .i64 (((qaq l).toNat:Nat):Int))),(52,.v (.int .i64 ((k2:Nat):Int))),(55,.v (.slice A l.length c)),(56,.v (.int .i64 ((l.length:Nat):Int))),(57,.v (.int .i64 ((q:Nat):Int))),(85,.v (.slice aP ((qaA W l (Tree.mk n1 s2 b3 l4 u5) k2 ++ dm ++ (uv k2)).length) aQ)),(88,.v (.int .u64 (IntKind.u64.wrap (((W (Fld.mk ab ac ae af aa ag ah ai) (Tree.at_ (Tree.mk n1 s2 b3 l4 u5) q)).length:Nat):Int))))] dQ gd fun nb ge=>?_
     have gf:IntKind.u64.wrap (((W (Fld.mk ab ac ae af aa ag ah ai) (Tree.at_ (Tree.mk n1 s2 b3 l4 u5) q)).length:Nat):Int) = (((W (Fld.mk ab ac ae af aa ag ah ai) (Tree.at_ (Tree.mk n1 s2 b3 l4 u5) q)).length:Nat):Int):=by simp only [qc0,qcc,qdi,IntKind.wrap_i64,IntKind.wrap_i32]; omega
     have gg:=EnvOk.pick ge (ks:=[0,1,2,7,9,11,14,17,51,52,55,56,57,85,88]) (env':=[(0,.v (.slice A l.length c)),(1,.v (.int .i64 v)),(2,.v (.bool flex)),(7,.p 0 0),(9,.v (.slice A_ ((qaJ W l v (Tree.mk n1 s2 b3 l4 u5) 0).length) c_)),(11,.v (.int .i64 ((qaS W l (Tree.mk n1 s2 b3 l4 u5) k2 + cn:Nat):Int))),(14,.v (.int .i64 ((k2:Nat):Int))),(17,.v (.slice av ((W (Fld.mk ab ac ae af aa ag ah ai) (Tree.at_ (Tree.mk n1 s2 b3 l4 u5) q)).length) aw)),(51,.v (.int .i64 (((qaq l).toNat:Nat):Int))),(52,.v (.int .i64 ((k2:Nat):Int))),(55,.v (.slice A l.length c)),(56,.v (.int .i64 ((l.length:Nat):Int))),(57,.v (.int .i64 ((q:Nat):Int))),(85,.v (.slice aP ((qaA W l (Tree.mk n1 s2 b3 l4 u5) k2 ++ dm ++ (uv k2)).length) aQ)),(88,.v (.int .u64 (IntKind.u64.wrap (((W (Fld.mk ab ac ae af aa ag ah ai) (Tree.at_ (Tree.mk n1 s2 b3 l4 u5) q)).length:Nat):Int))))]) kz
     have gh:=gg.cast (env':=[(0,.v (.slice A l.length c)),(1,.v (.int .i64 v)),(2,.v (.bool flex)),(7,.p 0 0),(9,.v (.slice A_ ((qaJ W l v (Tree.mk n1 s2 b3 l4 u5) 0).length) c_)),(11,.v (.int .i64 ((qaS W l (Tree.mk n1 s2 b3 l4 u5) k2 + cn:Nat):Int))),(14,.v (.int .i64 ((k2:Nat):Int))),(17,.v (.slice av ((W (Fld.mk ab ac ae af aa ag ah ai) (Tree.at_ (Tree.mk n1 s2 b3 l4 u5) q)).length) aw)),(51,.v (.int .i64 (((qaq l).toNat:Nat):Int))),(52,.v (.int .i64 ((k2:Nat):Int))),(55,.v (.slice A l.length c)),(56,.v (.int .i64 ((l.length:Nat):Int))),(57,.v (.int .i64 ((q:Nat):Int))),(85,.v (.slice aP ((qaA W l (Tree.mk n1 s2 b3 l4 u5) k2 ++ dm ++ (uv k2)).length) aQ)),(88,.v (.int .u64 (((W (Fld.mk ab ac ae af aa ag ah ai) (Tree.at_ (Tree.mk n1 s2 b3 l4 u5) q)).length:Nat):Int)))]) (by rw [gf])
     refine qah (qai gh (f:=54) (vs:=[.int .u64 (((W (Fld.mk ab ac ae af aa ag ah ai) (Tree.at_ (Tree.mk n1 s2 b3 l4 u5) q)).length:Nat):Int)]) (d:=89) kz Tryz.call54 (qdW ((W (Fld.mk ab ac ae af aa ag ah ai) (Tree.at_ (Tree.mk n1 s2 b3 l4 u5) q)).length) (by omega) _) ?_)
     rintro e_ nc ⟨cg,cl,rfl,gi,gj⟩
     refine ⟨_,rfl,fun nf gk=>?_⟩
     obtain ⟨cZ,gl⟩:=dQ.frFresh gj (brow cg cl 5 (uv ((W (Fld.mk ab ac ae af aa ag ah ai) (Tree.at_ (Tree.mk n1 s2 b3 l4 u5) q)).length))) (Nat.le_refl _) gi
     refine qah (qaU cZ gk (k:=1) (d:=90) (t:=22) (e:=5) (size:=1) (bytes:=1) (A:=aP) (As:=cg) (m0:=((qaA W l (Tree.mk n1 s2 b3 l4 u5) k2 ++ dm ++ (uv k2)).length)) (c:=aQ) (m:=((uv ((W (Fld.mk ab ac ae af aa ag ah ai) (Tree.at_ (Tree.mk n1 s2 b3 l4 u5) q)).length)).length)) (cs:=cl) (xs:=(bc (qaA W l (Tree.mk n1 s2 b3 l4 u5) k2 ++ dm ++ (uv k2)))) (news:=bc (uv ((W (Fld.mk ab ac ae af aa ag ah ai) (Tree.at_ (Tree.mk n1 s2 b3 l4 u5) q)).length))) kz kz rfl (qbL (cZ.own 4 _ rfl) (qcZ _)) (qb0 (cZ.own 4 _ rfl)) (by have h_:=congrArg List.length hB2; rw [qdT ap (by omega) (by simpa using ay)] at h_; simp only [List.length_append] at h_ ⊢; omega) fun ba bd ng nh gm gn gp=>?_)
     have gq:(⟨ba,bd,5,1,(qaA W l (Tree.mk n1 s2 b3 l4 u5) k2 ++ dm ++ (uv k2)).length + (uv ((W (Fld.mk ab ac ae af aa ag ah ai) (Tree.at_ (Tree.mk n1 s2 b3 l4 u5) q)).length)).length,bc (qaA W l (Tree.mk n1 s2 b3 l4 u5) k2 ++ dm ++ (uv k2)) ++ bc (uv ((W (Fld.mk ab ac ae af aa ag ah ai) (Tree.at_ (Tree.mk n1 s2 b3 l4 u5) q)).length))⟩:Rw) = brow ba bd 5 (qaA W l (Tree.mk n1 s2 b3 l4 u5) k2 ++ dm ++ (uv k2) ++ (uv ((W (Fld.mk ab ac ae af aa ag ah ai) (Tree.at_ (Tree.mk n1 s2 b3 l4 u5) q)).length))):=qbr (rfl) rfl
     obtain ⟨b0,gt⟩:=gn.rowEq 1 [brow A_ c_ 5 (qaJ W l v (Tree.mk n1 s2 b3 l4 u5) 0),brow ba bd 5 (qaA W l (Tree.mk n1 s2 b3 l4 u5) k2 ++ dm ++ (uv k2) ++ (uv ((W (Fld.mk ab ac ae af aa ag ah ai) (Tree.at_ (Tree.mk n1 s2 b3 l4 u5) q)).length))),brow av aw 5 (W (Fld.mk ab ac ae af aa ag ah ai) (Tree.at_ (Tree.mk n1 s2 b3 l4 u5) q)),brow bI bJ 5 (uv k2),brow cg cl 5 (uv ((W (Fld.mk ab ac ae af aa ag ah ai) (Tree.at_ (Tree.mk n1 s2 b3 l4 u5) q)).length))] gq
     have gu:=EnvOk.pick gp (ks:=[0,1,2,7,9,11,14,17,51,52,55,56,57,85,88,89,90]) (env':=[(0,.v (.slice A l.length c)),(1,.v (.int .i64 v)),(2,.v (.bool flex)),(7,.p 0 0),(9,.v (.slice A_ ((qaJ W l v (Tree.mk n1 s2 b3 l4 u5) 0).length) c_)),(11,.v (.int .i64 ((qaS W l (Tree.mk n1 s2 b3 l4 u5) k2 + cn:Nat):Int))),(14,.v (.int .i64 ((k2:Nat):Int))),(17,.v (.slice av ((W (Fld.mk ab ac ae af aa ag ah ai) (Tree.at_ (Tree.mk n1 s2 b3 l4 u5) q)).length) aw)),(51,.v (.int .i64 (((qaq l).toNat:Nat):Int))),(52,.v (.int .i64 ((k2:Nat):Int))),(55,.v (.slice A l.length c)),(56,.v (.int .i64 ((l.length:Nat):Int))),(57,.v (.int .i64 ((q:Nat):Int))),(85,.v (.slice aP ((qaA W l (Tree.mk n1 s2 b3 l4 u5) k2 ++ dm ++ (uv k2)).length) aQ)),(88,.v (.int .u64 (((W (Fld.mk ab ac ae af aa ag ah ai) (Tree.at_ (Tree.mk n1 s2 b3 l4 u5) q)).length:Nat):Int))),(89,.v (.slice cg ((uv ((W (Fld.mk ab ac ae af aa ag ah ai) (Tree.at_ (Tree.mk n1 s2 b3 l4 u5) q)).length)).length) cl)),(90,.v (.slice ba ((qaA W l (Tree.mk n1 s2 b3 l4 u5) k2 ++ dm ++ (uv k2)).length + (uv ((W (Fld.mk ab ac ae af aa ag ah ai) (Tree.at_ (Tree.mk n1 s2 b3 l4 u5) q)).length)).length) bd))]) kz
     have gv:=gu.cast (env':=[(0,.v (.slice A l.length c)),(1,.v (.int .i64 v)),(2,.v (.bool flex)),(7,.p 0 0),(9,.v (.slice A_ ((qaJ W l v (Tree.mk n1 s2 b3 l4 u5) 0).length) c_)),(11,.v (.int .i64 ((qaS W l (Tree.mk n1 s2 b3 l4 u5) k2 + cn:Nat):Int))),(14,.v (.int .i64 ((k2:Nat):Int))),(17,.v (.slice av ((W (Fld.mk ab ac ae af aa ag ah ai) (Tree.at_ (Tree.mk n1 s2 b3 l4 u5) q)).length) aw)),(51,.v (.int .i64 (((qaq l).toNat:Nat):Int))),(52,.v (.int .i64 ((k2:Nat):Int))),(55,.v (.slice A l.length c)),(56,.v (.int .i64 ((l.length:Nat):Int))),(57,.v (.int .i64 ((q:Nat):Int))),(85,.v (.slice aP ((qaA W l (Tree.mk n1 s2 b3 l4 u5) k2 ++ dm ++ (uv k2)).length) aQ)),(88,.v (.int .u64 (((W (Fld.mk ab ac ae af aa ag ah ai) (Tree.at_ (Tree.mk n1 s2 b3 l4 u5) q)).length:Nat):Int))),(89,.v (.slice cg ((uv ((W (Fld.mk ab ac ae af aa ag ah ai) (Tree.at_ (Tree.mk n1 s2 b3 l4 u5) q)).length)).length) cl)),(90,.v (.slice ba ((qaA W l (Tree.mk n1 s2 b3 l4 u5) k2 ++ dm ++ (uv k2) ++ (uv ((W (Fld.mk ab ac ae af aa ag ah ai) (Tree.at_ (Tree.mk n1 s2 b3 l4 u5) q)).length))).length) bd))]) (by simp only [List.length_append,List.length_cons,List.length_nil,Nat.zero_add])
     refine qak [10] [11,12] [(0,.v (.slice A l.length c)),(1,.v (.int .i64 v)),(2,.v (.bool flex)),(7,.p 0 0),(9,.v (.slice A_ ((qaJ W l v (Tree.mk n1 s2 b3 l4 u5) 0).length) c_)),(11,.v (.int .i64 ((qaS W l (Tree.mk n1 s2 b3 l4 u5) k2 + cn:Nat):Int))),(14,.v (.int .i64 ((k2:Nat):Int))),(51,.v (.int .i64 (((qaq l).toNat:Nat):Int))),(52,.v (.int .i64 ((k2:Nat):Int))),(55,.v (.slice A l.length c)),(56,.v (.int .i64 ((l.length:Nat):Int))),(57,.v (.int .i64 ((q:Nat):Int))),(90,.v (.slice ba ((qaA W l (Tree.mk n1 s2 b3 l4 u5) k2 ++ dm ++ (uv k2) ++ (uv ((W (Fld.mk ab ac ae af aa ag ah ai) (Tree.at_ (Tree.mk n1 s2 b3 l4 u5) q)).length))).length) bd)),(91,.v (.slice av ((W (Fld.mk ab ac ae af aa ag ah ai) (Tree.at_ (Tree.mk n1 s2 b3 l4 u5) q)).length) aw))] b0 gv fun ni gw=>?_
     refine qah (qaU b0 gw (k:=1) (d:=92) (t:=22) (e:=5) (size:=1) (bytes:=1) (A:=ba) (As:=av) (m0:=((qaA W l (Tree.mk n1 s2 b3 l4 u5) k2 ++ dm ++ (uv k2) ++ (uv ((W (Fld.mk ab ac ae af aa ag ah ai) (Tree.at_ (Tree.mk n1 s2 b3 l4 u5) q)).length))).length)) (c:=bd) (m:=((W (Fld.mk ab ac ae af aa ag ah ai) (Tree.at_ (Tree.mk n1 s2 b3 l4 u5) q)).length)) (cs:=aw) (xs:=(bc (qaA W l (Tree.mk n1 s2 b3 l4 u5) k2 ++ dm ++ (uv k2) ++ (uv ((W (Fld.mk ab ac ae af aa ag ah ai) (Tree.at_ (Tree.mk n1 s2 b3 l4 u5) q)).length))))) (news:=bc (W (Fld.mk ab ac ae af aa ag ah ai) (Tree.at_ (Tree.mk n1 s2 b3 l4 u5) q))) kz kz rfl (qbL (b0.own 2 _ rfl) (qcZ _)) (qb0 (b0.own 2 _ rfl)) (by have h_:=congrArg List.length hB2; rw [qdT ap (by omega) (by simpa using ay)] at h_; simp only [List.length_append] at h_ ⊢; omega) fun aJ aK nj nk gx gy gz=>?_)
     have gA:(⟨aJ,aK,5,1,(qaA W l (Tree.mk n1 s2 b3 l4 u5) k2 ++ dm ++ (uv k2) ++ (uv ((W (Fld.mk ab ac ae af aa ag ah ai) (Tree.at_ (Tree.mk n1 s2 b3 l4 u5) q)).length))).length + (W (Fld.mk ab ac ae af aa ag ah ai) (Tree.at_ (Tree.mk n1 s2 b3 l4 u5) q)).length,bc (qaA W l (Tree.mk n1 s2 b3 l4 u5) k2 ++ dm ++ (uv k2) ++ (uv ((W (Fld.mk ab ac ae af aa ag ah ai) (Tree.at_ (Tree.mk n1 s2 b3 l4 u5) q)).length))) ++ bc (W (Fld.mk ab ac ae af aa ag ah ai) (Tree.at_ (Tree.mk n1 s2 b3 l4 u5) q))⟩:Rw) = brow aJ aK 5 (qaA W l (Tree.mk n1 s2 b3 l4 u5) k2 ++ dm ++ (uv k2) ++ (uv ((W (Fld.mk ab ac ae af aa ag ah ai) (Tree.at_ (Tree.mk n1 s2 b3 l4 u5) q)).length)) ++ (W (Fld.mk ab ac ae af aa ag ah ai) (Tree.at_ (Tree.mk n1 s2 b3 l4 u5) q))):=qbr (rfl) rfl
     obtain ⟨b5,gB⟩:=gy.rowEq 1 [brow A_ c_ 5 (qaJ W l v (Tree.mk n1 s2 b3 l4 u5) 0),brow aJ aK 5 (qaA W l (Tree.mk n1 s2 b3 l4 u5) k2 ++ dm ++ (uv k2) ++ (uv ((W (Fld.mk ab ac ae af aa ag ah ai) (Tree.at_ (Tree.mk n1 s2 b3 l4 u5) q)).length)) ++ (W (Fld.mk ab ac ae af aa ag ah ai) (Tree.at_ (Tree.mk n1 s2 b3 l4 u5) q))),brow av aw 5 (W (Fld.mk ab ac ae af aa ag ah ai) (Tree.at_ (Tree.mk n1 s2 b3 l4 u5) q)),brow bI bJ 5 (uv k2),brow cg cl 5 (uv ((W (Fld.mk ab ac ae af aa ag ah ai) (Tree.at_ (Tree.mk n1 s2 b3 l4 u5) q)).length))] gA
     have gC:=EnvOk.pick gz (ks:=[0,1,2,7,9,11,14,51,52,55,56,57,90,91,92]) (env':=[(0,.v (.slice A l.length c)),(1,.v (.int .i64 v)),(2,.v (.bool flex)),(7,.p 0 0),(9,.v (.slice A_ ((qaJ W l v (Tree.mk n1 s2 b3 l4 u5) 0).length) c_)),(11,.v (.int .i64 ((qaS W l (Tree.mk n1 s2 b3 l4 u5) k2 + cn:Nat):Int))),(14,.v (.int .i64 ((k2:Nat):Int))),(51,.v (.int .i64 (((qaq l).toNat:Nat):Int))),(52,.v (.int .i64 ((k2:Nat):Int))),(55,.v (.slice A l.length c)),(56,.v (.int .i64 ((l.length:Nat):Int))),(57,.v (.int .i64 ((q:Nat):Int))),(90,.v (.slice ba ((qaA W l (Tree.mk n1 s2 b3 l4 u5) k2 ++ dm ++ (uv k2) ++ (uv ((W (Fld.mk ab ac ae af aa ag ah ai) (Tree.at_ (Tree.mk n1 s2 b3 l4 u5) q)).length))).length) bd)),(91,.v (.slice av ((W (Fld.mk ab ac ae af aa ag ah ai) (Tree.at_ (Tree.mk n1 s2 b3 l4 u5) q)).length) aw)),(92,.v (.slice aJ ((qaA W l (Tree.mk n1 s2 b3 l4 u5) k2 ++ dm ++ (uv k2) ++ (uv ((W (Fld.mk ab ac ae af aa ag ah ai) (Tree.at_ (Tree.mk n1 s2 b3 l4 u5) q)).length))).length + (W (Fld.mk ab ac ae af aa ag ah ai) (Tree.at_ (Tree.mk n1 s2 b3 l4 u5) q)).length) aK))]) kz
     have gD:=gC.cast (env':=[(0,.v (.slice A l.length c)),(1,.v (.int .i64 v)),(2,.v (.bool flex)),(7,.p 0 0),(9,.v (.slice A_ ((qaJ W l v (Tree.mk n1 s2 b3 l4 u5) 0).length) c_)),(11,.v (.int .i64 ((qaS W l (Tree.mk n1 s2 b3 l4 u5) k2 + cn:Nat):Int))),(14,.v (.int .i64 ((k2:Nat):Int))),(51,.v (.int .i64 (((qaq l).toNat:Nat):Int))),(52,.v (.int .i64 ((k2:Nat):Int))),(55,.v (.slice A l.length c)),(56,.v (.int .i64 ((l.length:Nat):Int))),(57,.v (.int .i64 ((q:Nat):Int))),(90,.v (.slice ba ((qaA W l (Tree.mk n1 s2 b3 l4 u5) k2 ++ dm ++ (uv k2) ++ (uv ((W (Fld.mk ab ac ae af aa ag ah ai) (Tree.at_ (Tree.mk n1 s2 b3 l4 u5) q)).length))).length) bd)),(91,.v (.slice av ((W (Fld.mk ab ac ae af aa ag ah ai) (Tree.at_ (Tree.mk n1 s2 b3 l4 u5) q)).length) aw)),(92,.v (.slice aJ ((qaA W l (Tree.mk n1 s2 b3 l4 u5) k2 ++ dm ++ (uv k2) ++ (uv ((W (Fld.mk ab ac ae af aa ag ah ai) (Tree.at_ (Tree.mk n1 s2 b3 l4 u5) q)).length)) ++ (W (Fld.mk ab ac ae af aa ag ah ai) (Tree.at_ (Tree.mk n1 s2 b3 l4 u5) q))).length) aK))]) (by simp only [List.length_append,List.length_cons,List.length_nil,Nat.zero_add])
     refine qak [12] [] [(0,.v (.slice A l.length c)),(1,.v (.int .i64 v)),(2,.v (.bool flex)),(7,.p 0 0),(9,.v (.slice A_ ((qaJ W l v (Tree.mk n1 s2 b3 l4 u5) 0).length) c_)),(10,.v (.slice aJ ((qaA W l (Tree.mk n1 s2 b3 l4 u5) k2 ++ dm ++ (uv k2) ++ (uv ((W (Fld.mk ab ac ae af aa ag ah ai) (Tree.at_ (Tree.mk n1 s2 b3 l4 u5) q)).length)) ++ (W (Fld.mk ab ac ae af aa ag ah ai) (Tree.at_ (Tree.mk n1 s2 b3 l4 u5) q))).length) aK)),(11,.v (.int .i64 ((qaS W l (Tree.mk n1 s2 b3 l4 u5) k2 + cn:Nat):Int))),(14,.v (.int .i64 ((k2:Nat):Int))),(51,.v (.int .i64 (((qaq l).toNat:Nat):Int))),(52,.v (.int .i64 ((k2:Nat):Int))),(55,.v (.slice A l.length c)),(56,.v (.int .i64 ((l.length:Nat):Int))),(57,.v (.int .i64 ((q:Nat):Int)))] b5 gD fun nl gE=>?_
     refine qae (qaa ?_)
     refine qap [0,1,2] kz ?_
     refine qak [0,1,2] [] [(0,.v (.slice A l.length c)),(1,.v (.int .i64 v)),(2,.v (.bool flex)),(7,.p 0 0),(9,.v (.slice A_ ((qaJ W l v (Tree.mk n1 s2 b3 l4 u5) 0).length) c_)),(10,.v (.slice aJ ((qaA W l (Tree.mk n1 s2 b3 l4 u5) k2 ++ dm ++ (uv k2) ++ (uv ((W (Fld.mk ab ac ae af aa ag ah ai) (Tree.at_ (Tree.mk n1 s2 b3 l4 u5) q)).length)) ++ (W (Fld.mk ab ac ae af aa ag ah ai) (Tree.at_ (Tree.mk n1 s2 b3 l4 u5) q))).length) aK)),(11,.v (.int .i64 (IntKind.i64.wrap (((qaS W l (Tree.mk n1 s2 b3 l4 u5) k2 + cn:Nat):Int) + 1)))),(14,.v (.int .i64 ((k2:Nat):Int))),(51,.v (.int .i64 (((qaq l).toNat:Nat):Int))),(52,.v (.int .i64 ((k2:Nat):Int))),(55,.v (.slice A l.length c)),(56,.v (.int .i64 ((l.length:Nat):Int))),(57,.v (.int .i64 ((q:Nat):Int)))] b5 gE fun nm gF=>?_
     refine qae ?_
     refine qas ?_
     refine qaa ?_
     refine qap [0,1] kz ?_
     refine qak [0,1] [] [(0,.v (.slice A l.length c)),(1,.v (.int .i64 v)),(2,.v (.bool flex)),(7,.p 0 0),(9,.v (.slice A_ ((qaJ W l v (Tree.mk n1 s2 b3 l4 u5) 0).length) c_)),(10,.v (.slice aJ ((qaA W l (Tree.mk n1 s2 b3 l4 u5) k2 ++ dm ++ (uv k2) ++ (uv ((W (Fld.mk ab ac ae af aa ag ah ai) (Tree.at_ (Tree.mk n1 s2 b3 l4 u5) q)).length)) ++ (W (Fld.mk ab ac ae af aa ag ah ai) (Tree.at_ (Tree.mk n1 s2 b3 l4 u5) q))).length) aK)),(11,.v (.int .i64 (IntKind.i64.wrap (((qaS W l (Tree.mk n1 s2 b3 l4 u5) k2 + cn:Nat):Int) + 1)))),(14,.v (.int .i64 ((k2:Nat):Int))),(51,.v (.int .i64 (((qaq l).toNat:Nat):Int))),(52,.v (.int .i64 ((k2:Nat):Int))),(55,.v (.slice A l.length c)),(56,.v (.int .i64 ((l.length:Nat):Int))),(57,.v (.int .i64 (IntKind.i64.wrap (((q:Nat):Int) + 1))))] b5 gF fun np gG=>?_
     refine qae (qaa ?_)
     obtain ⟨b6,gH,gI⟩:=b5.cutB gG 1 [⟨cv,0,[.int .i64 n1,.slice A6 s2.length c7,.bool b3,.slice A8 l4.length c9,.slice aV u5.length aW],true⟩] [(0,.v (.slice A l.length c)),(1,.v (.int .i64 v)),(2,.v (.bool flex)),(7,.p 0 0),(9,.v (.slice A_ ((qaJ W l v (Tree.mk n1 s2 b3 l4 u5) 0).length) c_)),(10,.v (.slice aJ ((qaA W l (Tree.mk n1 s2 b3 l4 u5) k2 ++ dm ++ (uv k2) ++ (uv ((W (Fld.mk ab ac ae af aa ag ah ai) (Tree.at_ (Tree.mk n1 s2 b3 l4 u5) q)).length)) ++ (W (Fld.mk ab ac ae af aa ag ah ai) (Tree.at_ (Tree.mk n1 s2 b3 l4 u5) q))).length) aK)),(11,.v (.int .i64 (IntKind.i64.wrap (((qaS W l (Tree.mk n1 s2 b3 l4 u5) k2 + cn:Nat):Int) + 1)))),(14,.v (.int .i64 ((k2:Nat):Int))),(51,.v (.int .i64 (((qaq l).toNat:Nat):Int))),(52,.v (.int .i64 ((k2:Nat):Int))),(55,.v (.slice A l.length c)),(56,.v (.int .i64 ((l.length:Nat):Int))),(57,.v (.int .i64 (IntKind.i64.wrap (((q:Nat):Int) + 1))))]
     obtain ⟨gJ,gK⟩:=gH.cutR 2 [brow A_ c_ 5 (qaJ W l v (Tree.mk n1 s2 b3 l4 u5) 0),brow aJ aK 5 (qaA W l (Tree.mk n1 s2 b3 l4 u5) k2 ++ dm ++ (uv k2) ++ (uv ((W (Fld.mk ab ac ae af aa ag ah ai) (Tree.at_ (Tree.mk n1 s2 b3 l4 u5) q)).length)) ++ (W (Fld.mk ab ac ae af aa ag ah ai) (Tree.at_ (Tree.mk n1 s2 b3 l4 u5) q)))]
     have dR:(qaA W l (Tree.mk n1 s2 b3 l4 u5) k2 ++ dm ++ (uv k2) ++ (uv ((W (Fld.mk ab ac ae af aa ag ah ai) (Tree.at_ (Tree.mk n1 s2 b3 l4 u5) q)).length)) ++ (W (Fld.mk ab ac ae af aa ag ah ai) (Tree.at_ (Tree.mk n1 s2 b3 l4 u5) q))) = (qaA W l (Tree.mk n1 s2 b3 l4 u5) k2 ++ (dm ++ (uv k2 ++ uv (W (Fld.mk ab ac ae af aa ag ah ai) (Tree.at_ (Tree.mk n1 s2 b3 l4 u5) q)).length ++ W (Fld.mk ab ac ae af aa ag ah ai) (Tree.at_ (Tree.mk n1 s2 b3 l4 u5) q)))):=by simp only [List.append_assoc]
     have gL:=congrArg (brow aJ aK 5) dR
     obtain ⟨gM,gN⟩:=gJ.rowEq 1 [brow A_ c_ 5 (qaJ W l v (Tree.mk n1 s2 b3 l4 u5) 0),brow aJ aK 5 (qaA W l (Tree.mk n1 s2 b3 l4 u5) k2 ++ (dm ++ (uv k2 ++ uv (W (Fld.mk ab ac ae af aa ag ah ai) (Tree.at_ (Tree.mk n1 s2 b3 l4 u5) q)).length ++ W (Fld.mk ab ac ae af aa ag ah ai) (Tree.at_ (Tree.mk n1 s2 b3 l4 u5) q))))] gL
     rw [dR] at b6
     have gO:IntKind.i64.wrap (((q:Nat):Int) + 1) = ((q + 1:Nat):Int):=qaN (by omega)
     rw [gO] at b6
     have gP:IntKind.i64.wrap (((qaS W l (Tree.mk n1 s2 b3 l4 u5) k2 + cn:Nat):Int) + 1) = ((qaS W l (Tree.mk n1 s2 b3 l4 u5) k2 + (cn + 1):Nat):Int):=by rw [wrap_i64 (by omega) (by omega)]; omega
     rw [gP] at b6
     exact ⟨l.length - (q + 1),by omega,q + 1,aJ,aK,(dm ++ (uv k2 ++ uv (W (Fld.mk ab ac ae af aa ag ah ai) (Tree.at_ (Tree.mk n1 s2 b3 l4 u5) q)).length ++ W (Fld.mk ab ac ae af aa ag ah ai) (Tree.at_ (Tree.mk n1 s2 b3 l4 u5) q))),(cn + 1),rfl,by omega,by rw [List.append_assoc,← qdT ap (by omega) (by simpa using ay)]; exact hB2,by rw [Nat.add_assoc,← qjD ap (by omega) (by simpa using ay)]; exact hN2,b6.pk,gM,(((((((((((((((((((bU.trans cM).trans cN).trans cO).trans bW).trans cS).trans fJ).trans cX).trans dP).trans f5).trans f7).trans gb).trans gl).trans gm).trans gt).trans gx).trans gB).trans gI).trans gK).trans gN)⟩
    refine wp_skip ?_
    refine qas ?_
    refine qaa ?_
    refine qap [0,1] kz ?_
    refine qak [0,1] [] [(0,.v (.slice A l.length c)),(1,.v (.int .i64 v)),(2,.v (.bool flex)),(7,.p 0 0),(9,.v (.slice A_ ((qaJ W l v (Tree.mk n1 s2 b3 l4 u5) 0).length) c_)),(10,.v (.slice A3_ ((qaA W l (Tree.mk n1 s2 b3 l4 u5) k2 ++ dm).length) c3_)),(11,.v (.int .i64 ((qaS W l (Tree.mk n1 s2 b3 l4 u5) k2 + cn:Nat):Int))),(14,.v (.int .i64 ((k2:Nat):Int))),(51,.v (.int .i64 (((qaq l).toNat:Nat):Int))),(52,.v (.int .i64 ((k2:Nat):Int))),(55,.v (.slice A l.length c)),(56,.v (.int .i64 ((l.length:Nat):Int))),(57,.v (.int .i64 (IntKind.i64.wrap (((q:Nat):Int) + 1))))] bX cT fun nr gQ=>?_
    refine qae (qaa ?_)
    obtain ⟨dS,gR,gS⟩:=bX.cutB gQ 1 [⟨cv,0,[.int .i64 n1,.slice A6 s2.length c7,.bool b3,.slice A8 l4.length c9,.slice aV u5.length aW],true⟩] [(0,.v (.slice A l.length c)),(1,.v (.int .i64 v)),(2,.v (.bool flex)),(7,.p 0 0),(9,.v (.slice A_ ((qaJ W l v (Tree.mk n1 s2 b3 l4 u5) 0).length) c_)),(10,.v (.slice A3_ ((qaA W l (Tree.mk n1 s2 b3 l4 u5) k2 ++ dm).length) c3_)),(11,.v (.int .i64 ((qaS W l (Tree.mk n1 s2 b3 l4 u5) k2 + cn:Nat):Int))),(14,.v (.int .i64 ((k2:Nat):Int))),(51,.v (.int .i64 (((qaq l).toNat:Nat):Int))),(52,.v (.int .i64 ((k2:Nat):Int))),(55,.v (.slice A l.length c)),(56,.v (.int .i64 ((l.length:Nat):Int))),(57,.v (.int .i64 (IntKind.i64.wrap (((q:Nat):Int) + 1))))]
    have gT:IntKind.i64.wrap (((q:Nat):Int) + 1) = ((q + 1:Nat):Int):=qaN (by omega)
    rw [gT] at dS
    exact ⟨l.length - (q + 1),by omega,q + 1,A3_,c3_,dm,cn,rfl,by omega,by rw [← qiF ap (by simpa using ay)]; exact hB2,by rw [← qiH ap (by simpa using ay)]; exact hN2,dS.pk,gR,((((((bU.trans cM).trans cN).trans cO).trans bW).trans cS).trans gS)⟩
   have li:aa ≠ ((k2:Nat):Int):=by simpa using br
   have gU:=dM.cast (env':=[(0,.v (.slice A l.length c)),(1,.v (.int .i64 v)),(2,.v (.bool flex)),(7,.p 0 0),(9,.v (.slice A_ ((qaJ W l v (Tree.mk n1 s2 b3 l4 u5) 0).length) c_)),(10,.v (.slice A3_ ((qaA W l (Tree.mk n1 s2 b3 l4 u5) k2 ++ dm).length) c3_)),(11,.v (.int .i64 ((qaS W l (Tree.mk n1 s2 b3 l4 u5) k2 + cn:Nat):Int))),(14,.v (.int .i64 ((k2:Nat):Int))),(15,.v (.int .i64 ((q:Nat):Int))),(16,.p 1 0),(51,.v (.int .i64 (((qaq l).toNat:Nat):Int))),(52,.v (.int .i64 ((k2:Nat):Int))),(55,.v (.slice A l.length c)),(56,.v (.int .i64 ((l.length:Nat):Int))),(57,.v (.int .i64 ((q:Nat):Int))),(66,.v (.bool false))]) (by rw [br])
   refine qbg [5,6,7,8,9,10,11] [(0,.v (.slice A l.length c)),(1,.v (.int .i64 v)),(2,.v (.bool flex)),(7,.p 0 0),(9,.v (.slice A_ ((qaJ W l v (Tree.mk n1 s2 b3 l4 u5) 0).length) c_)),(10,.v (.slice A3_ ((qaA W l (Tree.mk n1 s2 b3 l4 u5) k2 ++ dm).length) c3_)),(11,.v (.int .i64 ((qaS W l (Tree.mk n1 s2 b3 l4 u5) k2 + cn:Nat):Int))),(14,.v (.int .i64 ((k2:Nat):Int))),(15,.v (.int .i64 ((q:Nat):Int))),(16,.p 1 0),(51,.v (.int .i64 (((qaq l).toNat:Nat):Int))),(52,.v (.int .i64 ((k2:Nat):Int))),(55,.v (.slice A l.length c)),(56,.v (.int .i64 ((l.length:Nat):Int))),(57,.v (.int .i64 ((q:Nat):Int))),(73,.v (.bool false))] 0 (qab (qaf (qab (qab (qaf (qaf (qab (qab (qaf (qab qal)))))))))) (fun _ h=>h.cells) cP gU fun ns dT=>?_
   refine qbb kz ?_ _
   refine qaa ?_
   refine qbx dT (b:=false) kz rfl ?_
   refine wp_skip ?_
   refine qas ?_
   refine qaa ?_
   refine qap [0,1] kz ?_
   refine qak [0,1] [] [(0,.v (.slice A l.length c)),(1,.v (.int .i64 v)),(2,.v (.bool flex)),(7,.p 0 0),(9,.v (.slice A_ ((qaJ W l v (Tree.mk n1 s2 b3 l4 u5) 0).length) c_)),(10,.v (.slice A3_ ((qaA W l (Tree.mk n1 s2 b3 l4 u5) k2 ++ dm).length) c3_)),(11,.v (.int .i64 ((qaS W l (Tree.mk n1 s2 b3 l4 u5) k2 + cn:Nat):Int))),(14,.v (.int .i64 ((k2:Nat):Int))),(51,.v (.int .i64 (((qaq l).toNat:Nat):Int))),(52,.v (.int .i64 ((k2:Nat):Int))),(55,.v (.slice A l.length c)),(56,.v (.int .i64 ((l.length:Nat):Int))),(57,.v (.int .i64 (IntKind.i64.wrap (((q:Nat):Int) + 1))))] aO dT fun nt gV=>?_
   refine qae (qaa ?_)
   obtain ⟨dU,gW,gX⟩:=aO.cutB gV 1 [⟨cv,0,[.int .i64 n1,.slice A6 s2.length c7,.bool b3,.slice A8 l4.length c9,.slice aV u5.length aW],true⟩] [(0,.v (.slice A l.length c)),(1,.v (.int .i64 v)),(2,.v (.bool flex)),(7,.p 0 0),(9,.v (.slice A_ ((qaJ W l v (Tree.mk n1 s2 b3 l4 u5) 0).length) c_)),(10,.v (.slice A3_ ((qaA W l (Tree.mk n1 s2 b3 l4 u5) k2 ++ dm).length) c3_)),(11,.v (.int .i64 ((qaS W l (Tree.mk n1 s2 b3 l4 u5) k2 + cn:Nat):Int))),(14,.v (.int .i64 ((k2:Nat):Int))),(51,.v (.int .i64 (((qaq l).toNat:Nat):Int))),(52,.v (.int .i64 ((k2:Nat):Int))),(55,.v (.slice A l.length c)),(56,.v (.int .i64 ((l.length:Nat):Int))),(57,.v (.int .i64 (IntKind.i64.wrap (((q:Nat):Int) + 1))))]
   have gY:IntKind.i64.wrap (((q:Nat):Int) + 1) = ((q + 1:Nat):Int):=qaN (by omega)
   rw [gY] at dU
   exact ⟨l.length - (q + 1),by omega,q + 1,A3_,c3_,dm,cn,rfl,by omega,by rw [← qiE ap (by omega)]; exact hB2,by rw [← qiG ap (by omega)]; exact hN2,dU.pk,gW,((((bU.trans cM).trans cN).trans cO).trans gX)⟩
  have lj:=of_decide_eq_false cJ
  refine wp_exit ?_
  refine qar ?_
  refine qar ?_
  refine qaE ?_
  refine qas ?_
  refine qaa ?_
  refine qap [0,1] kz ?_
  refine qak [0,1] [] [(0,.v (.slice A l.length c)),(1,.v (.int .i64 v)),(2,.v (.bool flex)),(7,.p 0 0),(9,.v (.slice A_ ((qaJ W l v (Tree.mk n1 s2 b3 l4 u5) 0).length) c_)),(10,.v (.slice A3_ ((qaA W l (Tree.mk n1 s2 b3 l4 u5) k2 ++ dm).length) c3_)),(11,.v (.int .i64 ((qaS W l (Tree.mk n1 s2 b3 l4 u5) k2 + cn:Nat):Int))),(51,.v (.int .i64 (((qaq l).toNat:Nat):Int))),(52,.v (.int .i64 (IntKind.i64.wrap (((k2:Nat):Int) + 1))))] aZ cI fun nu b8=>?_
  refine qae (qaa ?_)
  have dV:(qaA W l (Tree.mk n1 s2 b3 l4 u5) k2 ++ dm) = (qaA W l (Tree.mk n1 s2 b3 l4 u5) (k2 + 1)):=by rw [qaA,← hB2,qjC (by omega),List.append_nil]
  have gZ:=congrArg (brow A3_ c3_ 5) dV
  obtain ⟨hC,hJ⟩:=aZ.rowEq 1 [brow A_ c_ 5 (qaJ W l v (Tree.mk n1 s2 b3 l4 u5) 0),brow A3_ c3_ 5 (qaA W l (Tree.mk n1 s2 b3 l4 u5) (k2 + 1))] gZ
  rw [dV] at b8
  have hK:IntKind.i64.wrap (((k2:Nat):Int) + 1) = ((k2 + 1:Nat):Int):=qaN (by omega)
  rw [hK] at b8
  have hP:((qaS W l (Tree.mk n1 s2 b3 l4 u5) k2 + cn:Nat):Int) = ((qaS W l (Tree.mk n1 s2 b3 l4 u5) (k2 + 1):Nat):Int):=by rw [qaS,← hN2,qjE (by omega),Nat.add_zero]
  rw [hP] at b8
  exact ⟨(qaq l).toNat - (k2 + 1),by omega,k2 + 1,A3_,c3_,rfl,by omega,b8.pk,hC,(((fp.trans ft).trans bU).trans hJ)⟩
 have lm:=of_decide_eq_false cH
 refine wp_exit ?_
 refine qar ?_
 refine qar ?_
 refine qaE ?_
 refine qaa ?_
 refine wp_seq ?_
 refine qad [0,1,2,3,4,5] kz ?_
 refine qak [0,1,2] [3,4,5] [(9,.v (.slice A_ ((qaJ W l v (Tree.mk n1 s2 b3 l4 u5) 0).length) c_)),(10,.v (.slice A2_ ((qaA W l (Tree.mk n1 s2 b3 l4 u5) k2).length) c2_)),(11,.v (.int .i64 ((qaS W l (Tree.mk n1 s2 b3 l4 u5) k2:Nat):Int))),(97,.v (.slice A l.length c)),(99,.v (.slice aV u5.length aW))] ao cG fun nv hX=>?_
 refine qah (qai hX (f:=23) (vs:=[.slice A l.length c,.slice aV u5.length aW]) (d:=100) kz Tryz.call23 (qf8 _ _ l _ _ u5 _ _ ⟨xfs,(h1.move ao.step nilM ao.imm),(fun i_ x_ h_=>((h2 i_ x_ h_).move ao.step nilM ao.imm))⟩ (lG.move ao.step nilM ao.imm)) ?_)
 rintro e_ nw ⟨al,am,rfl,hY,c5⟩
 have hZ:=hY.move (Step.refl _ Nil) nilM (ao.laid (G:=F) c5)
 refine ⟨_,rfl,fun nx ia=>?_⟩
 have dW:=ao.next_nil c5
 have ln:=ao.frN c5
 refine qak [4,5] [] [(9,.v (.slice A_ ((qaJ W l v (Tree.mk n1 s2 b3 l4 u5) 0).length) c_)),(10,.v (.slice A2_ ((qaA W l (Tree.mk n1 s2 b3 l4 u5) k2).length) c2_)),(11,.v (.int .i64 ((qaS W l (Tree.mk n1 s2 b3 l4 u5) k2:Nat):Int))),(100,.v (.slice al ((qag l u5).length) am)),(101,.v (.int .i64 (((qag l u5).length:Nat):Int))),(102,.v (.int .i64 0))] dW ia fun ny dX=>?_
 refine qae (qaa ?_)
 refine wp_block ?_
 obtain ⟨lp,ib,kE⟩:=hZ.ex
 have kF:=ib.small
 have hkk2:k2 = (qaq l).toNat:=by omega
 have hc2:=hcnt k2
 have hm2:=hmono k2 (by omega)
 have dY:(qaA W l (Tree.mk n1 s2 b3 l4 u5) k2) = (qaA W l (Tree.mk n1 s2 b3 l4 u5) k2 ++ qa7 ((qag l u5).take 0)):=(List.append_nil _).symm
 have ic:=congrArg (brow A2_ c2_ 5) dY
 obtain ⟨dZ,aN⟩:=dW.rowEq 1 [brow A_ c_ 5 (qaJ W l v (Tree.mk n1 s2 b3 l4 u5) 0),brow A2_ c2_ 5 (qaA W l (Tree.mk n1 s2 b3 l4 u5) k2 ++ qa7 ((qag l u5).take 0))] ic
 rw [dY] at dX
 refine wp_loop_ghost (fun n_ a_ w_=>∃ (k:Nat) (A4_:Option Addr) (c4_:Nat),n_ = (qag l u5).length - k ∧ k ≤ (qag l u5).length ∧ LInv dZ 132 [⟨cv,0,[.int .i64 n1,.slice A6 s2.length c7,.bool b3,.slice A8 l4.length c9,.slice aV u5.length aW],true⟩] [brow A_ c_ 5 (qaJ W l v (Tree.mk n1 s2 b3 l4 u5) 0),brow A4_ c4_ 5 (qaA W l (Tree.mk n1 s2 b3 l4 u5) k2 ++ qa7 ((qag l u5).take k))] [(9,.v (.slice A_ ((qaJ W l v (Tree.mk n1 s2 b3 l4 u5) 0).length) c_)),(10,.v (.slice A4_ ((qaA W l (Tree.mk n1 s2 b3 l4 u5) k2 ++ qa7 ((qag l u5).take k)).length) c4_)),(11,.v (.int .i64 ((qaS W l (Tree.mk n1 s2 b3 l4 u5) k2 + k:Nat):Int))),(100,.v (.slice al ((qag l u5).length) am)),(101,.v (.int .i64 (((qag l u5).length:Nat):Int))),(102,.v (.int .i64 ((k:Nat):Int)))] a_ w_) ((qag l u5).length) ⟨0,A2_,c2_,by omega,by omega,dX.pk,dZ,Fr.refl _ _ _⟩ ?_
 rintro nz nA nB ⟨k,A4_,c4_,lq,lr,ig,ca,aI⟩
 refine qaz [(9,.v (.slice A_ ((qaJ W l v (Tree.mk n1 s2 b3 l4 u5) 0).length) c_)),(10,.v (.slice A4_ ((qaA W l (Tree.mk n1 s2 b3 l4 u5) k2 ++ qa7 ((qag l u5).take k)).length) c4_)),(11,.v (.int .i64 ((qaS W l (Tree.mk n1 s2 b3 l4 u5) k2 + k:Nat):Int))),(100,.v (.slice al ((qag l u5).length) am)),(101,.v (.int .i64 (((qag l u5).length:Nat):Int))),(102,.v (.int .i64 ((k:Nat):Int))),(103,.v (.bool (decide (((k:Nat):Int) < (((qag l u5).length:Nat):Int)))))] ca ig fun nC c8=>?_
 refine wp_seq ?_
 refine qau c8 (b:=decide (((k:Nat):Int) < (((qag l u5).length:Nat):Int))) kz (fun da=>?_) (fun da=>?_)
 ·
  have ls:=of_decide_eq_true da
  refine wp_skip ?_
  refine qaa ?_
  refine wp_seq ?_
  refine wp_block ?_
  refine qad [0,1,2,3] kz ?_
  obtain ⟨kG,kH,ii,lu,db⟩:=Slots.get ib (i:=k) (by omega)
  obtain ⟨⟨ak,aj⟩,bz⟩:∃ x,(qag l u5)[k]? = some x:=⟨_,List.getElem?_eq_getElem (by omega)⟩
  obtain ⟨⟨ar,au,ew,dc⟩,nD,nE⟩:=kE k ak aj bz
  rw [ew] at db
  refine qah (qaM c8 (t:=24) (A:=al) (m:=((qag l u5).length)) (q:=((k:Nat):Int)) (d:=104) kz (e:=64) (size:=2) (bytes:=32) kz ii rfl (by omega) fun nF ij=>?_)
  refine qah (qa0 ij (t:=64) (b:=kG) (o:=kH + k * 2) (d:=105) kz (cs:=[.int .u32 ak,.slice ar aj.length au]) (v:=.agg #[.int .u32 ak,.slice ar aj.length au]) kz (AtF.move db (aN.trans aI).step immM (aN.trans aI).to').at_ fun nG ik=>?_)
  refine qah (qaw ca ik (d:=19) (cs:=[.int .u32 0,.slice none 0 0]) kz fun nH nI nJ lv lw aR il im=>?_)
  refine qah (qaj il im (oi:=1) (cs:=[.int .u32 ak,.slice ar aj.length au]) kz fun nK aS de io=>?_)
  refine qae (qaa ?_)
  refine qad [0,1,2,3] kz ?_
  refine qak [0,1] [2,3] [(9,.v (.slice A_ ((qaJ W l v (Tree.mk n1 s2 b3 l4 u5) 0).length) c_)),(10,.v (.slice A4_ ((qaA W l (Tree.mk n1 s2 b3 l4 u5) k2 ++ qa7 ((qag l u5).take k)).length) c4_)),(11,.v (.int .i64 ((qaS W l (Tree.mk n1 s2 b3 l4 u5) k2 + k:Nat):Int))),(19,.p 1 0),(100,.v (.slice al ((qag l u5).length) am)),(101,.v (.int .i64 (((qag l u5).length:Nat):Int))),(102,.v (.int .i64 ((k:Nat):Int))),(107,.v (.slice ar aj.length au))] de io fun nL ip=>?_
  have kI:=qbn aj
  refine qah (qai ip (f:=24) (vs:=[.slice ar aj.length au]) (d:=108) kz Tryz.call24 (qfF _ _ aj (dc.move (((aN.trans aI).trans aR).trans aS).step immM (((aN.trans aI).trans aR).trans aS).to').le _) ?_)
  rintro e_ nM ⟨rfl,d4⟩
  refine ⟨_,rfl,fun nN iq=>?_⟩
  have df:=de.next_nil d4
  have bA:=de.frN d4
  refine qak [3] [] [(9,.v (.slice A_ ((qaJ W l v (Tree.mk n1 s2 b3 l4 u5) 0).length) c_)),(10,.v (.slice A4_ ((qaA W l (Tree.mk n1 s2 b3 l4 u5) k2 ++ qa7 ((qag l u5).take k)).length) c4_)),(11,.v (.int .i64 ((qaS W l (Tree.mk n1 s2 b3 l4 u5) k2 + k:Nat):Int))),(19,.p 1 0),(20,.v (.slice ar ((qay aj).length) au)),(100,.v (.slice al ((qag l u5).length) am)),(101,.v (.int .i64 (((qag l u5).length:Nat):Int))),(102,.v (.int .i64 ((k:Nat):Int)))] df iq fun nO ir=>?_
  refine qae (qaa ?_)
  refine qad [0,1,2,3,4,5,6,7,8,9,10,11,12,13] kz ?_
  refine qak [0,1,2,3] [4,5,6,7,8,9,10,11,12,13] [(9,.v (.slice A_ ((qaJ W l v (Tree.mk n1 s2 b3 l4 u5) 0).length) c_)),(11,.v (.int .i64 ((qaS W l (Tree.mk n1 s2 b3 l4 u5) k2 + k:Nat):Int))),(20,.v (.slice ar ((qay aj).length) au)),(100,.v (.slice al ((qag l u5).length) am)),(101,.v (.int .i64 (((qag l u5).length:Nat):Int))),(102,.v (.int .i64 ((k:Nat):Int))),(109,.v (.slice A4_ ((qaA W l (Tree.mk n1 s2 b3 l4 u5) k2 ++ qa7 ((qag l u5).take k)).length) c4_)),(112,.v (.int .u64 (IntKind.u64.wrap ak)))] df ir fun nP iu=>?_
  have iv:IntKind.u64.wrap ak = ((ak.toNat:Nat):Int):=by simp only [qc0,qcc,qdi,IntKind.wrap_i64,IntKind.wrap_i32]; omega
  have iw:=EnvOk.pick iu (ks:=[9,11,20,100,101,102,109,112]) (env':=[(9,.v (.slice A_ ((qaJ W l v (Tree.mk n1 s2 b3 l4 u5) 0).length) c_)),(11,.v (.int .i64 ((qaS W l (Tree.mk n1 s2 b3 l4 u5) k2 + k:Nat):Int))),(20,.v (.slice ar ((qay aj).length) au)),(100,.v (.slice al ((qag l u5).length) am)),(101,.v (.int .i64 (((qag l u5).length:Nat):Int))),(102,.v (.int .i64 ((k:Nat):Int))),(109,.v (.slice A4_ ((qaA W l (Tree.mk n1 s2 b3 l4 u5) k2 ++ qa7 ((qag l u5).take k)).length) c4_)),(112,.v (.int .u64 (IntKind.u64.wrap ak)))]) kz
  have ix:=iw.cast (env':=[(9,.v (.slice A_ ((qaJ W l v (Tree.mk n1 s2 b3 l4 u5) 0).length) c_)),(11,.v (.int .i64 ((qaS W l (Tree.mk n1 s2 b3 l4 u5) k2 + k:Nat):Int))),(20,.v (.slice ar ((qay aj).length) au)),(100,.v (.slice al ((qag l u5).length) am)),(101,.v (.int .i64 (((qag l u5).length:Nat):Int))),(102,.v (.int .i64 ((k:Nat):Int))),(109,.v (.slice A4_ ((qaA W l (Tree.mk n1 s2 b3 l4 u5) k2 ++ qa7 ((qag l u5).take k)).length) c4_)),(112,.v (.int .u64 ((ak.toNat:Nat):Int)))]) (by rw [iv])
  refine qah (qai ix (f:=54) (vs:=[.int .u64 ((ak.toNat:Nat):Int)]) (d:=113) kz Tryz.call54 (qdW ak.toNat (by omega) _) ?_)
  rintro e_ nQ ⟨bK,bL,rfl,iy,iz⟩
  refine ⟨_,rfl,fun nR iA=>?_⟩
  obtain ⟨dg,bB⟩:=df.frFresh iz (brow bK bL 5 (uv ak.toNat)) (Nat.le_refl _) iy
  refine qah (qaU dg iA (k:=1) (d:=114) (t:=22) (e:=5) (size:=1) (bytes:=1) (A:=A4_) (As:=bK) (m0:=((qaA W l (Tree.mk n1 s2 b3 l4 u5) k2 ++ qa7 ((qag l u5).take k)).length)) (c:=c4_) (m:=((uv ak.toNat).length)) (cs:=bL) (xs:=(bc (qaA W l (Tree.mk n1 s2 b3 l4 u5) k2 ++ qa7 ((qag l u5).take k)))) (news:=bc (uv ak.toNat)) kz kz rfl (qbL (dg.own 2 _ rfl) (qcZ _)) (qb0 (dg.own 2 _ rfl)) (by have h_:=qfY (l:=(qag l u5)) (k + 1); rw [qdU bz] at h_; simp only [List.length_append] at h_ ⊢; omega) fun aT aU nS nT bC iB iC=>?_)
  have iD:(⟨aT,aU,5,1,(qaA W l (Tree.mk n1 s2 b3 l4 u5) k2 ++ qa7 ((qag l u5).take k)).length + (uv ak.toNat).length,bc (qaA W l (Tree.mk n1 s2 b3 l4 u5) k2 ++ qa7 ((qag l u5).take k)) ++ bc (uv ak.toNat)⟩:Rw) = brow aT aU 5 (qaA W l (Tree.mk n1 s2 b3 l4 u5) k2 ++ qa7 ((qag l u5).take k) ++ (uv ak.toNat)):=qbr (rfl) rfl
  obtain ⟨d5,bD⟩:=iB.rowEq 1 [brow A_ c_ 5 (qaJ W l v (Tree.mk n1 s2 b3 l4 u5) 0),brow aT aU 5 (qaA W l (Tree.mk n1 s2 b3 l4 u5) k2 ++ qa7 ((qag l u5).take k) ++ (uv ak.toNat)),brow bK bL 5 (uv ak.toNat)] iD
  have iE:=EnvOk.pick iC (ks:=[9,11,20,100,101,102,109,112,113,114]) (env':=[(9,.v (.slice A_ ((qaJ W l v (Tree.mk n1 s2 b3 l4 u5) 0).length) c_)),(11,.v (.int .i64 ((qaS W l (Tree.mk n1 s2 b3 l4 u5) k2 + k:Nat):Int))),(20,.v (.slice ar ((qay aj).length) au)),(100,.v (.slice al ((qag l u5).length) am)),(101,.v (.int .i64 (((qag l u5).length:Nat):Int))),(102,.v (.int .i64 ((k:Nat):Int))),(109,.v (.slice A4_ ((qaA W l (Tree.mk n1 s2 b3 l4 u5) k2 ++ qa7 ((qag l u5).take k)).length) c4_)),(112,.v (.int .u64 ((ak.toNat:Nat):Int))),(113,.v (.slice bK ((uv ak.toNat).length) bL)),(114,.v (.slice aT ((qaA W l (Tree.mk n1 s2 b3 l4 u5) k2 ++ qa7 ((qag l u5).take k)).length + (uv ak.toNat).length) aU))]) kz
  have iF:=iE.cast (env':=[(9,.v (.slice A_ ((qaJ W l v (Tree.mk n1 s2 b3 l4 u5) 0).length) c_)),(11,.v (.int .i64 ((qaS W l (Tree.mk n1 s2 b3 l4 u5) k2 + k:Nat):Int))),(20,.v (.slice ar ((qay aj).length) au)),(100,.v (.slice al ((qag l u5).length) am)),(101,.v (.int .i64 (((qag l u5).length:Nat):Int))),(102,.v (.int .i64 ((k:Nat):Int))),(109,.v (.slice A4_ ((qaA W l (Tree.mk n1 s2 b3 l4 u5) k2 ++ qa7 ((qag l u5).take k)).length) c4_)),(112,.v (.int .u64 ((ak.toNat:Nat):Int))),(113,.v (.slice bK ((uv ak.toNat).length) bL)),(114,.v (.slice aT ((qaA W l (Tree.mk n1 s2 b3 l4 u5) k2 ++ qa7 ((qag l u5).take k) ++ (uv ak.toNat)).length) aU))]) (by simp only [List.length_append,List.length_cons,List.length_nil,Nat.zero_add])
  refine qak [6,7,8] [9,10,11,12,13] [(9,.v (.slice A_ ((qaJ W l v (Tree.mk n1 s2 b3 l4 u5) 0).length) c_)),(11,.v (.int .i64 ((qaS W l (Tree.mk n1 s2 b3 l4 u5) k2 + k:Nat):Int))),(20,.v (.slice ar ((qay aj).length) au)),(100,.v (.slice al ((qag l u5).length) am)),(101,.v (.int .i64 (((qag l u5).length:Nat):Int))),(102,.v (.int .i64 ((k:Nat):Int))),(114,.v (.slice aT ((qaA W l (Tree.mk n1 s2 b3 l4 u5) k2 ++ qa7 ((qag l u5).take k) ++ (uv ak.toNat)).length) aU)),(117,.v (.int .u64 (IntKind.u64.wrap (((qay aj).length:Nat):Int))))] d5 iF fun nU iG=>?_
  have iH:IntKind.u64.wrap (((qay aj).length:Nat):Int) = (((qay aj).length:Nat):Int):=by simp only [qc0,qcc,qdi,IntKind.wrap_i64,IntKind.wrap_i32]; omega
  have iI:=EnvOk.pick iG (ks:=[9,11,20,100,101,102,114,117]) (env':=[(9,.v (.slice A_ ((qaJ W l v (Tree.mk n1 s2 b3 l4 u5) 0).length) c_)),(11,.v (.int .i64 ((qaS W l (Tree.mk n1 s2 b3 l4 u5) k2 + k:Nat):Int))),(20,.v (.slice ar ((qay aj).length) au)),(100,.v (.slice al ((qag l u5).length) am)),(101,.v (.int .i64 (((qag l u5).length:Nat):Int))),(102,.v (.int .i64 ((k:Nat):Int))),(114,.v (.slice aT ((qaA W l (Tree.mk n1 s2 b3 l4 u5) k2 ++ qa7 ((qag l u5).take k) ++ (uv ak.toNat)).length) aU)),(117,.v (.int .u64 (IntKind.u64.wrap (((qay aj).length:Nat):Int))))]) kz
  have iJ:=iI.cast (env':=[(9,.v (.slice A_ ((qaJ W l v (Tree.mk n1 s2 b3 l4 u5) 0).length) c_)),(11,.v (.int .i64 ((qaS W l (Tree.mk n1 s2 b3 l4 u5) k2 + k:Nat):Int))),(20,.v (.slice ar ((qay aj).length) au)),(100,.v (.slice al ((qag l u5).length) am)),(101,.v (.int .i64 (((qag l u5).length:Nat):Int))),(102,.v (.int .i64 ((k:Nat):Int))),(114,.v (.slice aT ((qaA W l (Tree.mk n1 s2 b3 l4 u5) k2 ++ qa7 ((qag l u5).take k) ++ (uv ak.toNat)).length) aU)),(117,.v (.int .u64 (((qay aj).length:Nat):Int)))]) (by rw [iH])
  refine qah (qai iJ (f:=54) (vs:=[.int .u64 (((qay aj).length:Nat):Int)]) (d:=118) kz Tryz.call54 (qdW ((qay aj).length) (by omega) _) ?_)
  rintro e_ nV ⟨cm,cq,rfl,iK,iL⟩
  refine ⟨_,rfl,fun nW iM=>?_⟩
  obtain ⟨dh,bE⟩:=d5.frFresh iL (brow cm cq 5 (uv ((qay aj).length))) (Nat.le_refl _) iK
  refine qah (qaU dh iM (k:=1) (d:=119) (t:=22) (e:=5) (size:=1) (bytes:=1) (A:=aT) (As:=cm) (m0:=((qaA W l (Tree.mk n1 s2 b3 l4 u5) k2 ++ qa7 ((qag l u5).take k) ++ (uv ak.toNat)).length)) (c:=aU) (m:=((uv ((qay aj).length)).length)) (cs:=cq) (xs:=(bc (qaA W l (Tree.mk n1 s2 b3 l4 u5) k2 ++ qa7 ((qag l u5).take k) ++ (uv ak.toNat)))) (news:=bc (uv ((qay aj).length))) kz kz rfl (qbL (dh.own 3 _ rfl) (qcZ _)) (qb0 (dh.own 3 _ rfl)) (by have h_:=qfY (l:=(qag l u5)) (k + 1); rw [qdU bz] at h_; simp only [List.length_append] at h_ ⊢; omega) fun bf bg nX nY bF iN iO=>?_)
  have iP:(⟨bf,bg,5,1,(qaA W l (Tree.mk n1 s2 b3 l4 u5) k2 ++ qa7 ((qag l u5).take k) ++ (uv ak.toNat)).length + (uv ((qay aj).length)).length,bc (qaA W l (Tree.mk n1 s2 b3 l4 u5) k2 ++ qa7 ((qag l u5).take k) ++ (uv ak.toNat)) ++ bc (uv ((qay aj).length))⟩:Rw) = brow bf bg 5 (qaA W l (Tree.mk n1 s2 b3 l4 u5) k2 ++ qa7 ((qag l u5).take k) ++ (uv ak.toNat) ++ (uv ((qay aj).length))):=qbr (rfl) rfl
  obtain ⟨d6,bG⟩:=iN.rowEq 1 [brow A_ c_ 5 (qaJ W l v (Tree.mk n1 s2 b3 l4 u5) 0),brow bf bg 5 (qaA W l (Tree.mk n1 s2 b3 l4 u5) k2 ++ qa7 ((qag l u5).take k) ++ (uv ak.toNat) ++ (uv ((qay aj).length))),brow bK bL 5 (uv ak.toNat),brow cm cq 5 (uv ((qay aj).length))] iP
  have iQ:=EnvOk.pick iO (ks:=[9,11,20,100,101,102,114,117,118,119]) (env':=[(9,.v (.slice A_ ((qaJ W l v (Tree.mk n1 s2 b3 l4 u5) 0).length) c_)),(11,.v (.int .i64 ((qaS W l (Tree.mk n1 s2 b3 l4 u5) k2 + k:Nat):Int))),(20,.v (.slice ar ((qay aj).length) au)),(100,.v (.slice al ((qag l u5).length) am)),(101,.v (.int .i64 (((qag l u5).length:Nat):Int))),(102,.v (.int .i64 ((k:Nat):Int))),(114,.v (.slice aT ((qaA W l (Tree.mk n1 s2 b3 l4 u5) k2 ++ qa7 ((qag l u5).take k) ++ (uv ak.toNat)).length) aU)),(117,.v (.int .u64 (((qay aj).length:Nat):Int))),(118,.v (.slice cm ((uv ((qay aj).length)).length) cq)),(119,.v (.slice bf ((qaA W l (Tree.mk n1 s2 b3 l4 u5) k2 ++ qa7 ((qag l u5).take k) ++ (uv ak.toNat)).length + (uv ((qay aj).length)).length) bg))]) kz
  have iR:=iQ.cast (env':=[(9,.v (.slice A_ ((qaJ W l v (Tree.mk n1 s2 b3 l4 u5) 0).length) c_)),(11,.v (.int .i64 ((qaS W l (Tree.mk n1 s2 b3 l4 u5) k2 + k:Nat):Int))),(20,.v (.slice ar ((qay aj).length) au)),(100,.v (.slice al ((qag l u5).length) am)),(101,.v (.int .i64 (((qag l u5).length:Nat):Int))),(102,.v (.int .i64 ((k:Nat):Int))),(114,.v (.slice aT ((qaA W l (Tree.mk n1 s2 b3 l4 u5) k2 ++ qa7 ((qag l u5).take k) ++ (uv ak.toNat)).length) aU)),(117,.v (.int .u64 (((qay aj).length:Nat):Int))),(118,.v (.slice cm ((uv ((qay aj).length)).length) cq)),(119,.v (.slice bf ((qaA W l (Tree.mk n1 s2 b3 l4 u5) k2 ++ qa7 ((qag l u5).take k) ++ (uv ak.toNat) ++ (uv ((qay aj).length))).length) bg))]) (by simp only [List.length_append,List.length_cons,List.length_nil,Nat.zero_add])
  refine qak [11] [12,13] [(9,.v (.slice A_ ((qaJ W l v (Tree.mk n1 s2 b3 l4 u5) 0).length) c_)),(11,.v (.int .i64 ((qaS W l (Tree.mk n1 s2 b3 l4 u5) k2 + k:Nat):Int))),(100,.v (.slice al ((qag l u5).length) am)),(101,.v (.int .i64 (((qag l u5).length:Nat):Int))),(102,.v (.int .i64 ((k:Nat):Int))),(119,.v (.slice bf ((qaA W l (Tree.mk n1 s2 b3 l4 u5) k2 ++ qa7 ((qag l u5).take k) ++ (uv ak.toNat) ++ (uv ((qay aj).length))).length) bg)),(120,.v (.slice ar ((qay aj).length) au))] d6 iR fun nZ iS=>?_
  refine qah (qaU d6 iS (k:=1) (d:=121) (t:=22) (e:=5) (size:=1) (bytes:=1) (A:=bf) (As:=ar) (m0:=((qaA W l (Tree.mk n1 s2 b3 l4 u5) k2 ++ qa7 ((qag l u5).take k) ++ (uv ak.toNat) ++ (uv ((qay aj).length))).length)) (c:=bg) (m:=((qay aj).length)) (cs:=au) (xs:=(bc (qaA W l (Tree.mk n1 s2 b3 l4 u5) k2 ++ qa7 ((qag l u5).take k) ++ (uv ak.toNat) ++ (uv ((qay aj).length))))) (news:=bc (qay aj)) kz kz rfl ((dc.take 32767).move ((((((((((aN.trans aI).trans aR).trans aS).trans bA).trans bB).trans bC).trans bD).trans bE).trans bF).trans bG).step immM ((((((((((aN.trans aI).trans aR).trans aS).trans bA).trans bB).trans bC).trans bD).trans bE).trans bF).trans bG).to').src ((dc.take 32767).move ((((((((((aN.trans aI).trans aR).trans aS).trans bA).trans bB).trans bC).trans bD).trans bE).trans bF).trans bG).step immM ((((((((((aN.trans aI).trans aR).trans aS).trans bA).trans bB).trans bC).trans bD).trans bE).trans bF).trans bG).to').cap (by have h_:=qfY (l:=(qag l u5)) (k + 1); rw [qdU bz] at h_; simp only [List.length_append] at h_ ⊢; omega) fun aL aM n4 n5 iT iU iV=>?_)
  have iW:(⟨aL,aM,5,1,(qaA W l (Tree.mk n1 s2 b3 l4 u5) k2 ++ qa7 ((qag l u5).take k) ++ (uv ak.toNat) ++ (uv ((qay aj).length))).length + (qay aj).length,bc (qaA W l (Tree.mk n1 s2 b3 l4 u5) k2 ++ qa7 ((qag l u5).take k) ++ (uv ak.toNat) ++ (uv ((qay aj).length))) ++ bc (qay aj)⟩:Rw) = brow aL aM 5 (qaA W l (Tree.mk n1 s2 b3 l4 u5) k2 ++ qa7 ((qag l u5).take k) ++ (uv ak.toNat) ++ (uv ((qay aj).length)) ++ (qay aj)):=qbr (rfl) rfl
  obtain ⟨cb,iX⟩:=iU.rowEq 1 [brow A_ c_ 5 (qaJ W l v (Tree.mk n1 s2 b3 l4 u5) 0),brow aL aM 5 (qaA W l (Tree.mk n1 s2 b3 l4 u5) k2 ++ qa7 ((qag l u5).take k) ++ (uv ak.toNat) ++ (uv ((qay aj).length)) ++ (qay aj)),brow bK bL 5 (uv ak.toNat),brow cm cq 5 (uv ((qay aj).length))] iW
  have iY:=EnvOk.pick iV (ks:=[9,11,100,101,102,119,120,121]) (env':=[(9,.v (.slice A_ ((qaJ W l v (Tree.mk n1 s2 b3 l4 u5) 0).length) c_)),(11,.v (.int .i64 ((qaS W l (Tree.mk n1 s2 b3 l4 u5) k2 + k:Nat):Int))),(100,.v (.slice al ((qag l u5).length) am)),(101,.v (.int .i64 (((qag l u5).length:Nat):Int))),(102,.v (.int .i64 ((k:Nat):Int))),(119,.v (.slice bf ((qaA W l (Tree.mk n1 s2 b3 l4 u5) k2 ++ qa7 ((qag l u5).take k) ++ (uv ak.toNat) ++ (uv ((qay aj).length))).length) bg)),(120,.v (.slice ar ((qay aj).length) au)),(121,.v (.slice aL ((qaA W l (Tree.mk n1 s2 b3 l4 u5) k2 ++ qa7 ((qag l u5).take k) ++ (uv ak.toNat) ++ (uv ((qay aj).length))).length + (qay aj).length) aM))]) kz
  have iZ:=iY.cast (env':=[(9,.v (.slice A_ ((qaJ W l v (Tree.mk n1 s2 b3 l4 u5) 0).length) c_)),(11,.v (.int .i64 ((qaS W l (Tree.mk n1 s2 b3 l4 u5) k2 + k:Nat):Int))),(100,.v (.slice al ((qag l u5).length) am)),(101,.v (.int .i64 (((qag l u5).length:Nat):Int))),(102,.v (.int .i64 ((k:Nat):Int))),(119,.v (.slice bf ((qaA W l (Tree.mk n1 s2 b3 l4 u5) k2 ++ qa7 ((qag l u5).take k) ++ (uv ak.toNat) ++ (uv ((qay aj).length))).length) bg)),(120,.v (.slice ar ((qay aj).length) au)),(121,.v (.slice aL ((qaA W l (Tree.mk n1 s2 b3 l4 u5) k2 ++ qa7 ((qag l u5).take k) ++ (uv ak.toNat) ++ (uv ((qay aj).length)) ++ (qay aj)).length) aM))]) (by simp only [List.length_append,List.length_cons,List.length_nil,Nat.zero_add])
  refine qak [13] [] [(9,.v (.slice A_ ((qaJ W l v (Tree.mk n1 s2 b3 l4 u5) 0).length) c_)),(10,.v (.slice aL ((qaA W l (Tree.mk n1 s2 b3 l4 u5) k2 ++ qa7 ((qag l u5).take k) ++ (uv ak.toNat) ++ (uv ((qay aj).length)) ++ (qay aj)).length) aM)),(11,.v (.int .i64 ((qaS W l (Tree.mk n1 s2 b3 l4 u5) k2 + k:Nat):Int))),(100,.v (.slice al ((qag l u5).length) am)),(101,.v (.int .i64 (((qag l u5).length:Nat):Int))),(102,.v (.int .i64 ((k:Nat):Int)))] cb iZ fun n8 i6=>?_
  refine qae (qaa ?_)
  refine qap [0,1,2] kz ?_
  refine qak [0,1,2] [] [(9,.v (.slice A_ ((qaJ W l v (Tree.mk n1 s2 b3 l4 u5) 0).length) c_)),(10,.v (.slice aL ((qaA W l (Tree.mk n1 s2 b3 l4 u5) k2 ++ qa7 ((qag l u5).take k) ++ (uv ak.toNat) ++ (uv ((qay aj).length)) ++ (qay aj)).length) aM)),(11,.v (.int .i64 (IntKind.i64.wrap (((qaS W l (Tree.mk n1 s2 b3 l4 u5) k2 + k:Nat):Int) + 1)))),(100,.v (.slice al ((qag l u5).length) am)),(101,.v (.int .i64 (((qag l u5).length:Nat):Int))),(102,.v (.int .i64 ((k:Nat):Int)))] cb i6 fun oa i7=>?_
  refine qae ?_
  refine qas ?_
  refine qaa ?_
  refine qap [0,1] kz ?_
  refine qak [0,1] [] [(9,.v (.slice A_ ((qaJ W l v (Tree.mk n1 s2 b3 l4 u5) 0).length) c_)),(10,.v (.slice aL ((qaA W l (Tree.mk n1 s2 b3 l4 u5) k2 ++ qa7 ((qag l u5).take k) ++ (uv ak.toNat) ++ (uv ((qay aj).length)) ++ (qay aj)).length) aM)),(11,.v (.int .i64 (IntKind.i64.wrap (((qaS W l (Tree.mk n1 s2 b3 l4 u5) k2 + k:Nat):Int) + 1)))),(100,.v (.slice al ((qag l u5).length) am)),(101,.v (.int .i64 (((qag l u5).length:Nat):Int))),(102,.v (.int .i64 (IntKind.i64.wrap (((k:Nat):Int) + 1))))] cb i7 fun oc ja=>?_
  refine qae (qaa ?_)
  obtain ⟨cc,jb,jc⟩:=cb.cutB ja 1 [⟨cv,0,[.int .i64 n1,.slice A6 s2.length c7,.bool b3,.slice A8 l4.length c9,.slice aV u5.length aW],true⟩] [(9,.v (.slice A_ ((qaJ W l v (Tree.mk n1 s2 b3 l4 u5) 0).length) c_)),(10,.v (.slice aL ((qaA W l (Tree.mk n1 s2 b3 l4 u5) k2 ++ qa7 ((qag l u5).take k) ++ (uv ak.toNat) ++ (uv ((qay aj).length)) ++ (qay aj)).length) aM)),(11,.v (.int .i64 (IntKind.i64.wrap (((qaS W l (Tree.mk n1 s2 b3 l4 u5) k2 + k:Nat):Int) + 1)))),(100,.v (.slice al ((qag l u5).length) am)),(101,.v (.int .i64 (((qag l u5).length:Nat):Int))),(102,.v (.int .i64 (IntKind.i64.wrap (((k:Nat):Int) + 1))))]
  obtain ⟨jd,je⟩:=jb.cutR 2 [brow A_ c_ 5 (qaJ W l v (Tree.mk n1 s2 b3 l4 u5) 0),brow aL aM 5 (qaA W l (Tree.mk n1 s2 b3 l4 u5) k2 ++ qa7 ((qag l u5).take k) ++ (uv ak.toNat) ++ (uv ((qay aj).length)) ++ (qay aj))]
  have d7:(qaA W l (Tree.mk n1 s2 b3 l4 u5) k2 ++ qa7 ((qag l u5).take k) ++ (uv ak.toNat) ++ (uv ((qay aj).length)) ++ (qay aj)) = (qaA W l (Tree.mk n1 s2 b3 l4 u5) k2 ++ qa7 ((qag l u5).take (k + 1))):=by rw [qdU bz]; simp only [List.append_assoc]
  have jf:=congrArg (brow aL aM 5) d7
  obtain ⟨jg,jh⟩:=jd.rowEq 1 [brow A_ c_ 5 (qaJ W l v (Tree.mk n1 s2 b3 l4 u5) 0),brow aL aM 5 (qaA W l (Tree.mk n1 s2 b3 l4 u5) k2 ++ qa7 ((qag l u5).take (k + 1)))] jf
  rw [d7] at cc
  have ji:IntKind.i64.wrap (((k:Nat):Int) + 1) = ((k + 1:Nat):Int):=qaN (by omega)
  rw [ji] at cc
  have jj:IntKind.i64.wrap (((qaS W l (Tree.mk n1 s2 b3 l4 u5) k2 + k:Nat):Int) + 1) = ((qaS W l (Tree.mk n1 s2 b3 l4 u5) k2 + (k + 1):Nat):Int):=by rw [wrap_i64 (by omega) (by omega)]; omega
  rw [jj] at cc
  exact ⟨(qag l u5).length - (k + 1),by omega,k + 1,aL,aM,rfl,by omega,cc.pk,jg,((((((((((((((aI.trans aR).trans aS).trans bA).trans bB).trans bC).trans bD).trans bE).trans bF).trans bG).trans iT).trans iX).trans jc).trans je).trans jh)⟩
 have lx:=of_decide_eq_false da
 refine wp_exit ?_
 refine qar ?_
 refine qar ?_
 refine qaE ?_
 refine qaa ?_
 refine qad [0,1,2,3,4,5,6,7] kz ?_
 refine qak [0,1,2] [3,4,5,6,7] [(10,.v (.slice A4_ ((qaA W l (Tree.mk n1 s2 b3 l4 u5) k2 ++ qa7 ((qag l u5).take k)).length) c4_)),(125,.v (.slice A_ ((qaJ W l v (Tree.mk n1 s2 b3 l4 u5) 0).length) c_)),(127,.v (.int .u64 (IntKind.u64.wrap ((qaS W l (Tree.mk n1 s2 b3 l4 u5) k2 + k:Nat):Int))))] ca c8 fun od jk=>?_
 have jl:IntKind.u64.wrap ((qaS W l (Tree.mk n1 s2 b3 l4 u5) k2 + k:Nat):Int) = ((qaS W l (Tree.mk n1 s2 b3 l4 u5) k2 + k:Nat):Int):=by simp only [qc0,qcc,qdi,IntKind.wrap_i64,IntKind.wrap_i32]; omega
 have jm:=EnvOk.pick jk (ks:=[10,125,127]) (env':=[(10,.v (.slice A4_ ((qaA W l (Tree.mk n1 s2 b3 l4 u5) k2 ++ qa7 ((qag l u5).take k)).length) c4_)),(125,.v (.slice A_ ((qaJ W l v (Tree.mk n1 s2 b3 l4 u5) 0).length) c_)),(127,.v (.int .u64 (IntKind.u64.wrap ((qaS W l (Tree.mk n1 s2 b3 l4 u5) k2 + k:Nat):Int))))]) kz
 have jn:=jm.cast (env':=[(10,.v (.slice A4_ ((qaA W l (Tree.mk n1 s2 b3 l4 u5) k2 ++ qa7 ((qag l u5).take k)).length) c4_)),(125,.v (.slice A_ ((qaJ W l v (Tree.mk n1 s2 b3 l4 u5) 0).length) c_)),(127,.v (.int .u64 ((qaS W l (Tree.mk n1 s2 b3 l4 u5) k2 + k:Nat):Int)))]) (by rw [jl])
 refine qah (qai jn (f:=54) (vs:=[.int .u64 ((qaS W l (Tree.mk n1 s2 b3 l4 u5) k2 + k:Nat):Int)]) (d:=128) kz Tryz.call54 (qdW (qaS W l (Tree.mk n1 s2 b3 l4 u5) k2 + k) (by omega) _) ?_)
 rintro e_ oe ⟨cr,cu,rfl,jo,jp⟩
 refine ⟨_,rfl,fun og jq=>?_⟩
 obtain ⟨di,ly⟩:=ca.frFresh jp (brow cr cu 5 (uv (qaS W l (Tree.mk n1 s2 b3 l4 u5) k2 + k))) (Nat.le_refl _) jo
 refine qah (qaU di jq (k:=0) (d:=129) (t:=22) (e:=5) (size:=1) (bytes:=1) (A:=A_) (As:=cr) (m0:=((qaJ W l v (Tree.mk n1 s2 b3 l4 u5) 0).length)) (c:=c_) (m:=((uv (qaS W l (Tree.mk n1 s2 b3 l4 u5) k2 + k)).length)) (cs:=cu) (xs:=(bc (qaJ W l v (Tree.mk n1 s2 b3 l4 u5) 0))) (news:=bc (uv (qaS W l (Tree.mk n1 s2 b3 l4 u5) k2 + k))) kz kz rfl (qbL (di.own 2 _ rfl) (qcZ _)) (qb0 (di.own 2 _ rfl)) (by have hkk3:k = (qag l u5).length:=(by omega); subst hkk3; subst hkk2; simp only [List.length_append,List.take_length] at *; omega) fun bh bi oh ol lz jr js=>?_)
 have jt:(⟨bh,bi,5,1,(qaJ W l v (Tree.mk n1 s2 b3 l4 u5) 0).length + (uv (qaS W l (Tree.mk n1 s2 b3 l4 u5) k2 + k)).length,bc (qaJ W l v (Tree.mk n1 s2 b3 l4 u5) 0) ++ bc (uv (qaS W l (Tree.mk n1 s2 b3 l4 u5) k2 + k))⟩:Rw) = brow bh bi 5 (qaJ W l v (Tree.mk n1 s2 b3 l4 u5) 0 ++ (uv (qaS W l (Tree.mk n1 s2 b3 l4 u5) k2 + k))):=qbr (rfl) rfl
 obtain ⟨cd,lA⟩:=jr.rowEq 0 [brow bh bi 5 (qaJ W l v (Tree.mk n1 s2 b3 l4 u5) 0 ++ (uv (qaS W l (Tree.mk n1 s2 b3 l4 u5) k2 + k))),brow A4_ c4_ 5 (qaA W l (Tree.mk n1 s2 b3 l4 u5) k2 ++ qa7 ((qag l u5).take k)),brow cr cu 5 (uv (qaS W l (Tree.mk n1 s2 b3 l4 u5) k2 + k))] jt
 have ju:=EnvOk.pick js (ks:=[10,125,127,128,129]) (env':=[(10,.v (.slice A4_ ((qaA W l (Tree.mk n1 s2 b3 l4 u5) k2 ++ qa7 ((qag l u5).take k)).length) c4_)),(125,.v (.slice A_ ((qaJ W l v (Tree.mk n1 s2 b3 l4 u5) 0).length) c_)),(127,.v (.int .u64 ((qaS W l (Tree.mk n1 s2 b3 l4 u5) k2 + k:Nat):Int))),(128,.v (.slice cr ((uv (qaS W l (Tree.mk n1 s2 b3 l4 u5) k2 + k)).length) cu)),(129,.v (.slice bh ((qaJ W l v (Tree.mk n1 s2 b3 l4 u5) 0).length + (uv (qaS W l (Tree.mk n1 s2 b3 l4 u5) k2 + k)).length) bi))]) kz
 have jv:=ju.cast (env':=[(10,.v (.slice A4_ ((qaA W l (Tree.mk n1 s2 b3 l4 u5) k2 ++ qa7 ((qag l u5).take k)).length) c4_)),(125,.v (.slice A_ ((qaJ W l v (Tree.mk n1 s2 b3 l4 u5) 0).length) c_)),(127,.v (.int .u64 ((qaS W l (Tree.mk n1 s2 b3 l4 u5) k2 + k:Nat):Int))),(128,.v (.slice cr ((uv (qaS W l (Tree.mk n1 s2 b3 l4 u5) k2 + k)).length) cu)),(129,.v (.slice bh ((qaJ W l v (Tree.mk n1 s2 b3 l4 u5) 0 ++ (uv (qaS W l (Tree.mk n1 s2 b3 l4 u5) k2 + k))).length) bi))]) (by simp only [List.length_append,List.length_cons,List.length_nil,Nat.zero_add])
 refine qak [5] [6,7] [(129,.v (.slice bh ((qaJ W l v (Tree.mk n1 s2 b3 l4 u5) 0 ++ (uv (qaS W l (Tree.mk n1 s2 b3 l4 u5) k2 + k))).length) bi)),(130,.v (.slice A4_ ((qaA W l (Tree.mk n1 s2 b3 l4 u5) k2 ++ qa7 ((qag l u5).take k)).length) c4_))] cd jv fun om jw=>?_
 refine qah (qaU cd jw (k:=0) (d:=131) (t:=22) (e:=5) (size:=1) (bytes:=1) (A:=bh) (As:=A4_) (m0:=((qaJ W l v (Tree.mk n1 s2 b3 l4 u5) 0 ++ (uv (qaS W l (Tree.mk n1 s2 b3 l4 u5) k2 + k))).length)) (c:=bi) (m:=((qaA W l (Tree.mk n1 s2 b3 l4 u5) k2 ++ qa7 ((qag l u5).take k)).length)) (cs:=c4_) (xs:=(bc (qaJ W l v (Tree.mk n1 s2 b3 l4 u5) 0 ++ (uv (qaS W l (Tree.mk n1 s2 b3 l4 u5) k2 + k))))) (news:=bc (qaA W l (Tree.mk n1 s2 b3 l4 u5) k2 ++ qa7 ((qag l u5).take k))) kz kz rfl (qbL (cd.own 1 _ rfl) (qcZ _)) (qb0 (cd.own 1 _ rfl)) (by have hkk3:k = (qag l u5).length:=(by omega); subst hkk3; subst hkk2; simp only [List.length_append,List.take_length] at *; omega) fun bM bN oq ot lB jx jy=>?_)
 have jz:(⟨bM,bN,5,1,(qaJ W l v (Tree.mk n1 s2 b3 l4 u5) 0 ++ (uv (qaS W l (Tree.mk n1 s2 b3 l4 u5) k2 + k))).length + (qaA W l (Tree.mk n1 s2 b3 l4 u5) k2 ++ qa7 ((qag l u5).take k)).length,bc (qaJ W l v (Tree.mk n1 s2 b3 l4 u5) 0 ++ (uv (qaS W l (Tree.mk n1 s2 b3 l4 u5) k2 + k))) ++ bc (qaA W l (Tree.mk n1 s2 b3 l4 u5) k2 ++ qa7 ((qag l u5).take k))⟩:Rw) = brow bM bN 5 (qaJ W l v (Tree.mk n1 s2 b3 l4 u5) 0 ++ (uv (qaS W l (Tree.mk n1 s2 b3 l4 u5) k2 + k)) ++ (qaA W l (Tree.mk n1 s2 b3 l4 u5) k2 ++ qa7 ((qag l u5).take k))):=qbr (rfl) rfl
 obtain ⟨dj,lC⟩:=jx.rowEq 0 [brow bM bN 5 (qaJ W l v (Tree.mk n1 s2 b3 l4 u5) 0 ++ (uv (qaS W l (Tree.mk n1 s2 b3 l4 u5) k2 + k)) ++ (qaA W l (Tree.mk n1 s2 b3 l4 u5) k2 ++ qa7 ((qag l u5).take k))),brow A4_ c4_ 5 (qaA W l (Tree.mk n1 s2 b3 l4 u5) k2 ++ qa7 ((qag l u5).take k)),brow cr cu 5 (uv (qaS W l (Tree.mk n1 s2 b3 l4 u5) k2 + k))] jz
 have jA:=EnvOk.pick jy (ks:=[129,130,131]) (env':=[(129,.v (.slice bh ((qaJ W l v (Tree.mk n1 s2 b3 l4 u5) 0 ++ (uv (qaS W l (Tree.mk n1 s2 b3 l4 u5) k2 + k))).length) bi)),(130,.v (.slice A4_ ((qaA W l (Tree.mk n1 s2 b3 l4 u5) k2 ++ qa7 ((qag l u5).take k)).length) c4_)),(131,.v (.slice bM ((qaJ W l v (Tree.mk n1 s2 b3 l4 u5) 0 ++ (uv (qaS W l (Tree.mk n1 s2 b3 l4 u5) k2 + k))).length + (qaA W l (Tree.mk n1 s2 b3 l4 u5) k2 ++ qa7 ((qag l u5).take k)).length) bN))]) kz
 have jB:=jA.cast (env':=[(129,.v (.slice bh ((qaJ W l v (Tree.mk n1 s2 b3 l4 u5) 0 ++ (uv (qaS W l (Tree.mk n1 s2 b3 l4 u5) k2 + k))).length) bi)),(130,.v (.slice A4_ ((qaA W l (Tree.mk n1 s2 b3 l4 u5) k2 ++ qa7 ((qag l u5).take k)).length) c4_)),(131,.v (.slice bM ((qaJ W l v (Tree.mk n1 s2 b3 l4 u5) 0 ++ (uv (qaS W l (Tree.mk n1 s2 b3 l4 u5) k2 + k)) ++ (qaA W l (Tree.mk n1 s2 b3 l4 u5) k2 ++ qa7 ((qag l u5).take k))).length) bN))]) (by simp only [List.length_append,List.length_cons,List.length_nil,Nat.zero_add])
 refine qak [7] [] [(8,.v (.slice bM ((qaJ W l v (Tree.mk n1 s2 b3 l4 u5) 0 ++ (uv (qaS W l (Tree.mk n1 s2 b3 l4 u5) k2 + k)) ++ (qaA W l (Tree.mk n1 s2 b3 l4 u5) k2 ++ qa7 ((qag l u5).take k))).length) bN))] dj jB fun ou jC=>?_
 refine qae (qaa ?_)
 refine wp_ret ?_
 refine qaV jC dj.cells (v:=.slice bM ((qaJ W l v (Tree.mk n1 s2 b3 l4 u5) 0 ++ (uv (qaS W l (Tree.mk n1 s2 b3 l4 u5) k2 + k)) ++ (qaA W l (Tree.mk n1 s2 b3 l4 u5) k2 ++ qa7 ((qag l u5).take k))).length) bN) kz ?_
 have hkk3:k = (qag l u5).length:=by omega
 exact qbd dj (k:=0) rfl (by rw [show flex = true by simpa using bT,qfx,hkk3,hkk2,List.take_length])
theorem qg6:∀ d,qi4 d
 | 0=>fun A c l v flex ct t w F hl hd ht hr=>qkN (fun _ _=>[]) A c l v flex ct t w F (fun cf f ct t w F hm hf ht hr=>by
   obtain ⟨i,hi⟩:=List.mem_iff_getElem?.1 hm
   have h:=qcP hi
   obtain ⟨k,x1,x2,x3,x4,x5,x6,l,A,c,xs,rfl,_⟩:=hf.open_
   rw [qdS] at h; omega) hl ht hr
 | d + 1=>fun A c l v flex ct t w F hl hd ht hr=>qkN (fun f t=>qcU d f v flex t) A c l v flex ct t w F (fun cf f ct t w F hm hf ht hr=>qkM (qg6 d) cf f v flex ct t w F hf (by
   obtain ⟨i,hi⟩:=List.mem_iff_getElem?.1 hm
   have h:=qcP hi
   obtain ⟨k,x1,x2,x3,x4,x5,x6,l,A,c,xs,rfl,_⟩:=hf.open_
   rw [qdS] at h
   show depths l ≤ d
   omega) ht hr) hl ht hr
theorem qkO {d:Nat} (A:Option Addr) (c:Nat) (l:List Fld) (x v:Int) (ct:List Value) (t:Tree) (w:World) (F:Nat → Nat → Prop) (hl:FldsR w F A c l) (hd:depths l ≤ d) (ht:TreeR w F ct t) (hroom:(qcE d l x v t).length ≤ 1099511627776) :
  Calls Tryz.prog 12 #[.agg #[.slice A l.length c,.int .i64 x],.int .i64 v,.agg ct.toArray] w (qdr w 5 (qcE d l x v t)):=by
 obtain ⟨xfs,h1,h2⟩:=hl.ex
 have hsm:=h1.small
 obtain ⟨n1,s2,b3,l4,u5,A6,c7,A8,c9,af,ag,aJ,rfl,rfl,aK,aL,aW,aX⟩:=ht.open_
 have aH:=aK.small
 have aI:=aL.small
 refine enter (n:=21) Tryz.func12 rfl Tryz.ntmps12 kz fun a hE=>?_
 have hW:=WOk.start w Nil
 refine qad [0,1,2] kz ?_
 refine qah (qa9 hW hE (d:=3) (cs:=[.slice A l.length c,.int .i64 x]) kz fun aY aZ ba aM aN aO ai aj=>?_)
 refine qah (qa9 ai aj (d:=5) (cs:=[.int .i64 n1,.slice A6 s2.length c7,.bool b3,.slice A8 l4.length c9,.slice af u5.length ag]) kz fun bd bf bg aP aQ aR aa ak=>?_)
 refine qak [2] [] [(1,.v (.int .i64 v)),(3,.p 0 0),(5,.p 1 0)] aa ak fun bh al=>?_
 refine qae (qaa ?_)
 refine qad [0,1,2,3,4,5,6,7,8,9,10,11,12,13,14] kz ?_
 refine qak [0,1,2,3,4,5,6] [7,8,9,10,11,12,13,14] [(1,.v (.int .i64 v)),(3,.p 0 0),(5,.p 1 0),(8,.v (.slice A l.length c)),(9,.v (.int .i64 v)),(13,.v (.bool (decide (x ≥ 0))))] aa al fun bi ah=>?_
 refine (Bool.eq_false_or_eq_true (decide (x ≥ 0))).elim (fun ab=>?_) (fun ab=>?_)
 ·
  have aS:=of_decide_eq_true ab
  have am:=ah.cast (env':=[(1,.v (.int .i64 v)),(3,.p 0 0),(5,.p 1 0),(8,.v (.slice A l.length c)),(9,.v (.int .i64 v)),(13,.v (.bool true))]) (by rw [ab])
  refine qak [7,8,9,10,11,12] [13,14] [(8,.v (.slice A l.length c)),(9,.v (.int .i64 v)),(18,.v (.bool (decide (v ≥ x)))),(19,.v (.agg #[.int .i64 n1,.slice A6 s2.length c7,.bool b3,.slice A8 l4.length c9,.slice af u5.length ag]))] aa am fun bj ao=>?_
  refine qah (qai ao (f:=25) (vs:=[.slice A l.length c,.int .i64 v,.bool (decide (v ≥ x)),.agg #[.int .i64 n1,.slice A6 s2.length c7,.bool b3,.slice A8 l4.length c9,.slice af u5.length ag]]) (d:=20) kz Tryz.call25 (qg6 _ _ _ l v (decide (v ≥ x)) _ (Tree.mk n1 s2 b3 l4 u5) _ _ ⟨xfs,(h1.move aa.step nilM aa.imm),(fun i_ x_ h_=>((h2 i_ x_ h_).move aa.step nilM aa.imm))⟩ hd (ht.move aa.step nilM aa.imm) (by simpa [qcE,ab] using hroom)) ?_)
  rintro e_ bk ⟨ap,ar,rfl,au,av⟩
  refine ⟨_,rfl,fun bn aw=>?_⟩
  obtain ⟨ac,aT⟩:=aa.frFresh av (brow ap ar 5 (qaX d l v (decide (v ≥ x)) (Tree.mk n1 s2 b3 l4 u5))) (Nat.le_refl _) au
  refine qak [14] [] [(6,.v (.slice ap ((qaX d l v (decide (v ≥ x)) (Tree.mk n1 s2 b3 l4 u5)).length) ar))] ac aw fun bp ax=>?_
  refine qae (qaa ?_)
  refine wp_ret ?_
  refine qaV ax ac.cells (v:=.slice ap ((qaX d l v (decide (v ≥ x)) (Tree.mk n1 s2 b3 l4 u5)).length) ar) kz ?_
  exact qbd ac (k:=0) rfl (by simp [qcE,ab])
 have aU:=of_decide_eq_false ab
 have ay:=ah.cast (env':=[(1,.v (.int .i64 v)),(3,.p 0 0),(5,.p 1 0),(8,.v (.slice A l.length c)),(9,.v (.int .i64 v)),(13,.v (.bool false))]) (by rw [ab])
 refine qak [7,8,9,10,11,12] [13,14] [(8,.v (.slice A l.length c)),(9,.v (.int .i64 v)),(18,.v (.bool false)),(19,.v (.agg #[.int .i64 n1,.slice A6 s2.length c7,.bool b3,.slice A8 l4.length c9,.slice af u5.length ag]))] aa ay fun bq aA=>?_
 refine qah (qai aA (f:=25) (vs:=[.slice A l.length c,.int .i64 v,.bool false,.agg #[.int .i64 n1,.slice A6 s2.length c7,.bool b3,.slice A8 l4.length c9,.slice af u5.length ag]]) (d:=20) kz Tryz.call25 (qg6 _ _ _ l v false _ (Tree.mk n1 s2 b3 l4 u5) _ _ ⟨xfs,(h1.move aa.step nilM aa.imm),(fun i_ x_ h_=>((h2 i_ x_ h_).move aa.step nilM aa.imm))⟩ hd (ht.move aa.step nilM aa.imm) (by simpa [qcE,ab] using hroom)) ?_)
 rintro e_ br ⟨aB,aC,rfl,aD,aE⟩
 refine ⟨_,rfl,fun bt aF=>?_⟩
 obtain ⟨ae,aV⟩:=aa.frFresh aE (brow aB aC 5 (qaX d l v false (Tree.mk n1 s2 b3 l4 u5))) (Nat.le_refl _) aD
 refine qak [14] [] [(6,.v (.slice aB ((qaX d l v false (Tree.mk n1 s2 b3 l4 u5)).length) aC))] ae aF fun bu aG=>?_
 refine qae (qaa ?_)
 refine wp_ret ?_
 refine qaV aG ae.cells (v:=.slice aB ((qaX d l v false (Tree.mk n1 s2 b3 l4 u5)).length) aC) kz ?_
 exact qbd ae (k:=0) rfl (by simp [qcE,ab])
def qi7 (m:Nat):Prop:=∀ (ct:List Value) (t:Tree) (w:World) (F:Nat → Nat → Prop),TreeR w F ct t → t.depth ≤ m →
  Calls Tryz.prog 10 #[.agg ct.toArray] w (qen w F t)
theorem qg7 {m:Nat} (hg:qi7 m) (ct:List Value) (t:Tree) (w:World) (F:Nat → Nat → Prop) (ht:TreeR w F ct t) (hd:t.depth ≤ m + 1) :
  Calls Tryz.prog 10 #[.agg ct.toArray] w (qen w F t):=by
 obtain ⟨n1,s2,b3,l4,u5,A6,c7,A8,c9,ap,ar,dM,rfl,rfl,dj,dl,dN,dO⟩:=ht.open_
 have dp:=dj.small
 have dq:=dl.small
 obtain ⟨dP,dr,dQ⟩:=dO.ex
 have dt:=dr.small
 refine enter (n:=49) Tryz.func10 rfl Tryz.ntmps10 kz fun a hE=>?_
 have hW:=WOk.start w Nil
 refine qad [0,1] kz ?_
 refine qah (qa9 hW hE (d:=1) (cs:=[.int .i64 n1,.slice A6 s2.length c7,.bool b3,.slice A8 l4.length c9,.slice ap u5.length ar]) kz fun bG eZ e5 dR dS dT cP cQ=>?_)
 refine qah (qaw cP cQ (d:=2) (cs:=[.int .i64 0,.slice none 0 0,.bool false,.slice none 0 0,.slice none 0 0]) kz fun bH e6 e7 dU dV dW bJ cR=>?_)
 refine qae (qaa ?_)
 refine qad [0,1,2,3,4,5,6,7,8] kz ?_
 refine qak [0,1,2,3,4,5,6] [7,8] [(1,.p 0 0),(2,.p 1 0),(14,.v (.agg #[.int .i64 n1,.slice A6 s2.length c7,.bool b3,.slice none 0 0,.slice none 0 0]))] bJ cR fun e9 cS=>?_
 refine qah (qaw bJ cS (d:=3) (cs:=[.int .i64 0,.slice none 0 0,.bool false,.slice none 0 0,.slice none 0 0]) kz fun bI fa fb dX dY dZ cT cV=>?_)
 refine qah (qaj cT cV (oi:=2) (cs:=[.int .i64 n1,.slice A6 s2.length c7,.bool b3,.slice none 0 0,.slice none 0 0]) kz fun fc d4 bA cW=>?_)
 refine qae (qaa ?_)
 refine wp_seq ?_
 refine qaz [(1,.p 0 0),(2,.p 1 0),(3,.p 2 0),(16,.v (.slice A8 l4.length c9)),(17,.v (.int .i64 ((l4.length:Nat):Int))),(18,.v (.int .i64 0))] bA cW fun fe cX=>?_
 refine wp_block ?_
 have bK:=bA.addNil 39 5
 have d5:=bA.frNil 39 5
 refine wp_loop_ghost (fun n_ a_ w_=>∃ (k:Nat) (A_:Option Addr) (c_:Nat) (xs:List Value) (css:List (List Value)),n_ = l4.length - k ∧ k ≤ l4.length ∧ (Trees w_ (Imm F w w_ [⟨bG,0,[.int .i64 n1,.slice A6 s2.length c7,.bool b3,.slice A8 l4.length c9,.slice ap u5.length ar],true⟩,⟨bH,0,[.int .i64 0,.slice none 0 0,.bool false,.slice none 0 0,.slice none 0 0],true⟩,⟨bI,0,[.int .i64 n1,.slice A6 s2.length c7,.bool b3,.slice A_ k c_,.slice none 0 0],true⟩] [⟨A_,c_,39,5,k,xs⟩]) xs (l4.take k) css) ∧ LInv bK 49 [⟨bG,0,[.int .i64 n1,.slice A6 s2.length c7,.bool b3,.slice A8 l4.length c9,.slice ap u5.length ar],true⟩,⟨bH,0,[.int .i64 0,.slice none 0 0,.bool false,.slice none 0 0,.slice none 0 0],true⟩,⟨bI,0,[.int .i64 n1,.slice A6 s2.length c7,.bool b3,.slice A_ k c_,.slice none 0 0],true⟩] [⟨A_,c_,39,5,k,xs⟩] [(1,.p 0 0),(2,.p 1 0),(3,.p 2 0),(16,.v (.slice A8 l4.length c9)),(17,.v (.int .i64 ((l4.length:Nat):Int))),(18,.v (.int .i64 ((k:Nat):Int)))] a_ w_) (l4.length) ⟨0,none,0,[],[],by omega,by omega,Trees.nil _ _,cX.pk,bK,Fr.refl _ _ _⟩ ?_
 rintro ff fg fh ⟨k,A_,c_,xs,css,d6,d7,hT,cY,aw,cZ⟩
 refine qaz [(1,.p 0 0),(2,.p 1 0),(3,.p 2 0),(16,.v (.slice A8 l4.length c9)),(17,.v (.int .i64 ((l4.length:Nat):Int))),(18,.v (.int .i64 ((k:Nat):Int))),(19,.v (.bool (decide (((k:Nat):Int) < ((l4.length:Nat):Int)))))] aw cY fun fi bB=>?_
 refine wp_seq ?_
 refine qau bB (b:=decide (((k:Nat):Int) < ((l4.length:Nat):Int))) kz (fun bC=>?_) (fun bC=>?_)
 ·
  have d8:=of_decide_eq_true bC
  refine wp_skip ?_
  refine qaa ?_
  refine wp_seq ?_
  refine wp_block ?_
  refine qad [0,1,2,3] kz ?_
  obtain ⟨d9,ea,c5,eb,bg⟩:=Slots.get dl (i:=k) (by omega)
  obtain ⟨ec,bD⟩:∃ x,l4[k]? = some x:=⟨_,List.getElem?_eq_getElem (by omega)⟩
  have bE:=dN k ec bD
  obtain ⟨bL,bM,bN,bO,bP,bQ,bR,bS,bT,bU,bV,ee,rfl,bh,ef,eg,fj,fk⟩:=bE.open_
  rw [bh] at bE
  have du:=ef.small
  have dv:=eg.small
  rw [bh] at bg
  refine qah (qaM bB (t:=23) (A:=A8) (m:=l4.length) (q:=((k:Nat):Int)) (d:=20) kz (e:=26) (size:=5) (bytes:=88) kz c5 rfl (by omega) fun fl bW=>?_)
  refine qah (qa0 bW (t:=26) (b:=d9) (o:=ea + k * 5) (d:=21) kz (cs:=[.int .i64 bL,.slice bQ bM.length bR,.bool bN,.slice bS bO.length bT,.slice bU bP.length bV]) (v:=.agg #[.int .i64 bL,.slice bQ bM.length bR,.bool bN,.slice bS bO.length bT,.slice bU bP.length bV]) kz (AtF.move bg aw.step nilM qco).at_ fun eh bX=>?_)
  refine qah (qaw aw bX (d:=5) (cs:=[.int .i64 0,.slice none 0 0,.bool false,.slice none 0 0,.slice none 0 0]) kz fun ei ej ek dw dx ax bY bZ=>?_)
  refine qah (qaj bY bZ (oi:=3) (cs:=[.int .i64 bL,.slice bQ bM.length bR,.bool bN,.slice bS bO.length bT,.slice bU bP.length bV]) kz fun em ay b0 b5=>?_)
  refine qae (qaa ?_)
  refine qcB 7 kz b0 fun eo aA ag b6=>?_
  refine qbg [0,1,2] [(1,.p 0 0),(2,.p 1 0),(3,.p 2 0),(16,.v (.slice A8 l4.length c9)),(17,.v (.int .i64 ((l4.length:Nat):Int))),(18,.v (.int .i64 ((k:Nat):Int))),(23,.v (.slice A_ k c_)),(24,.v (.agg #[.int .i64 bL,.slice bQ bM.length bR,.bool bN,.slice bS bO.length bT,.slice bU bP.length bV]))] 5 (qaf (qab (qab (qaf (qab qal))))) (fun _ h=>h.cells) b6 b5 fun ep b8=>?_
  refine qaH (i:=3) kz (qai b8 (f:=10) (vs:=[.agg #[.int .i64 bL,.slice bQ bM.length bR,.bool bN,.slice bS bO.length bT,.slice bU bP.length bV]]) (d:=25) kz Tryz.call10 ( hg _ _ _ _ (bE.move ag.step nilM ag.imm) (by have h_:=qhj bD; rw [qgr] at hd; omega)) ?_)
  rintro e_ eu ⟨dy,rfl,ca,aB⟩
  have aC:=ca.move (Step.refl _ Nil) nilM (ag.laid (G:=F) aB)
  obtain ⟨aD,aE,aF,aG,aH,aI,aJ,aK,aL,aM,aN,dA,dB,aO,c8,da,ev,ew⟩:=aC.open_
  rw [aO] at aC
  have db:=c8.small
  have dc:=da.small
  rw [aO]
  refine ⟨_,rfl,fun ey cb=>?_⟩
  have bi:=ag.next_nil aB
  have ae:=ag.frN aB
  have cc:=TT.ofW ae bi
  refine ⟨fun _=>cc,?_⟩
  refine qaH (i:=4) kz (qb1 bi cb (e:=39) (size:=5) (len:=1) (cs:=[.int .i64 aD,.slice aI aE.length aJ,.bool aF,.slice aK aG.length aL,.slice aM aH.length aN]) (d:=26) kz kz fun de ez eA dC dD aa au cd=>?_)
  have ce:=TT.ofW (ae.trans aa) au
  refine ⟨fun _=>ce,?_⟩
  refine qaH (i:=5) kz (qaU au cd (k:=0) (d:=27) (t:=36) (e:=39) (size:=5) (bytes:=88) (A:=A_) (As:=(some ⟨de,0,none⟩)) (m0:=k) (c:=c_) (m:=1) (cs:=1) (xs:=xs) (news:=[.int .i64 aD,.slice aI aE.length aJ,.bool aF,.slice aK aG.length aL,.slice aM aH.length aN]) kz kz rfl (qbL (au.own 1 _ rfl) (qbq kz)) (qb0 (au.own 1 _ rfl)) (by omega) fun aP aQ eB eC af bj cg=>?_)
  have bk:=TT.ofW ((ae.trans aa).trans af) bj
  refine ⟨fun _=>bk,?_⟩
  refine qbg [6] [(1,.p 0 0),(2,.p 1 0),(3,.p 2 0),(16,.v (.slice A8 l4.length c9)),(17,.v (.int .i64 ((l4.length:Nat):Int))),(18,.v (.int .i64 ((k:Nat):Int))),(27,.v (.slice aP (k + 1) aQ)),(28,.p 2 3)] 1 (qaf (qab (qab (qaf (qab qal))))) (fun _ h=>h.cells) bk cg fun eD cl=>?_
  refine qaH (i:=7) kz (qaj bj cl (oi:=2) (cs:=[.int .i64 n1,.slice A6 s2.length c7,.bool b3,.slice aP (k + 1) aQ,.slice none 0 0]) kz fun eE ah bn cm=>?_)
  refine ⟨fun h=>absurd rfl h,?_⟩
  refine qbb kz ?_ _
  refine qas ?_
  refine qaa ?_
  refine qap [0,1] kz ?_
  refine qak [0,1] [] [(1,.p 0 0),(2,.p 1 0),(3,.p 2 0),(16,.v (.slice A8 l4.length c9)),(17,.v (.int .i64 ((l4.length:Nat):Int))),(18,.v (.int .i64 (IntKind.i64.wrap (((k:Nat):Int) + 1))))] bn cm fun eF cq=>?_
  refine qae (qaa ?_)
  obtain ⟨bp,cr,ai⟩:=bn.cutB cq 3 [⟨bG,0,[.int .i64 n1,.slice A6 s2.length c7,.bool b3,.slice A8 l4.length c9,.slice ap u5.length ar],true⟩,⟨bH,0,[.int .i64 0,.slice none 0 0,.bool false,.slice none 0 0,.slice none 0 0],true⟩,⟨bI,0,[.int .i64 n1,.slice A6 s2.length c7,.bool b3,.slice aP (k + 1) aQ,.slice none 0 0],true⟩] [(1,.p 0 0),(2,.p 1 0),(3,.p 2 0),(16,.v (.slice A8 l4.length c9)),(17,.v (.int .i64 ((l4.length:Nat):Int))),(18,.v (.int .i64 (IntKind.i64.wrap (((k:Nat):Int) + 1))))]
  obtain ⟨cu,aj⟩:=cr.cutR 1 [⟨aP,aQ,39,5,k + 1,xs ++ [.int .i64 aD,.slice aI aE.length aJ,.bool aF,.slice aK aG.length aL,.slice aM aH.length aN]⟩]
  have cv:IntKind.i64.wrap (((k:Nat):Int) + 1) = ((k + 1:Nat):Int):=qaN (by omega)
  rw [cv] at bp
  exact ⟨l4.length - (k + 1),by omega,k + 1,aP,aQ,xs ++ [Value.int .i64 aD,.slice aI aE.length aJ,.bool aF,.slice aK aG.length aL,.slice aM aH.length aN],(css ++ [[Value.int .i64 aD,.slice aI aE.length aJ,.bool aF,.slice aK aG.length aL,.slice aM aH.length aN]]),rfl,by omega,by rw [qbR bD]; exact (hT.move ((((((((ax.trans ay).trans aA).trans ae).trans aa).trans af).trans ah).trans ai).trans aj).step immM ((((((((ax.trans ay).trans aA).trans ae).trans aa).trans af).trans ah).trans ai).trans aj).to').snoc (aC.move ((((aa.trans af).trans ah).trans ai).trans aj).step immM ((((aa.trans af).trans ah).trans ai).trans aj).to'),bp.pk,cu,(((((((((cZ.trans ax).trans ay).trans aA).trans ae).trans aa).trans af).trans ah).trans ai).trans aj)⟩
 have dE:=of_decide_eq_false bC
 refine wp_exit ?_
 refine qar ?_
 refine qar ?_
 refine qaE ?_
 refine qaa ?_
 refine wp_seq ?_
 refine qaz [(2,.p 1 0),(3,.p 2 0),(31,.v (.slice ap u5.length ar)),(32,.v (.int .i64 ((u5.length:Nat):Int))),(33,.v (.int .i64 0))] aw bB fun eG cw=>?_
 refine wp_block ?_
 have hk0:k = l4.length:=by omega
 have bq:=aw.addNil 65 2
 have br:=aw.frNil 65 2
 refine wp_loop_ghost (fun n_ a_ w_=>∃ (q:Nat) (A5_:Option Addr) (c5_:Nat) (ys:List Value) (dss:List (List Value)),n_ = u5.length - q ∧ q ≤ u5.length ∧ (Tags w_ (Imm F w w_ [⟨bG,0,[.int .i64 n1,.slice A6 s2.length c7,.bool b3,.slice A8 l4.length c9,.slice ap u5.length ar],true⟩,⟨bH,0,[.int .i64 0,.slice none 0 0,.bool false,.slice none 0 0,.slice none 0 0],true⟩,⟨bI,0,[.int .i64 n1,.slice A6 s2.length c7,.bool b3,.slice A_ k c_,.slice A5_ q c5_],true⟩] [⟨A_,c_,39,5,k,xs⟩,⟨A5_,c5_,65,2,q,ys⟩]) ys (u5.take q) dss) ∧ LInv bq 49 [⟨bG,0,[.int .i64 n1,.slice A6 s2.length c7,.bool b3,.slice A8 l4.length c9,.slice ap u5.length ar],true⟩,⟨bH,0,[.int .i64 0,.slice none 0 0,.bool false,.slice none 0 0,.slice none 0 0],true⟩,⟨bI,0,[.int .i64 n1,.slice A6 s2.length c7,.bool b3,.slice A_ k c_,.slice A5_ q c5_],true⟩] [⟨A_,c_,39,5,k,xs⟩,⟨A5_,c5_,65,2,q,ys⟩] [(2,.p 1 0),(3,.p 2 0),(31,.v (.slice ap u5.length ar)),(32,.v (.int .i64 ((u5.length:Nat):Int))),(33,.v (.int .i64 ((q:Nat):Int)))] a_ w_) (u5.length) ⟨0,none,0,[],[],by omega,by omega,Tags.nil _ _,cw.pk,bq,Fr.refl _ _ _⟩ ?_
 rintro eH eI eJ ⟨q,A5_,c5_,ys,dss,dF,dG,hU,cy,ak,aR⟩
 refine qaz [(2,.p 1 0),(3,.p 2 0),(31,.v (.slice ap u5.length ar)),(32,.v (.int .i64 ((u5.length:Nat):Int))),(33,.v (.int .i64 ((q:Nat):Int))),(34,.v (.bool (decide (((q:Nat):Int) < ((u5.length:Nat):Int)))))] ak cy fun eK aS=>?_
 refine wp_seq ?_
 refine qau aS (b:=decide (((q:Nat):Int) < ((u5.length:Nat):Int))) kz (fun aT=>?_) (fun aT=>?_)
 ·
  have dH:=of_decide_eq_true aT
  refine wp_skip ?_
  refine qaa ?_
  refine wp_seq ?_
  refine wp_block ?_
  refine qad [0,1,2,3] kz ?_
  obtain ⟨df,dg,cz,dI,aU⟩:=Slots.get dr (i:=q) (by omega)
  obtain ⟨⟨ab,ac⟩,bt⟩:∃ x,u5[q]? = some x:=⟨_,List.getElem?_eq_getElem (by omega)⟩
  obtain ⟨⟨al,am,bF,cA⟩,dh,di⟩:=dQ q ab ac bt
  rw [bF] at aU
  refine qah (qaM aS (t:=24) (A:=ap) (m:=u5.length) (q:=((q:Nat):Int)) (d:=35) kz (e:=64) (size:=2) (bytes:=32) kz cz rfl (by omega) fun eL cB=>?_)
  refine qah (qa0 cB (t:=64) (b:=df) (o:=dg + q * 2) (d:=36) kz (cs:=[.int .u32 ab,.slice al ac.length am]) (v:=.agg #[.int .u32 ab,.slice al ac.length am]) kz (AtF.move aU ak.step nilM qco).at_ fun eM cC=>?_)
  refine qah (qaw ak cC (d:=7) (cs:=[.int .u32 0,.slice none 0 0]) kz fun eN eO eP dJ dK aV cD cE=>?_)
  refine qah (qaj cD cE (oi:=3) (cs:=[.int .u32 ab,.slice al ac.length am]) kz fun eQ aW bu cG=>?_)
  refine qae (qaa ?_)
  refine qap [0,1,2,3,4,5,6,7,8,9,10] kz ?_
  refine qak [0,1,2,3,4,5,6] [7,8,9,10] [(2,.p 1 0),(3,.p 2 0),(31,.v (.slice ap u5.length ar)),(32,.v (.int .i64 ((u5.length:Nat):Int))),(33,.v (.int .i64 ((q:Nat):Int))),(38,.v (.slice A5_ q c5_)),(43,.v (.agg #[.int .u32 ab,.slice al ac.length am]))] bu cG fun eR cH=>?_
  refine qbl bu cH (k:=1) (e:=65) (size:=2) (len:=1) (cs:=[.int .u32 ab,.slice al ac.length am]) (d1:=44) (d:=45) kz (t:=37) (bytes:=32) kz (fun _=>by kernel_rfl) rfl kz (by omega) fun bd bf eS eT aX bv ⟨_,cI⟩=>?_
  refine qak [9] [10] [(2,.p 1 0),(3,.p 2 0),(31,.v (.slice ap u5.length ar)),(32,.v (.int .i64 ((u5.length:Nat):Int))),(33,.v (.int .i64 ((q:Nat):Int))),(45,.v (.slice bd (q + 1) bf)),(46,.p 2 4)] bv cI fun eU cJ=>?_
  refine qah (qaj bv cJ (oi:=2) (cs:=[.int .i64 n1,.slice A6 s2.length c7,.bool b3,.slice A_ k c_,.slice bd (q + 1) bf]) kz fun eV aY bw cK=>?_)
  refine qae ?_
  refine qas ?_
  refine qaa ?_
  refine qap [0,1] kz ?_
  refine qak [0,1] [] [(2,.p 1 0),(3,.p 2 0),(31,.v (.slice ap u5.length ar)),(32,.v (.int .i64 ((u5.length:Nat):Int))),(33,.v (.int .i64 (IntKind.i64.wrap (((q:Nat):Int) + 1))))] bw cK fun eW cL=>?_
  refine qae (qaa ?_)
  obtain ⟨bz,aZ,ba⟩:=bw.cutB cL 3 [⟨bG,0,[.int .i64 n1,.slice A6 s2.length c7,.bool b3,.slice A8 l4.length c9,.slice ap u5.length ar],true⟩,⟨bH,0,[.int .i64 0,.slice none 0 0,.bool false,.slice none 0 0,.slice none 0 0],true⟩,⟨bI,0,[.int .i64 n1,.slice A6 s2.length c7,.bool b3,.slice A_ k c_,.slice bd (q + 1) bf],true⟩] [(2,.p 1 0),(3,.p 2 0),(31,.v (.slice ap u5.length ar)),(32,.v (.int .i64 ((u5.length:Nat):Int))),(33,.v (.int .i64 (IntKind.i64.wrap (((q:Nat):Int) + 1))))]
  have cM:IntKind.i64.wrap (((q:Nat):Int) + 1) = ((q + 1:Nat):Int):=qaN (by omega)
  rw [cM] at bz
  exact ⟨u5.length - (q + 1),by omega,q + 1,bd,bf,ys ++ [Value.int .u32 ab,.slice al ac.length am],(dss ++ [[Value.int .u32 ab,.slice al ac.length am]]),rfl,by omega,by rw [qbR bt]; exact (hU.move ((((aV.trans aW).trans aX).trans aY).trans ba).step immM ((((aV.trans aW).trans aX).trans aY).trans ba).to').snoc (c:=[.int .u32 ab,.slice al ac.length am]) (x:=(ab,ac)) ⟨⟨_,_,rfl,(cA.move aZ.step nilM aZ.imm)⟩,dh,di⟩,bz.pk,aZ,(((((aR.trans aV).trans aW).trans aX).trans aY).trans ba)⟩
 have dL:=of_decide_eq_false aT
 refine wp_exit ?_
 refine qar ?_
 refine qar ?_
 refine qaE ?_
 refine qaa ?_
 refine qad [0,1] kz ?_
 refine qak [0] [1] [(2,.p 1 0),(48,.v (.agg #[.int .i64 n1,.slice A6 s2.length c7,.bool b3,.slice A_ k c_,.slice A5_ q c5_]))] ak aS fun eX cN=>?_
 refine qah (qaj ak cN (oi:=1) (cs:=[.int .i64 n1,.slice A6 s2.length c7,.bool b3,.slice A_ k c_,.slice A5_ q c5_]) kz fun eY av ao cO=>?_)
 refine qae (qaa ?_)
 refine wp_ret ?_
 refine qaV cO ao.cells (v:=.agg #[.int .i64 n1,.slice A6 s2.length c7,.bool b3,.slice A_ k c_,.slice A5_ q c5_]) kz ?_
 have hq0:q = u5.length:=by omega
 have hT':=(hT.move ((br.trans aR).trans av).step immM ((br.trans aR).trans av).to')
 have hU':=(hU.move av.step immM av.to')
 rw [show l4.take k = l4 by rw [hk0,List.take_length]] at hT'
 rw [show u5.take q = u5 by rw [hq0,List.take_length]] at hU'
 exact qcK ao rfl (dj.move ao.step nilM qkh) hk0 (qez ao (k:=0) rfl hT' hk0 (by omega)) hq0 (qiL ao (k:=1) rfl hU' hq0 (by omega)) rfl
theorem qj4:∀ m,qi7 m
 | 0=>fun ct t w F ht hd=>by
  obtain ⟨n,s,b,l,u,A1,c1,A2,c2,A3,c3,xs,rfl,_⟩:=ht.open_
  rw [qgr] at hd; omega
 | m + 1=>qg7 (qj4 m)
def qjJ (d:Nat):Prop:=∀ (A:Option Addr) (c:Nat) (l:List Fld) (v:Int) (ct:List Value) (t:Tree) (w:World) (F:Nat → Nat → Prop),FldsR w F A c l → plains l → depths l ≤ d → TreeR w F ct t →
  Calls Tryz.prog 11 #[.slice A l.length c,.int .i64 v,.agg ct.toArray] w (qen w F (fitT v d l t))
theorem qe2 {d:Nat} (hfit:qjJ d) (cf:List Value) (f:Fld) (v:Int) (ct:List Value) (t:Tree) (w:World) (F:Nat → Nat → Prop) (hf:FldR w F cf f) (hpl:plains f.sub) (hd:depths f.sub ≤ d) (aS:f.kind ≠ 11) (ht:TreeR w F ct t) :
  Calls Tryz.prog 21 #[.agg cf.toArray,.int .i64 v,.agg ct.toArray] w (qen w F (qbf (fitT v d) f (f.nul v t) t)):=by
 obtain ⟨n1,s2,b3,l4,u5,A6,c7,A8,c9,aX,aY,cz,rfl,rfl,aW,cA,dp,dq⟩:=ht.open_
 have b5:=aW.small
 have b6:=cA.small
 obtain ⟨ab,ai,aj,ak,al,am,ao,ac,aZ,ba,bH,rfl,rfl,b8,cB⟩:=hf.open_
 have ca:=b8.small
 have aS:ab ≠ 11:=aS
 refine enter (n:=82) Tryz.func21 rfl Tryz.ntmps21 kz fun a hE=>?_
 have hW:=WOk.start w Nil
 refine qad [0,1,2] kz ?_
 refine qah (qa9 hW hE (d:=3) (cs:=[.int .i64 ab,.int .i64 ai,.int .i64 aj,.int .i64 ak,.int .i64 al,.int .i64 am,.int .i64 ao,.slice aZ ac.length ba]) kz fun dr dt du cC cD cE bI bJ=>?_)
 refine qah (qa9 bI bJ (d:=5) (cs:=[.int .i64 n1,.slice A6 s2.length c7,.bool b3,.slice A8 l4.length c9,.slice aX u5.length aY]) kz fun dv dw dx cG cH cI bK bL=>?_)
 refine qah (qaw bK bL (d:=6) (cs:=[.int .i64 0,.slice none 0 0,.bool false,.slice none 0 0,.slice none 0 0]) kz fun dy dA dB cJ cK cL aT bM=>?_)
 refine qae (qaa ?_)
 refine qad [0,1,2,3,4] kz ?_
 refine qak [0,1,2] [3,4] [(1,.v (.int .i64 v)),(3,.p 0 0),(5,.p 1 0),(6,.p 2 0),(13,.v (.agg #[.int .i64 ab,.int .i64 ai,.int .i64 aj,.int .i64 ak,.int .i64 al,.int .i64 am,.int .i64 ao,.slice aZ ac.length ba])),(14,.v (.int .i64 v)),(15,.v (.agg #[.int .i64 n1,.slice A6 s2.length c7,.bool b3,.slice A8 l4.length c9,.slice aX u5.length aY]))] aT bM fun dC bN=>?_
 refine qah (qai bN (f:=48) (vs:=[.agg #[.int .i64 ab,.int .i64 ai,.int .i64 aj,.int .i64 ak,.int .i64 al,.int .i64 am,.int .i64 ao,.slice aZ ac.length ba],.int .i64 v,.agg #[.int .i64 n1,.slice A6 s2.length c7,.bool b3,.slice A8 l4.length c9,.slice aX u5.length aY]]) (d:=16) kz Tryz.call48 (qkn ab ai aj ak al am ao ac _ _ v n1 s2 b3 l4 u5 _ _ _ _ _ _ _) ?_)
 rintro e_ dD ⟨rfl,bd⟩
 refine ⟨_,rfl,fun dE bO=>?_⟩
 have aa:=aT.next_nil bd
 have cM:=aT.frN bd
 refine qak [4] [] [(1,.v (.int .i64 v)),(3,.p 0 0),(5,.p 1 0),(6,.p 2 0),(7,.v (.bool (Fld.nul (Fld.mk ab ai aj ak al am ao ac) v (Tree.mk n1 s2 b3 l4 u5))))] aa bO fun dF bP=>?_
 refine qae (qaa ?_)
 refine wp_seq ?_
 refine qaz [(1,.v (.int .i64 v)),(3,.p 0 0),(5,.p 1 0),(6,.p 2 0),(7,.v (.bool (Fld.nul (Fld.mk ab ai aj ak al am ao ac) v (Tree.mk n1 s2 b3 l4 u5)))),(18,.v (.int .i64 ab))] aa bP fun dG bQ=>?_
 refine wp_block ?_
 refine wp_seq ?_
 refine qaz [(1,.v (.int .i64 v)),(3,.p 0 0),(5,.p 1 0),(6,.p 2 0),(7,.v (.bool (Fld.nul (Fld.mk ab ai aj ak al am ao ac) v (Tree.mk n1 s2 b3 l4 u5)))),(18,.v (.int .i64 ab)),(19,.v (.bool (ab == 8)))] aa bQ fun dH aJ=>?_
 refine qau aJ (b:=ab == 8) kz (fun aK=>?_) (fun aK=>?_)
 ·
  have cN:ab = 8:=by simpa using aK
  refine wp_skip ?_
  refine qaa ?_
  refine qcS aJ (b:=ab == 8) kz (aK) ?_
  refine qad [0,1,2,3,4,5] kz ?_
  refine qak [0,1] [2,3,4,5] [(6,.p 2 0),(7,.v (.bool (Fld.nul (Fld.mk ab ai aj ak al am ao ac) v (Tree.mk n1 s2 b3 l4 u5)))),(23,.v (.slice A6 s2.length c7))] aa aJ fun dI bR=>?_
  have cb:=qbn s2
  refine qah (qai bR (f:=24) (vs:=[.slice A6 s2.length c7]) (d:=24) kz Tryz.call24 (qfF _ _ s2 (aW.move aa.step nilM aa.imm).le _) ?_)
  rintro e_ dJ ⟨rfl,bf⟩
  refine ⟨_,rfl,fun dK bS=>?_⟩
  have bg:=aa.next_nil bf
  have cO:=aa.frN bf
  refine qak [3,4] [5] [(6,.p 2 0),(26,.v (.agg #[.int .i64 0,.slice A6 ((qay s2).length) c7,.bool (Fld.nul (Fld.mk ab ai aj ak al am ao ac) v (Tree.mk n1 s2 b3 l4 u5)),.slice none 0 0,.slice none 0 0]))] bg bS fun dL bT=>?_
  refine qah (qaj bg bT (oi:=2) (cs:=[.int .i64 0,.slice A6 ((qay s2).length) c7,.bool (Fld.nul (Fld.mk ab ai aj ak al am ao ac) v (Tree.mk n1 s2 b3 l4 u5)),.slice none 0 0,.slice none 0 0]) kz fun dM cP aL bU=>?_)
  refine qae (qaa ?_)
  refine wp_ret ?_
  refine qaR ?_
  refine qaB ?_
  refine qaV bU aL.cells (v:=.agg #[.int .i64 0,.slice A6 ((qay s2).length) c7,.bool (Fld.nul (Fld.mk ab ai aj ak al am ao ac) v (Tree.mk n1 s2 b3 l4 u5)),.slice none 0 0,.slice none 0 0]) kz ?_
  exact qcK aL rfl (((aW.take 32767).move aL.step nilM aL.imm).move (Step.refl _ Nil) nilM qcf) rfl (qgY _ _) rfl (TagsR.nil _ _) (qhl (by omega))
 have cQ:ab ≠ 8:=by simpa using aK
 refine qap [0,1] kz ?_
 refine qak [0,1] [] [(1,.v (.int .i64 v)),(3,.p 0 0),(5,.p 1 0),(6,.p 2 0),(7,.v (.bool (Fld.nul (Fld.mk ab ai aj ak al am ao ac) v (Tree.mk n1 s2 b3 l4 u5)))),(18,.v (.int .i64 ab)),(19,.v (.bool (ab == 9)))] aa aJ fun dN aU=>?_
 refine qae (qaa ?_)
 refine qau aU (b:=ab == 9) kz (fun aV=>?_) (fun aV=>?_)
 ·
  have cR:ab = 9:=by simpa using aV
  refine qad [0,1,2,3,4,5] kz ?_
  refine qak [0,1] [2,3,4,5] [(6,.p 2 0),(7,.v (.bool (Fld.nul (Fld.mk ab ai aj ak al am ao ac) v (Tree.mk n1 s2 b3 l4 u5)))),(23,.v (.slice A6 s2.length c7))] aa aU fun dO bV=>?_
  have cc:=qbn s2
  refine qah (qai bV (f:=24) (vs:=[.slice A6 s2.length c7]) (d:=24) kz Tryz.call24 (qfF _ _ s2 (aW.move aa.step nilM aa.imm).le _) ?_)
  rintro e_ cS ⟨rfl,bh⟩
  refine ⟨_,rfl,fun cT bi=>?_⟩
  have aM:=aa.next_nil bh
  have cd:=aa.frN bh
  refine qak [3,4] [5] [(6,.p 2 0),(26,.v (.agg #[.int .i64 0,.slice A6 ((qay s2).length) c7,.bool (Fld.nul (Fld.mk ab ai aj ak al am ao ac) v (Tree.mk n1 s2 b3 l4 u5)),.slice none 0 0,.slice none 0 0]))] aM bi fun cV bj=>?_
  refine qah (qaj aM bj (oi:=2) (cs:=[.int .i64 0,.slice A6 ((qay s2).length) c7,.bool (Fld.nul (Fld.mk ab ai aj ak al am ao ac) v (Tree.mk n1 s2 b3 l4 u5)),.slice none 0 0,.slice none 0 0]) kz fun cW ce ap bk=>?_)
  refine qae (qaa ?_)
  refine wp_ret ?_
  refine qaR ?_
  refine qaB ?_
  refine qaV bk ap.cells (v:=.agg #[.int .i64 0,.slice A6 ((qay s2).length) c7,.bool (Fld.nul (Fld.mk ab ai aj ak al am ao ac) v (Tree.mk n1 s2 b3 l4 u5)),.slice none 0 0,.slice none 0 0]) kz ?_
  exact qcK ap rfl (((aW.take 32767).move ap.step nilM ap.imm).move (Step.refl _ Nil) nilM qcf) rfl (qgY _ _) rfl (TagsR.nil _ _) (qhl (by omega))
 have cg:ab ≠ 9:=by simpa using aV
 refine qaz [(1,.v (.int .i64 v)),(3,.p 0 0),(5,.p 1 0),(6,.p 2 0),(7,.v (.bool (Fld.nul (Fld.mk ab ai aj ak al am ao ac) v (Tree.mk n1 s2 b3 l4 u5)))),(18,.v (.int .i64 ab)),(27,.v (.bool (ab == 10)))] aa aU fun cX au=>?_
 refine qau au (b:=ab == 10) kz (fun av=>?_) (fun av=>?_)
 ·
  have cl:ab = 10:=by simpa using av
  refine qad [0,1,2,3,4,5,6] kz ?_
  refine qak [0,1,2,3] [4,5,6] [(6,.p 2 0),(7,.v (.bool (Fld.nul (Fld.mk ab ai aj ak al am ao ac) v (Tree.mk n1 s2 b3 l4 u5)))),(30,.v (.slice aZ ac.length ba)),(31,.v (.int .i64 v)),(32,.v (.agg #[.int .i64 n1,.slice A6 s2.length c7,.bool b3,.slice A8 l4.length c9,.slice aX u5.length aY]))] aa au fun cY bn=>?_
  refine qah (qai bn (f:=11) (vs:=[.slice aZ ac.length ba,.int .i64 v,.agg #[.int .i64 n1,.slice A6 s2.length c7,.bool b3,.slice A8 l4.length c9,.slice aX u5.length aY]]) (d:=33) kz Tryz.call11 ( hfit _ _ ac v _ (Tree.mk n1 s2 b3 l4 u5) _ _ ⟨bH,(b8.move aa.step nilM aa.imm),(fun i_ x_ h_=>((cB i_ x_ h_).move aa.step nilM aa.imm))⟩ hpl hd (ht.move aa.step nilM aa.imm)) ?_)
  rintro e_ cZ ⟨cm,rfl,bp,aw⟩
  have aN:=bp.move (Step.refl _ Nil) nilM (aa.laid (G:=F) aw)
  obtain ⟨ax,ay,bW,aA,aB,aC,aD,aE,aF,aG,aH,cq,bq,aI,br,bt,bX,bY⟩:=aN.open_
  rw [aI] at aN
  have bZ:=br.small
  have b0:=bt.small
  rw [aI]
  refine ⟨_,rfl,fun c5 bu=>?_⟩
  have bv:=aa.next_nil aw
  have cr:=aa.frN aw
  refine qah (qaw bv bu (d:=8) (cs:=[.int .i64 0,.slice none 0 0,.bool false,.slice none 0 0,.slice none 0 0]) kz fun c8 da db cu cv ae bw bz=>?_)
  refine qah (qaj bw bz (oi:=3) (cs:=[.int .i64 ax,.slice aC ay.length aD,.bool bW,.slice aE aA.length aF,.slice aG aB.length aH]) kz fun dc af aO bA=>?_)
  refine qae (qaa ?_)
  refine qad [0,1,2] kz ?_
  refine qak [0,1] [2] [(6,.p 2 0),(8,.p 3 0),(34,.v (.bool (Fld.nul (Fld.mk ab ai aj ak al am ao ac) v (Tree.mk n1 s2 b3 l4 u5)))),(35,.p 3 2)] aO bA fun de bB=>?_
  refine qah (qaj aO bB (oi:=3) (cs:=[.int .i64 ax,.slice aC ay.length aD,.bool (Fld.nul (Fld.mk ab ai aj ak al am ao ac) v (Tree.mk n1 s2 b3 l4 u5)),.slice aE aA.length aF,.slice aG aB.length aH]) kz fun df ag aP bC=>?_)
  refine qae (qaa ?_)
  refine qad [0,1] kz ?_
  refine qak [0] [1] [(6,.p 2 0),(36,.v (.agg #[.int .i64 ax,.slice aC ay.length aD,.bool (Fld.nul (Fld.mk ab ai aj ak al am ao ac) v (Tree.mk n1 s2 b3 l4 u5)),.slice aE aA.length aF,.slice aG aB.length aH]))] aP bC fun dg bD=>?_
  refine qah (qaj aP bD (oi:=2) (cs:=[.int .i64 ax,.slice aC ay.length aD,.bool (Fld.nul (Fld.mk ab ai aj ak al am ao ac) v (Tree.mk n1 s2 b3 l4 u5)),.slice aE aA.length aF,.slice aG aB.length aH]) kz fun dh ah aQ bE=>?_)
  refine qae (qaa ?_)
  refine wp_ret ?_
  refine qaR ?_
  refine qaB ?_
  refine qaV bE aQ.cells (v:=.agg #[.int .i64 ax,.slice aC ay.length aD,.bool (Fld.nul (Fld.mk ab ai aj ak al am ao ac) v (Tree.mk n1 s2 b3 l4 u5)),.slice aE aA.length aF,.slice aG aB.length aH]) kz ?_
  exact qcK aQ rfl ((br.move (((ae.trans af).trans ag).trans ah).step immM (((ae.trans af).trans ag).trans ah).to').move (Step.refl _ Nil) nilM qcf) rfl ⟨(bt.move (((ae.trans af).trans ag).trans ah).step immM (((ae.trans af).trans ag).trans ah).to').move (Step.refl _ Nil) nilM qcf,fun i_ x_ h_=>((fun i_ x_ h_=>((bX i_ x_ h_).move (((ae.trans af).trans ag).trans ah).step immM (((ae.trans af).trans ag).trans ah).to')) i_ x_ h_).move (Step.refl _ Nil) nilM qcf⟩ rfl ((bY.move (((ae.trans af).trans ag).trans ah).step immM (((ae.trans af).trans ag).trans ah).to').move (Step.refl _ Nil) nilM qcf) (qiM ‹_› ‹_› ‹_› bq)
 have cw:ab ≠ 10:=by simpa using av
 refine qaz [(1,.v (.int .i64 v)),(3,.p 0 0),(5,.p 1 0),(6,.p 2 0),(7,.v (.bool (Fld.nul (Fld.mk ab ai aj ak al am ao ac) v (Tree.mk n1 s2 b3 l4 u5)))),(37,.v (.bool (ab == 11)))] aa au fun di aR=>?_
 refine qbx aR (b:=ab == 11) kz (by simpa using aS) ?_
 refine wp_skip ?_
 refine qas ?_
 refine qaa ?_
 refine qad [0,1,2,3,4,5] kz ?_
 refine qak [0,1,2,3,4] [5] [(6,.p 2 0),(81,.v (.agg #[.int .i64 n1,.slice A6 s2.length c7,.bool false,.slice none 0 0,.slice none 0 0]))] aa aR fun dj bF=>?_
 refine qah (qaj aa bF (oi:=2) (cs:=[.int .i64 n1,.slice A6 s2.length c7,.bool false,.slice none 0 0,.slice none 0 0]) kz fun dl cy ar bG=>?_)
 refine qae (qaa ?_)
 refine wp_ret ?_
 refine qaV bG ar.cells (v:=.agg #[.int .i64 n1,.slice A6 s2.length c7,.bool false,.slice none 0 0,.slice none 0 0]) kz ?_
 exact qcK ar rfl ((aW.move ar.step nilM ar.imm).move (Step.refl _ Nil) nilM qcf) rfl (qgY _ _) rfl (TagsR.nil _ _) (qgZ ‹_› ‹_› ‹_›)
theorem qi8 {d:Nat} (hfit:qjJ d) (cf:List Value) (f:Fld) (v:Int) (ct:List Value) (t:Tree) (w:World) (F:Nat → Nat → Prop) (hf:FldR w F cf f) (hpl:f.plain) (hd:depths f.sub ≤ d) (aE:f.kind = 11) (ht:TreeR w F ct t) :
  Calls Tryz.prog 21 #[.agg cf.toArray,.int .i64 v,.agg ct.toArray] w (qen w F (qbJ (fitT v d) v f t)):=by
 obtain ⟨n1,s2,b3,l4,u5,A6,c7,A8,c9,bu,bv,kC,rfl,rfl,kD,ev,hX,nl⟩:=ht.open_
 have jd:=kD.small
 have je:=ev.small
 obtain ⟨ai,ac,ae,ak,aj,af,aa,ab,ag,ah,ew,rfl,rfl,hP,hY⟩:=hf.open_
 have jf:=hP.small
 have aE:ai = 11:=aE
 have hof:aa ≠ 11:=hpl.1
 refine enter (n:=82) Tryz.func21 rfl Tryz.ntmps21 kz fun a hE=>?_
 have hW:=WOk.start w Nil
 refine qad [0,1,2] kz ?_
 refine qah (qa9 hW hE (d:=3) (cs:=[.int .i64 ai,.int .i64 ac,.int .i64 ae,.int .i64 ak,.int .i64 aj,.int .i64 af,.int .i64 aa,.slice ag ab.length ah]) kz fun dE nm np kE kF kG hZ ia=>?_)
 refine qah (qa9 hZ ia (d:=5) (cs:=[.int .i64 n1,.slice A6 s2.length c7,.bool b3,.slice A8 l4.length c9,.slice bu u5.length bv]) kz fun dF nr ns kH kI kJ ib ic=>?_)
 refine qah (qaw ib ic (d:=6) (cs:=[.int .i64 0,.slice none 0 0,.bool false,.slice none 0 0,.slice none 0 0]) kz fun dG nt nu kK kL kM ey ig=>?_)
 refine qae (qaa ?_)
 refine qad [0,1,2,3,4] kz ?_
 refine qak [0,1,2] [3,4] [(1,.v (.int .i64 v)),(3,.p 0 0),(5,.p 1 0),(6,.p 2 0),(13,.v (.agg #[.int .i64 ai,.int .i64 ac,.int .i64 ae,.int .i64 ak,.int .i64 aj,.int .i64 af,.int .i64 aa,.slice ag ab.length ah])),(14,.v (.int .i64 v)),(15,.v (.agg #[.int .i64 n1,.slice A6 s2.length c7,.bool b3,.slice A8 l4.length c9,.slice bu u5.length bv]))] ey ig fun nv ii=>?_
 refine qah (qai ii (f:=48) (vs:=[.agg #[.int .i64 ai,.int .i64 ac,.int .i64 ae,.int .i64 ak,.int .i64 aj,.int .i64 af,.int .i64 aa,.slice ag ab.length ah],.int .i64 v,.agg #[.int .i64 n1,.slice A6 s2.length c7,.bool b3,.slice A8 l4.length c9,.slice bu u5.length bv]]) (d:=16) kz Tryz.call48 (qkn ai ac ae ak aj af aa ab _ _ v n1 s2 b3 l4 u5 _ _ _ _ _ _ _) ?_)
 rintro e_ nw ⟨rfl,eE⟩
 refine ⟨_,rfl,fun nx ij=>?_⟩
 have al:=ey.next_nil eE
 have kN:=ey.frN eE
 refine qak [4] [] [(1,.v (.int .i64 v)),(3,.p 0 0),(5,.p 1 0),(6,.p 2 0),(7,.v (.bool (Fld.nul (Fld.mk ai ac ae ak aj af aa ab) v (Tree.mk n1 s2 b3 l4 u5))))] al ij fun ny ik=>?_
 refine qae (qaa ?_)
 refine wp_seq ?_
 refine qaz [(1,.v (.int .i64 v)),(3,.p 0 0),(5,.p 1 0),(6,.p 2 0),(7,.v (.bool (Fld.nul (Fld.mk ai ac ae ak aj af aa ab) v (Tree.mk n1 s2 b3 l4 u5)))),(18,.v (.int .i64 ai))] al ik fun nz il=>?_
 refine wp_block ?_
 refine wp_seq ?_
 refine qaz [(1,.v (.int .i64 v)),(3,.p 0 0),(5,.p 1 0),(6,.p 2 0),(7,.v (.bool (Fld.nul (Fld.mk ai ac ae ak aj af aa ab) v (Tree.mk n1 s2 b3 l4 u5)))),(18,.v (.int .i64 ai)),(19,.v (.bool (ai == 8)))] al il fun nA eF=>?_
 refine qbx eF (b:=ai == 8) kz (by simp [aE]) ?_
 refine qap [0,1] kz ?_
 refine qak [0,1] [] [(1,.v (.int .i64 v)),(3,.p 0 0),(5,.p 1 0),(6,.p 2 0),(7,.v (.bool (Fld.nul (Fld.mk ai ac ae ak aj af aa ab) v (Tree.mk n1 s2 b3 l4 u5)))),(18,.v (.int .i64 ai)),(19,.v (.bool (ai == 9)))] al eF fun nB eG=>?_
 refine qae (qaa ?_)
 refine qbx eG (b:=ai == 9) kz (by simp [aE]) ?_
 refine qaz [(1,.v (.int .i64 v)),(3,.p 0 0),(5,.p 1 0),(6,.p 2 0),(7,.v (.bool (Fld.nul (Fld.mk ai ac ae ak aj af aa ab) v (Tree.mk n1 s2 b3 l4 u5)))),(18,.v (.int .i64 ai)),(27,.v (.bool (ai == 10)))] al eG fun nC eH=>?_
 refine qbx eH (b:=ai == 10) kz (by simp [aE]) ?_
 refine qaz [(1,.v (.int .i64 v)),(3,.p 0 0),(5,.p 1 0),(6,.p 2 0),(7,.v (.bool (Fld.nul (Fld.mk ai ac ae ak aj af aa ab) v (Tree.mk n1 s2 b3 l4 u5)))),(37,.v (.bool (ai == 11)))] al eH fun nD eI=>?_
 refine qcS eI (b:=ai == 11) kz (by simpa using aE) ?_
 refine qad [0,1,2,3,4,5,6,7,8,9,10,11,12,13,14] kz ?_
 refine qak [0,1] [2,3,4,5,6,7,8,9,10,11,12,13,14] [(1,.v (.int .i64 v)),(3,.p 0 0),(5,.p 1 0),(6,.p 2 0),(40,.v (.bool (Fld.nul (Fld.mk ai ac ae ak aj af aa ab) v (Tree.mk n1 s2 b3 l4 u5))))] al eI fun nE eJ=>?_
 refine (Bool.eq_false_or_eq_true (Fld.nul (Fld.mk ai ac ae ak aj af aa ab) v (Tree.mk n1 s2 b3 l4 u5))).elim (fun aX=>?_) (fun aX=>?_)
 ·
  have im:=eJ.cast (env':=[(1,.v (.int .i64 v)),(3,.p 0 0),(5,.p 1 0),(6,.p 2 0),(40,.v (.bool true))]) (by rw [aX])
  refine qak [2,3,4,5,6,7,8,9,10,11,12] [13,14] [(1,.v (.int .i64 v)),(3,.p 0 0),(5,.p 1 0),(6,.p 2 0),(51,.v (.agg #[.int .i64 0,.slice none 0 0,.bool true,.slice none 0 0,.slice none 0 0]))] al im fun nF io=>?_
  refine qah (qaw al io (d:=9) (cs:=[.int .i64 0,.slice none 0 0,.bool false,.slice none 0 0,.slice none 0 0]) kz fun ip nG nH kO kP kQ iq ir=>?_)
  refine qah (qaj iq ir (oi:=3) (cs:=[.int .i64 0,.slice none 0 0,.bool true,.slice none 0 0,.slice none 0 0]) kz fun nI kR eK iu=>?_)
  refine qae (qaa ?_)
  refine qad [0,1,2] kz ?_
  refine qak [0] [1,2] [(1,.v (.int .i64 v)),(3,.p 0 0),(5,.p 1 0),(6,.p 2 0),(9,.p 3 0),(52,.v (.agg #[.int .i64 ai,.int .i64 ac,.int .i64 ae,.int .i64 ak,.int .i64 aj,.int .i64 af,.int .i64 aa,.slice ag ab.length ah]))] eK iu fun nJ eL=>?_
  refine qah (qaw eK eL (d:=10) (cs:=[.int .i64 0,.int .i64 0,.int .i64 0,.int .i64 0,.int .i64 0,.int .i64 0,.int .i64 0,.slice none 0 0]) kz fun ez kS kT jg jh ji eM eN=>?_)
  refine qah (qaj eM eN (oi:=4) (cs:=[.int .i64 ai,.int .i64 ac,.int .i64 ae,.int .i64 ak,.int .i64 aj,.int .i64 af,.int .i64 aa,.slice ag ab.length ah]) kz fun kU jj dH eO=>?_)
  refine qae (qaa ?_)
  refine qad [0,1,2,3,4,5,6,7] kz ?_
  refine qak [0,1,2] [3,4,5,6,7] [(1,.v (.int .i64 v)),(5,.p 1 0),(6,.p 2 0),(9,.p 3 0),(10,.p 4 0),(54,.v (.int .i64 aa)),(55,.p 4 0)] dH eO fun kV eP=>?_
  refine qah (qaj dH eP (oi:=4) (cs:=[.int .i64 aa,.int .i64 ac,.int .i64 ae,.int .i64 ak,.int .i64 aj,.int .i64 af,.int .i64 aa,.slice ag ab.length ah]) kz fun kW jk dI eQ=>?_)
  refine qak [4] [5,6,7] [(1,.v (.int .i64 v)),(5,.p 1 0),(6,.p 2 0),(9,.p 3 0),(10,.p 4 0),(56,.p 4 3)] dI eQ fun kX eR=>?_
  refine qah (qaj dI eR (oi:=4) (cs:=[.int .i64 aa,.int .i64 ac,.int .i64 ae,.int .i64 (-1),.int .i64 aj,.int .i64 af,.int .i64 aa,.slice ag ab.length ah]) kz fun kY jl dJ eS=>?_)
  refine qak [6] [7] [(1,.v (.int .i64 v)),(5,.p 1 0),(6,.p 2 0),(9,.p 3 0),(10,.p 4 0),(57,.p 4 4)] dJ eS fun kZ eT=>?_
  refine qah (qaj dJ eT (oi:=4) (cs:=[.int .i64 aa,.int .i64 ac,.int .i64 ae,.int .i64 (-1),.int .i64 (-1),.int .i64 af,.int .i64 aa,.slice ag ab.length ah]) kz fun k6 jm aF eU=>?_)
  refine qae (qaa ?_)
  refine wp_seq ?_
  refine qad [0,1,2,3,4] kz ?_
  refine qak [0,1] [2,3,4] [(1,.v (.int .i64 v)),(6,.p 2 0),(9,.p 3 0),(10,.p 4 0),(59,.v (.slice A8 l4.length c9))] aF eU fun k7 eV=>?_
  refine qah (qai eV (f:=49) (vs:=[.slice A8 l4.length c9]) (d:=60) kz Tryz.call49 (qf7 _ _ l4 (ev.move aF.step nilM aF.imm).le _) ?_)
  rintro e_ k8 ⟨rfl,dK⟩
  refine ⟨_,rfl,fun k9 eW=>?_⟩
  have bw:=aF.next_nil dK
  have jn:=aF.frN dK
  refine qak [3,4] [] [(1,.v (.int .i64 v)),(6,.p 2 0),(9,.p 3 0),(10,.p 4 0),(60,.v (.slice A8 ((qam l4).length) c9)),(61,.v (.int .i64 (((qam l4).length:Nat):Int))),(62,.v (.int .i64 0))] bw eW fun la eX=>?_
  refine qae (qaa ?_)
  refine wp_block ?_
  have dL:=bw.addNil 26 5
  have jo:=bw.frNil 26 5
  have hsm3:(qam l4).length ≤ 32767:=qci _
  refine wp_loop_ghost (fun n_ a_ w_=>∃ (k:Nat) (A_:Option Addr) (c_:Nat) (xs:List Value) (css:List (List Value)),n_ = (qam l4).length - k ∧ k ≤ (qam l4).length ∧ (Trees w_ (Imm F w w_ [⟨dE,0,[.int .i64 ai,.int .i64 ac,.int .i64 ae,.int .i64 ak,.int .i64 aj,.int .i64 af,.int .i64 aa,.slice ag ab.length ah],true⟩,⟨dF,0,[.int .i64 n1,.slice A6 s2.length c7,.bool b3,.slice A8 l4.length c9,.slice bu u5.length bv],true⟩,⟨dG,0,[.int .i64 0,.slice none 0 0,.bool false,.slice none 0 0,.slice none 0 0],true⟩,⟨ip,0,[.int .i64 0,.slice none 0 0,.bool true,.slice A_ k c_,.slice none 0 0],true⟩,⟨ez,0,[.int .i64 aa,.int .i64 ac,.int .i64 ae,.int .i64 (-1),.int .i64 (-1),.int .i64 af,.int .i64 aa,.slice ag ab.length ah],true⟩] [⟨A_,c_,26,5,k,xs⟩]) xs ((fitL (fitT v d) v (Fld.mk aa ac ae (-1) (-1) af aa ab) l4).take k) css) ∧ LInv dL 82 [⟨dE,0,[.int .i64 ai,.int .i64 ac,.int .i64 ae,.int .i64 ak,.int .i64 aj,.int .i64 af,.int .i64 aa,.slice ag ab.length ah],true⟩,⟨dF,0,[.int .i64 n1,.slice A6 s2.length c7,.bool b3,.slice A8 l4.length c9,.slice bu u5.length bv],true⟩,⟨dG,0,[.int .i64 0,.slice none 0 0,.bool false,.slice none 0 0,.slice none 0 0],true⟩,⟨ip,0,[.int .i64 0,.slice none 0 0,.bool true,.slice A_ k c_,.slice none 0 0],true⟩,⟨ez,0,[.int .i64 aa,.int .i64 ac,.int .i64 ae,.int .i64 (-1),.int .i64 (-1),.int .i64 af,.int .i64 aa,.slice ag ab.length ah],true⟩] [⟨A_,c_,26,5,k,xs⟩] [(1,.v (.int .i64 v)),(6,.p 2 0),(9,.p 3 0),(10,.p 4 0),(60,.v (.slice A8 ((qam l4).length) c9)),(61,.v (.int .i64 (((qam l4).length:Nat):Int))),(62,.v (.int .i64 ((k:Nat):Int)))] a_ w_) ((qam l4).length) ⟨0,none,0,[],[],by omega,by omega,Trees.nil _ _,eX.pk,dL,Fr.refl _ _ _⟩ ?_
  rintro lb lc ld ⟨k,A_,c_,xs,css,jp,jq,hT,eY,aG,eZ⟩
  refine qaz [(1,.v (.int .i64 v)),(6,.p 2 0),(9,.p 3 0),(10,.p 4 0),(60,.v (.slice A8 ((qam l4).length) c9)),(61,.v (.int .i64 (((qam l4).length:Nat):Int))),(62,.v (.int .i64 ((k:Nat):Int))),(63,.v (.bool (decide (((k:Nat):Int) < (((qam l4).length:Nat):Int)))))] aG eY fun lf bz=>?_
  refine wp_seq ?_
  refine qau bz (b:=decide (((k:Nat):Int) < (((qam l4).length:Nat):Int))) kz (fun bA=>?_) (fun bA=>?_)
  ·
   have jr:=of_decide_eq_true bA
   refine wp_skip ?_
   refine qaa ?_
   refine wp_seq ?_
   refine wp_block ?_
   refine qad [0,1,2,3] kz ?_
   obtain ⟨iv,iw,e5,js,bB⟩:=Slots.get (qc1 ev) (i:=k) (by omega)
   obtain ⟨ix,dM⟩:∃ x,(qam l4)[k]? = some x:=⟨_,List.getElem?_eq_getElem (by omega)⟩
   have bC:=(qdj hX) k ix dM
   obtain ⟨aY,aZ,ba,bd,bf,bD,bE,bF,bG,bH,bI,jt,rfl,bJ,iy,iz,lg,lh⟩:=bC.open_
   rw [bJ] at bC
   have iA:=iy.small
   have iB:=iz.small
   rw [bJ] at bB
   refine qah (qaM bz (t:=23) (A:=A8) (m:=((qam l4).length)) (q:=((k:Nat):Int)) (d:=64) kz (e:=26) (size:=5) (bytes:=88) kz e5 rfl (by omega) fun li e6=>?_)
   refine qah (qa0 e6 (t:=26) (b:=iv) (o:=iw + k * 5) (d:=65) kz (cs:=[.int .i64 aY,.slice bD aZ.length bE,.bool ba,.slice bF bd.length bG,.slice bH bf.length bI]) (v:=.agg #[.int .i64 aY,.slice bD aZ.length bE,.bool ba,.slice bF bd.length bG,.slice bH bf.length bI]) kz (AtF.move bB aG.step nilM qco).at_ fun lj e7=>?_)
   refine qah (qaw aG e7 (d:=12) (cs:=[.int .i64 0,.slice none 0 0,.bool false,.slice none 0 0,.slice none 0 0]) kz fun lm ln lp ju jv bK e9 fa=>?_)
   refine qah (qaj e9 fa (oi:=5) (cs:=[.int .i64 aY,.slice bD aZ.length bE,.bool ba,.slice bF bd.length bG,.slice bH bf.length bI]) kz fun lq bL fb fc=>?_)
   refine qae (qaa ?_)
   refine qcB 9 kz fb fun lr bM am fe=>?_
   refine qbg [0,1,2,3,4] [(1,.v (.int .i64 v)),(6,.p 2 0),(9,.p 3 0),(10,.p 4 0),(60,.v (.slice A8 ((qam l4).length) c9)),(61,.v (.int .i64 (((qam l4).length:Nat):Int))),(62,.v (.int .i64 ((k:Nat):Int))),(67,.v (.slice A_ k c_)),(68,.v (.agg #[.int .i64 aa,.int .i64 ac,.int .i64 ae,.int .i64 (-1),.int .i64 (-1),.int .i64 af,.int .i64 aa,.slice ag ab.length ah])),(69,.v (.int .i64 v)),(70,.v (.agg #[.int .i64 aY,.slice bD aZ.length bE,.bool ba,.slice bF bd.length bG,.slice bH bf.length bI]))] 5 (qaf (qab (qab (qaf (qab (qaf (qab qal))))))) (fun _ h=>h.cells) fe fc fun ls ff=>?_
   refine qaH (i:=5) kz (qai ff (f:=21) (vs:=[.agg #[.int .i64 aa,.int .i64 ac,.int .i64 ae,.int .i64 (-1),.int .i64 (-1),.int .i64 af,.int .i64 aa,.slice ag ab.length ah],.int .i64 v,.agg #[.int .i64 aY,.slice bD aZ.length bE,.bool ba,.slice bF bd.length bG,.slice bH bf.length bI]]) (d:=71) kz Tryz.call21 ( qe2 hfit _ (Fld.mk aa ac ae (-1) (-1) af aa ab) v _ (Tree.mk aY aZ ba bd bf) _ _ (FldR.mk (l:=ab) ew (hP.move am.step nilM am.imm) (fun i_ x_ h_=>((hY i_ x_ h_).move am.step nilM am.imm))) hpl.2 hd hof (bC.move am.step nilM am.imm)) ?_)
   rintro e_ lu ⟨jw,rfl,fg,bN⟩
   have bO:=fg.move (Step.refl _ Nil) nilM (am.laid (G:=F) bN)
   obtain ⟨bP,bQ,bR,bS,bT,bU,bV,bW,bX,bY,bZ,jx,jy,b0,iC,iD,lv,lw⟩:=bO.open_
   rw [b0] at bO
   have iE:=iC.small
   have iF:=iD.small
   rw [b0]
   refine ⟨_,rfl,fun lx fh=>?_⟩
   have dN:=am.next_nil bN
   have ax:=am.frN bN
   have fi:=TT.ofW ax dN
   refine ⟨fun _=>fi,?_⟩
   refine qaH (i:=6) kz (qb1 dN fh (e:=26) (size:=5) (len:=1) (cs:=[.int .i64 bP,.slice bU bQ.length bV,.bool bR,.slice bW bS.length bX,.slice bY bT.length bZ]) (d:=72) kz kz fun iG ly lz jz jA ar aU fj=>?_)
   have fk:=TT.ofW (ax.trans ar) aU
   refine ⟨fun _=>fk,?_⟩
   refine qaH (i:=7) kz (qaU aU fj (k:=0) (d:=73) (t:=23) (e:=26) (size:=5) (bytes:=88) (A:=A_) (As:=(some ⟨iG,0,none⟩)) (m0:=k) (c:=c_) (m:=1) (cs:=1) (xs:=xs) (news:=[.int .i64 bP,.slice bU bQ.length bV,.bool bR,.slice bW bS.length bX,.slice bY bT.length bZ]) kz kz rfl (qbL (aU.own 1 _ rfl) (qbq kz)) (qb0 (aU.own 1 _ rfl)) (by omega) fun b5 b6 lA lB ay dO fl=>?_)
   have dP:=TT.ofW ((ax.trans ar).trans ay) dO
   refine ⟨fun _=>dP,?_⟩
   refine qbg [8] [(1,.v (.int .i64 v)),(6,.p 2 0),(9,.p 3 0),(10,.p 4 0),(60,.v (.slice A8 ((qam l4).length) c9)),(61,.v (.int .i64 (((qam l4).length:Nat):Int))),(62,.v (.int .i64 ((k:Nat):Int))),(73,.v (.slice b5 (k + 1) b6)),(74,.p 3 3)] 1 (qaf (qab (qab (qaf (qab (qaf (qab qal))))))) (fun _ h=>h.cells) dP fl fun lC fm=>?_
   refine qaH (i:=9) kz (qaj dO fm (oi:=3) (cs:=[.int .i64 0,.slice none 0 0,.bool true,.slice b5 (k + 1) b6,.slice none 0 0]) kz fun lD aH dQ fo=>?_)
   refine ⟨fun h=>absurd rfl h,?_⟩
   refine qbb kz ?_ _
   refine qas ?_
   refine qaa ?_
   refine qap [0,1] kz ?_
   refine qak [0,1] [] [(1,.v (.int .i64 v)),(6,.p 2 0),(9,.p 3 0),(10,.p 4 0),(60,.v (.slice A8 ((qam l4).length) c9)),(61,.v (.int .i64 (((qam l4).length:Nat):Int))),(62,.v (.int .i64 (IntKind.i64.wrap (((k:Nat):Int) + 1))))] dQ fo fun lE fp=>?_
   refine qae (qaa ?_)
   obtain ⟨dR,fq,aI⟩:=dQ.cutB fp 5 [⟨dE,0,[.int .i64 ai,.int .i64 ac,.int .i64 ae,.int .i64 ak,.int .i64 aj,.int .i64 af,.int .i64 aa,.slice ag ab.length ah],true⟩,⟨dF,0,[.int .i64 n1,.slice A6 s2.length c7,.bool b3,.slice A8 l4.length c9,.slice bu u5.length bv],true⟩,⟨dG,0,[.int .i64 0,.slice none 0 0,.bool false,.slice none 0 0,.slice none 0 0],true⟩,⟨ip,0,[.int .i64 0,.slice none 0 0,.bool true,.slice b5 (k + 1) b6,.slice none 0 0],true⟩,⟨ez,0,[.int .i64 aa,.int .i64 ac,.int .i64 ae,.int .i64 (-1),.int .i64 (-1),.int .i64 af,.int .i64 aa,.slice ag ab.length ah],true⟩] [(1,.v (.int .i64 v)),(6,.p 2 0),(9,.p 3 0),(10,.p 4 0),(60,.v (.slice A8 ((qam l4).length) c9)),(61,.v (.int .i64 (((qam l4).length:Nat):Int))),(62,.v (.int .i64 (IntKind.i64.wrap (((k:Nat):Int) + 1))))]
   obtain ⟨fr,aJ⟩:=fq.cutR 1 [⟨b5,b6,26,5,k + 1,xs ++ [.int .i64 bP,.slice bU bQ.length bV,.bool bR,.slice bW bS.length bX,.slice bY bT.length bZ]⟩]
   have ft:IntKind.i64.wrap (((k:Nat):Int) + 1) = ((k + 1:Nat):Int):=qaN (by omega)
   rw [ft] at dR
   exact ⟨(qam l4).length - (k + 1),by omega,k + 1,b5,b6,xs ++ [Value.int .i64 bP,.slice bU bQ.length bV,.bool bR,.slice bW bS.length bX,.slice bY bT.length bZ],(css ++ [[Value.int .i64 bP,.slice bU bQ.length bV,.bool bR,.slice bW bS.length bX,.slice bY bT.length bZ]]),rfl,by omega,by rw [qbR (qf0 (p:=fitT v d) (v:=v) (f:=(Fld.mk aa ac ae (-1) (-1) af aa ab)) dM)]; exact (hT.move ((((((((bK.trans bL).trans bM).trans ax).trans ar).trans ay).trans aH).trans aI).trans aJ).step immM ((((((((bK.trans bL).trans bM).trans ax).trans ar).trans ay).trans aH).trans aI).trans aJ).to').snoc (bO.move ((((ar.trans ay).trans aH).trans aI).trans aJ).step immM ((((ar.trans ay).trans aH).trans aI).trans aJ).to'),dR.pk,fr,(((((((((eZ.trans bK).trans bL).trans bM).trans ax).trans ar).trans ay).trans aH).trans aI).trans aJ)⟩
  have jB:=of_decide_eq_false bA
  refine wp_exit ?_
  refine qar ?_
  refine qar ?_
  refine qaE ?_
  refine qaa ?_
  refine qad [0,1] kz ?_
  refine qak [0] [1] [(6,.p 2 0),(76,.v (.agg #[.int .i64 0,.slice none 0 0,.bool true,.slice A_ k c_,.slice none 0 0]))] aG bz fun lF fu=>?_
  refine qah (qaj aG fu (oi:=2) (cs:=[.int .i64 0,.slice none 0 0,.bool true,.slice A_ k c_,.slice none 0 0]) kz fun lG dS b8 fv=>?_)
  refine qae (qaa ?_)
  refine wp_ret ?_
  refine qaR ?_
  refine qaB ?_
  refine qaV fv b8.cells (v:=.agg #[.int .i64 0,.slice none 0 0,.bool true,.slice A_ k c_,.slice none 0 0]) kz ?_
  have hk0:k = (fitL (fitT v d) v (Fld.mk aa ac ae (-1) (-1) af aa ab) l4).length:=by rw [qdV]; omega
  have hT':=(hT.move dS.step immM dS.to')
  rw [show (fitL (fitT v d) v (Fld.mk aa ac ae (-1) (-1) af aa ab) l4).take k = (fitL (fitT v d) v (Fld.mk aa ac ae (-1) (-1) af aa ab) l4) by rw [hk0,List.take_length]] at hT'
  exact qcK b8 rfl (Octs.nil _ _) hk0 (qez b8 (k:=0) rfl hT' hk0 (by rw [qdV]; omega)) rfl (TagsR.nil _ _) (qeI aE (by simp only [aX]; try simp))
 have fw:=eJ.cast (env':=[(1,.v (.int .i64 v)),(3,.p 0 0),(5,.p 1 0),(6,.p 2 0),(40,.v (.bool false))]) (by rw [aX])
 refine qak [2,3,4,5] [6,7,8,9,10,11,12,13,14] [(1,.v (.int .i64 v)),(3,.p 0 0),(5,.p 1 0),(6,.p 2 0),(40,.v (.bool false)),(44,.v (.bool (decide (aj ≥ 0))))] al fw fun lH dT=>?_
 refine (Bool.eq_false_or_eq_true (decide (aj ≥ 0))).elim (fun au=>?_) (fun au=>?_)
 ·
  have jC:=of_decide_eq_true au
  have fx:=dT.cast (env':=[(1,.v (.int .i64 v)),(3,.p 0 0),(5,.p 1 0),(6,.p 2 0),(40,.v (.bool false)),(44,.v (.bool true))]) (by rw [au])
  refine qak [6,7,8,9,10,11,12] [13,14] [(1,.v (.int .i64 v)),(3,.p 0 0),(5,.p 1 0),(6,.p 2 0),(51,.v (.agg #[.int .i64 0,.slice none 0 0,.bool (((l4.length:Nat):Int) == 0),.slice none 0 0,.slice none 0 0]))] al fx fun lI fy=>?_
  refine qah (qaw al fy (d:=9) (cs:=[.int .i64 0,.slice none 0 0,.bool false,.slice none 0 0,.slice none 0 0]) kz fun eA lJ lK jD jE jF fz fA=>?_)
  refine qah (qaj fz fA (oi:=3) (cs:=[.int .i64 0,.slice none 0 0,.bool (((l4.length:Nat):Int) == 0),.slice none 0 0,.slice none 0 0]) kz fun lL jG dU fB=>?_)
  refine qae (qaa ?_)
  refine qad [0,1,2] kz ?_
  refine qak [0] [1,2] [(1,.v (.int .i64 v)),(3,.p 0 0),(5,.p 1 0),(6,.p 2 0),(9,.p 3 0),(52,.v (.agg #[.int .i64 ai,.int .i64 ac,.int .i64 ae,.int .i64 ak,.int .i64 aj,.int .i64 af,.int .i64 aa,.slice ag ab.length ah]))] dU fB fun lM fC=>?_
  refine qah (qaw dU fC (d:=10) (cs:=[.int .i64 0,.int .i64 0,.int .i64 0,.int .i64 0,.int .i64 0,.int .i64 0,.int .i64 0,.slice none 0 0]) kz fun eB lN lO jH jI jJ fD fE=>?_)
  refine qah (qaj fD fE (oi:=4) (cs:=[.int .i64 ai,.int .i64 ac,.int .i64 ae,.int .i64 ak,.int .i64 aj,.int .i64 af,.int .i64 aa,.slice ag ab.length ah]) kz fun lP jK dV fF=>?_)
  refine qae (qaa ?_)
  refine qad [0,1,2,3,4,5,6,7] kz ?_
  refine qak [0,1,2] [3,4,5,6,7] [(1,.v (.int .i64 v)),(5,.p 1 0),(6,.p 2 0),(9,.p 3 0),(10,.p 4 0),(54,.v (.int .i64 aa)),(55,.p 4 0)] dV fF fun lQ fG=>?_
  refine qah (qaj dV fG (oi:=4) (cs:=[.int .i64 aa,.int .i64 ac,.int .i64 ae,.int .i64 ak,.int .i64 aj,.int .i64 af,.int .i64 aa,.slice ag ab.length ah]) kz fun lR jL dW fH=>?_)
  refine qak [4] [5,6,7] [(1,.v (.int .i64 v)),(5,.p 1 0),(6,.p 2 0),(9,.p 3 0),(10,.p 4 0),(56,.p 4 3)] dW fH fun lS fI=>?_
  refine qah (qaj dW fI (oi:=4) (cs:=[.int .i64 aa,.int .i64 ac,.int .i64 ae,.int .i64 (-1),.int .i64 aj,.int .i64 af,.int .i64 aa,.slice ag ab.length ah]) kz fun lT jM dX fJ=>?_)
  refine qak [6] [7] [(1,.v (.int .i64 v)),(5,.p 1 0),(6,.p 2 0),(9,.p 3 0),(10,.p 4 0),(57,.p 4 4)] dX fJ fun lU fK=>?_
  refine qah (qaj dX fK (oi:=4) (cs:=[.int .i64 aa,.int .i64 ac,.int .i64 ae,.int .i64 (-1),.int .i64 (-1),.int .i64 af,.int .i64 aa,.slice ag ab.length ah]) kz fun lV jN aK fL=>?_)
  refine qae (qaa ?_)
  refine wp_seq ?_
  refine qad [0,1,2,3,4] kz ?_
  refine qak [0,1] [2,3,4] [(1,.v (.int .i64 v)),(6,.p 2 0),(9,.p 3 0),(10,.p 4 0),(59,.v (.slice A8 l4.length c9))] aK fL fun lW fM=>?_
  refine qah (qai fM (f:=49) (vs:=[.slice A8 l4.length c9]) (d:=60) kz Tryz.call49 (qf7 _ _ l4 (ev.move aK.step nilM aK.imm).le _) ?_)
  rintro e_ lX ⟨rfl,dY⟩
  refine ⟨_,rfl,fun lY fN=>?_⟩
  have ca:=aK.next_nil dY
  have jO:=aK.frN dY
  refine qak [3,4] [] [(1,.v (.int .i64 v)),(6,.p 2 0),(9,.p 3 0),(10,.p 4 0),(60,.v (.slice A8 ((qam l4).length) c9)),(61,.v (.int .i64 (((qam l4).length:Nat):Int))),(62,.v (.int .i64 0))] ca fN fun lZ fO=>?_
  refine qae (qaa ?_)
  refine wp_block ?_
  have dZ:=ca.addNil 26 5
  have jP:=ca.frNil 26 5
  have hsm3:(qam l4).length ≤ 32767:=qci _
  refine wp_loop_ghost (fun n_ a_ w_=>∃ (k:Nat) (A_:Option Addr) (c_:Nat) (xs:List Value) (css:List (List Value)),n_ = (qam l4).length - k ∧ k ≤ (qam l4).length ∧ (Trees w_ (Imm F w w_ [⟨dE,0,[.int .i64 ai,.int .i64 ac,.int .i64 ae,.int .i64 ak,.int .i64 aj,.int .i64 af,.int .i64 aa,.slice ag ab.length ah],true⟩,⟨dF,0,[.int .i64 n1,.slice A6 s2.length c7,.bool b3,.slice A8 l4.length c9,.slice bu u5.length bv],true⟩,⟨dG,0,[.int .i64 0,.slice none 0 0,.bool false,.slice none 0 0,.slice none 0 0],true⟩,⟨eA,0,[.int .i64 0,.slice none 0 0,.bool (((l4.length:Nat):Int) == 0),.slice A_ k c_,.slice none 0 0],true⟩,⟨eB,0,[.int .i64 aa,.int .i64 ac,.int .i64 ae,.int .i64 (-1),.int .i64 (-1),.int .i64 af,.int .i64 aa,.slice ag ab.length ah],true⟩] [⟨A_,c_,26,5,k,xs⟩]) xs ((fitL (fitT v d) v (Fld.mk aa ac ae (-1) (-1) af aa ab) l4).take k) css) ∧ LInv dZ 82 [⟨dE,0,[.int .i64 ai,.int .i64 ac,.int .i64 ae,.int .i64 ak,.int .i64 aj,.int .i64 af,.int .i64 aa,.slice ag ab.length ah],true⟩,⟨dF,0,[.int .i64 n1,.slice A6 s2.length c7,.bool b3,.slice A8 l4.length c9,.slice bu u5.length bv],true⟩,⟨dG,0,[.int .i64 0,.slice none 0 0,.bool false,.slice none 0 0,.slice none 0 0],true⟩,⟨eA,0,[.int .i64 0,.slice none 0 0,.bool (((l4.length:Nat):Int) == 0),.slice A_ k c_,.slice none 0 0],true⟩,⟨eB,0,[.int .i64 aa,.int .i64 ac,.int .i64 ae,.int .i64 (-1),.int .i64 (-1),.int .i64 af,.int .i64 aa,.slice ag ab.length ah],true⟩] [⟨A_,c_,26,5,k,xs⟩] [(1,.v (.int .i64 v)),(6,.p 2 0),(9,.p 3 0),(10,.p 4 0),(60,.v (.slice A8 ((qam l4).length) c9)),(61,.v (.int .i64 (((qam l4).length:Nat):Int))),(62,.v (.int .i64 ((k:Nat):Int)))] a_ w_) ((qam l4).length) ⟨0,none,0,[],[],by omega,by omega,Trees.nil _ _,fO.pk,dZ,Fr.refl _ _ _⟩ ?_
  rintro l0 l3 l5 ⟨k,A_,c_,xs,css,jQ,jR,hT,fP,aL,fQ⟩
  refine qaz [(1,.v (.int .i64 v)),(6,.p 2 0),(9,.p 3 0),(10,.p 4 0),(60,.v (.slice A8 ((qam l4).length) c9)),(61,.v (.int .i64 (((qam l4).length:Nat):Int))),(62,.v (.int .i64 ((k:Nat):Int))),(63,.v (.bool (decide (((k:Nat):Int) < (((qam l4).length:Nat):Int)))))] aL fP fun l6 cb=>?_
  refine wp_seq ?_
  refine qau cb (b:=decide (((k:Nat):Int) < (((qam l4).length:Nat):Int))) kz (fun cc=>?_) (fun cc=>?_)
  ·
   have jS:=of_decide_eq_true cc
   refine wp_skip ?_
   refine qaa ?_
   refine wp_seq ?_
   refine wp_block ?_
   refine qad [0,1,2,3] kz ?_
   obtain ⟨iH,iI,fR,jT,cd⟩:=Slots.get (qc1 ev) (i:=k) (by omega)
   obtain ⟨iJ,d4⟩:∃ x,(qam l4)[k]? = some x:=⟨_,List.getElem?_eq_getElem (by omega)⟩
   have ce:=(qdj hX) k iJ d4
   obtain ⟨bg,bh,bi,bj,bk,cg,cl,cm,cq,cr,cu,jU,rfl,cv,iK,iL,l7,l9⟩:=ce.open_
   rw [cv] at ce
   have iM:=iK.small
   have iN:=iL.small
   rw [cv] at cd
   refine qah (qaM cb (t:=23) (A:=A8) (m:=((qam l4).length)) (q:=((k:Nat):Int)) (d:=64) kz (e:=26) (size:=5) (bytes:=88) kz fR rfl (by omega) fun ma fS=>?_)
   refine qah (qa0 fS (t:=26) (b:=iH) (o:=iI + k * 5) (d:=65) kz (cs:=[.int .i64 bg,.slice cg bh.length cl,.bool bi,.slice cm bj.length cq,.slice cr bk.length cu]) (v:=.agg #[.int .i64 bg,.slice cg bh.length cl,.bool bi,.slice cm bj.length cq,.slice cr bk.length cu]) kz (AtF.move cd aL.step nilM qco).at_ fun mc fT=>?_)
   refine qah (qaw aL fT (d:=12) (cs:=[.int .i64 0,.slice none 0 0,.bool false,.slice none 0 0,.slice none 0 0]) kz fun md me mf jV jW cw fU fV=>?_)
   refine qah (qaj fU fV (oi:=5) (cs:=[.int .i64 bg,.slice cg bh.length cl,.bool bi,.slice cm bj.length cq,.slice cr bk.length cu]) kz fun mg cy fW fX=>?_)
   refine qae (qaa ?_)
   refine qcB 9 kz fW fun mh cz ao fY=>?_
   refine qbg [0,1,2,3,4] [(1,.v (.int .i64 v)),(6,.p 2 0),(9,.p 3 0),(10,.p 4 0),(60,.v (.slice A8 ((qam l4).length) c9)),(61,.v (.int .i64 (((qam l4).length:Nat):Int))),(62,.v (.int .i64 ((k:Nat):Int))),(67,.v (.slice A_ k c_)),(68,.v (.agg #[.int .i64 aa,.int .i64 ac,.int .i64 ae,.int .i64 (-1),.int .i64 (-1),.int .i64 af,.int .i64 aa,.slice ag ab.length ah])),(69,.v (.int .i64 v)),(70,.v (.agg #[.int .i64 bg,.slice cg bh.length cl,.bool bi,.slice cm bj.length cq,.slice cr bk.length cu]))] 5 (qaf (qab (qab (qaf (qab (qaf (qab qal))))))) (fun _ h=>h.cells) fY fX fun mi fZ=>?_
   refine qaH (i:=5) kz (qai fZ (f:=21) (vs:=[.agg #[.int .i64 aa,.int .i64 ac,.int .i64 ae,.int .i64 (-1),.int .i64 (-1),.int .i64 af,.int .i64 aa,.slice ag ab.length ah],.int .i64 v,.agg #[.int .i64 bg,.slice cg bh.length cl,.bool bi,.slice cm bj.length cq,.slice cr bk.length cu]]) (d:=71) kz Tryz.call21 ( qe2 hfit _ (Fld.mk aa ac ae (-1) (-1) af aa ab) v _ (Tree.mk bg bh bi bj bk) _ _ (FldR.mk (l:=ab) ew (hP.move ao.step nilM ao.imm) (fun i_ x_ h_=>((hY i_ x_ h_).move ao.step nilM ao.imm))) hpl.2 hd hof (ce.move ao.step nilM ao.imm)) ?_)
   rintro e_ mj ⟨jX,rfl,f0,cA⟩
   have cB:=f0.move (Step.refl _ Nil) nilM (ao.laid (G:=F) cA)
   obtain ⟨cC,cD,cE,cG,cH,cI,cJ,cK,cL,cM,cN,jY,jZ,cO,iO,iP,ml,mm⟩:=cB.open_
   rw [cO] at cB
   have iQ:=iO.small
   have iR:=iP.small
   rw [cO]
   refine ⟨_,rfl,fun mn f5=>?_⟩
   have d5:=ao.next_nil cA
   have aA:=ao.frN cA
   have f7:=TT.ofW aA d5
   refine ⟨fun _=>f7,?_⟩
   refine qaH (i:=6) kz (qb1 d5 f5 (e:=26) (size:=5) (len:=1) (cs:=[.int .i64 cC,.slice cI cD.length cJ,.bool cE,.slice cK cG.length cL,.slice cM cH.length cN]) (d:=72) kz kz fun iS mo mp j0 j1 av aV f8=>?_)
   have f9:=TT.ofW (aA.trans av) aV
   refine ⟨fun _=>f9,?_⟩
   refine qaH (i:=7) kz (qaU aV f8 (k:=0) (d:=73) (t:=23) (e:=26) (size:=5) (bytes:=88) (A:=A_) (As:=(some ⟨iS,0,none⟩)) (m0:=k) (c:=c_) (m:=1) (cs:=1) (xs:=xs) (news:=[.int .i64 cC,.slice cI cD.length cJ,.bool cE,.slice cK cG.length cL,.slice cM cH.length cN]) kz kz rfl (qbL (aV.own 1 _ rfl) (qbq kz)) (qb0 (aV.own 1 _ rfl)) (by omega) fun cP cQ mq mr aB d6 ga=>?_)
   have d7:=TT.ofW ((aA.trans av).trans aB) d6
   refine ⟨fun _=>d7,?_⟩
   refine qbg [8] [(1,.v (.int .i64 v)),(6,.p 2 0),(9,.p 3 0),(10,.p 4 0),(60,.v (.slice A8 ((qam l4).length) c9)),(61,.v (.int .i64 (((qam l4).length:Nat):Int))),(62,.v (.int .i64 ((k:Nat):Int))),(73,.v (.slice cP (k + 1) cQ)),(74,.p 3 3)] 1 (qaf (qab (qab (qaf (qab (qaf (qab qal))))))) (fun _ h=>h.cells) d7 ga fun mt gb=>?_
   refine qaH (i:=9) kz (qaj d6 gb (oi:=3) (cs:=[.int .i64 0,.slice none 0 0,.bool (((l4.length:Nat):Int) == 0),.slice cP (k + 1) cQ,.slice none 0 0]) kz fun mu aM d8 gc=>?_)
   refine ⟨fun h=>absurd rfl h,?_⟩
   refine qbb kz ?_ _
   refine qas ?_
   refine qaa ?_
   refine qap [0,1] kz ?_
   refine qak [0,1] [] [(1,.v (.int .i64 v)),(6,.p 2 0),(9,.p 3 0),(10,.p 4 0),(60,.v (.slice A8 ((qam l4).length) c9)),(61,.v (.int .i64 (((qam l4).length:Nat):Int))),(62,.v (.int .i64 (IntKind.i64.wrap (((k:Nat):Int) + 1))))] d8 gc fun mw gd=>?_
   refine qae (qaa ?_)
   obtain ⟨d9,ge,aN⟩:=d8.cutB gd 5 [⟨dE,0,[.int .i64 ai,.int .i64 ac,.int .i64 ae,.int .i64 ak,.int .i64 aj,.int .i64 af,.int .i64 aa,.slice ag ab.length ah],true⟩,⟨dF,0,[.int .i64 n1,.slice A6 s2.length c7,.bool b3,.slice A8 l4.length c9,.slice bu u5.length bv],true⟩,⟨dG,0,[.int .i64 0,.slice none 0 0,.bool false,.slice none 0 0,.slice none 0 0],true⟩,⟨eA,0,[.int .i64 0,.slice none 0 0,.bool (((l4.length:Nat):Int) == 0),.slice cP (k + 1) cQ,.slice none 0 0],true⟩,⟨eB,0,[.int .i64 aa,.int .i64 ac,.int .i64 ae,.int .i64 (-1),.int .i64 (-1),.int .i64 af,.int .i64 aa,.slice ag ab.length ah],true⟩] [(1,.v (.int .i64 v)),(6,.p 2 0),(9,.p 3 0),(10,.p 4 0),(60,.v (.slice A8 ((qam l4).length) c9)),(61,.v (.int .i64 (((qam l4).length:Nat):Int))),(62,.v (.int .i64 (IntKind.i64.wrap (((k:Nat):Int) + 1))))]
   obtain ⟨gf,aO⟩:=ge.cutR 1 [⟨cP,cQ,26,5,k + 1,xs ++ [.int .i64 cC,.slice cI cD.length cJ,.bool cE,.slice cK cG.length cL,.slice cM cH.length cN]⟩]
   have gg:IntKind.i64.wrap (((k:Nat):Int) + 1) = ((k + 1:Nat):Int):=qaN (by omega)
   rw [gg] at d9
   exact ⟨(qam l4).length - (k + 1),by omega,k + 1,cP,cQ,xs ++ [Value.int .i64 cC,.slice cI cD.length cJ,.bool cE,.slice cK cG.length cL,.slice cM cH.length cN],(css ++ [[Value.int .i64 cC,.slice cI cD.length cJ,.bool cE,.slice cK cG.length cL,.slice cM cH.length cN]]),rfl,by omega,by rw [qbR (qf0 (p:=fitT v d) (v:=v) (f:=(Fld.mk aa ac ae (-1) (-1) af aa ab)) d4)]; exact (hT.move ((((((((cw.trans cy).trans cz).trans aA).trans av).trans aB).trans aM).trans aN).trans aO).step immM ((((((((cw.trans cy).trans cz).trans aA).trans av).trans aB).trans aM).trans aN).trans aO).to').snoc (cB.move ((((av.trans aB).trans aM).trans aN).trans aO).step immM ((((av.trans aB).trans aM).trans aN).trans aO).to'),d9.pk,gf,(((((((((fQ.trans cw).trans cy).trans cz).trans aA).trans av).trans aB).trans aM).trans aN).trans aO)⟩
  have j2:=of_decide_eq_false cc
  refine wp_exit ?_
  refine qar ?_
  refine qar ?_
  refine qaE ?_
  refine qaa ?_
  refine qad [0,1] kz ?_
  refine qak [0] [1] [(6,.p 2 0),(76,.v (.agg #[.int .i64 0,.slice none 0 0,.bool (((l4.length:Nat):Int) == 0),.slice A_ k c_,.slice none 0 0]))] aL cb fun mx gh=>?_
  refine qah (qaj aL gh (oi:=2) (cs:=[.int .i64 0,.slice none 0 0,.bool (((l4.length:Nat):Int) == 0),.slice A_ k c_,.slice none 0 0]) kz fun my ea cR gi=>?_)
  refine qae (qaa ?_)
  refine wp_ret ?_
  refine qaR ?_
  refine qaB ?_
  refine qaV gi cR.cells (v:=.agg #[.int .i64 0,.slice none 0 0,.bool (((l4.length:Nat):Int) == 0),.slice A_ k c_,.slice none 0 0]) kz ?_
  have hk0:k = (fitL (fitT v d) v (Fld.mk aa ac ae (-1) (-1) af aa ab) l4).length:=by rw [qdV]; omega
  have hT':=(hT.move ea.step immM ea.to')
  rw [show (fitL (fitT v d) v (Fld.mk aa ac ae (-1) (-1) af aa ab) l4).take k = (fitL (fitT v d) v (Fld.mk aa ac ae (-1) (-1) af aa ab) l4) by rw [hk0,List.take_length]] at hT'
  exact qcK cR rfl (Octs.nil _ _) hk0 (qez cR (k:=0) rfl hT' hk0 (by rw [qdV]; omega)) rfl (TagsR.nil _ _) (qeI aE (by simp only [aX,au]; try simp))
 have j3:=of_decide_eq_false au
 have gj:=dT.cast (env':=[(1,.v (.int .i64 v)),(3,.p 0 0),(5,.p 1 0),(6,.p 2 0),(40,.v (.bool false)),(44,.v (.bool false))]) (by rw [au])
 refine qak [6,7,8,9,10,11,12] [13,14] [(1,.v (.int .i64 v)),(3,.p 0 0),(5,.p 1 0),(6,.p 2 0),(51,.v (.agg #[.int .i64 0,.slice none 0 0,.bool false,.slice none 0 0,.slice none 0 0]))] al gj fun mz gk=>?_
 refine qah (qaw al gk (d:=9) (cs:=[.int .i64 0,.slice none 0 0,.bool false,.slice none 0 0,.slice none 0 0]) kz fun eC mA mB j4 j5 j6 gl gm=>?_)
 refine qah (qaj gl gm (oi:=3) (cs:=[.int .i64 0,.slice none 0 0,.bool false,.slice none 0 0,.slice none 0 0]) kz fun mC j7 eb gn=>?_)
 refine qae (qaa ?_)
 refine qad [0,1,2] kz ?_
 refine qak [0] [1,2] [(1,.v (.int .i64 v)),(3,.p 0 0),(5,.p 1 0),(6,.p 2 0),(9,.p 3 0),(52,.v (.agg #[.int .i64 ai,.int .i64 ac,.int .i64 ae,.int .i64 ak,.int .i64 aj,.int .i64 af,.int .i64 aa,.slice ag ab.length ah]))] eb gn fun mD gp=>?_
 refine qah (qaw eb gp (d:=10) (cs:=[.int .i64 0,.int .i64 0,.int .i64 0,.int .i64 0,.int .i64 0,.int .i64 0,.int .i64 0,.slice none 0 0]) kz fun eD mE mF j8 j9 ka gq gt=>?_)
 refine qah (qaj gq gt (oi:=4) (cs:=[.int .i64 ai,.int .i64 ac,.int .i64 ae,.int .i64 ak,.int .i64 aj,.int .i64 af,.int .i64 aa,.slice ag ab.length ah]) kz fun mG kd ec gu=>?_)
 refine qae (qaa ?_)
 refine qad [0,1,2,3,4,5,6,7] kz ?_
 refine qak [0,1,2] [3,4,5,6,7] [(1,.v (.int .i64 v)),(5,.p 1 0),(6,.p 2 0),(9,.p 3 0),(10,.p 4 0),(54,.v (.int .i64 aa)),(55,.p 4 0)] ec gu fun mH gv=>?_
 refine qah (qaj ec gv (oi:=4) (cs:=[.int .i64 aa,.int .i64 ac,.int .i64 ae,.int .i64 ak,.int .i64 aj,.int .i64 af,.int .i64 aa,.slice ag ab.length ah]) kz fun mI ke ee gw=>?_)
 refine qak [4] [5,6,7] [(1,.v (.int .i64 v)),(5,.p 1 0),(6,.p 2 0),(9,.p 3 0),(10,.p 4 0),(56,.p 4 3)] ee gw fun mJ gx=>?_
 refine qah (qaj ee gx (oi:=4) (cs:=[.int .i64 aa,.int .i64 ac,.int .i64 ae,.int .i64 (-1),.int .i64 aj,.int .i64 af,.int .i64 aa,.slice ag ab.length ah]) kz fun mK kf ef gy=>?_)
 refine qak [6] [7] [(1,.v (.int .i64 v)),(5,.p 1 0),(6,.p 2 0),(9,.p 3 0),(10,.p 4 0),(57,.p 4 4)] ef gy fun mL gz=>?_
 refine qah (qaj ef gz (oi:=4) (cs:=[.int .i64 aa,.int .i64 ac,.int .i64 ae,.int .i64 (-1),.int .i64 (-1),.int .i64 af,.int .i64 aa,.slice ag ab.length ah]) kz fun mM kg aP gA=>?_)
 refine qae (qaa ?_)
 refine wp_seq ?_
 refine qad [0,1,2,3,4] kz ?_
 refine qak [0,1] [2,3,4] [(1,.v (.int .i64 v)),(6,.p 2 0),(9,.p 3 0),(10,.p 4 0),(59,.v (.slice A8 l4.length c9))] aP gA fun mN gB=>?_
 refine qah (qai gB (f:=49) (vs:=[.slice A8 l4.length c9]) (d:=60) kz Tryz.call49 (qf7 _ _ l4 (ev.move aP.step nilM aP.imm).le _) ?_)
 rintro e_ mO ⟨rfl,eg⟩
 refine ⟨_,rfl,fun mP gC=>?_⟩
 have cS:=aP.next_nil eg
 have kh:=aP.frN eg
 refine qak [3,4] [] [(1,.v (.int .i64 v)),(6,.p 2 0),(9,.p 3 0),(10,.p 4 0),(60,.v (.slice A8 ((qam l4).length) c9)),(61,.v (.int .i64 (((qam l4).length:Nat):Int))),(62,.v (.int .i64 0))] cS gC fun mQ gD=>?_
 refine qae (qaa ?_)
 refine wp_block ?_
 have eh:=cS.addNil 26 5
 have ki:=cS.frNil 26 5
 have hsm3:(qam l4).length ≤ 32767:=qci _
 refine wp_loop_ghost (fun n_ a_ w_=>∃ (k:Nat) (A_:Option Addr) (c_:Nat) (xs:List Value) (css:List (List Value)),n_ = (qam l4).length - k ∧ k ≤ (qam l4).length ∧ (Trees w_ (Imm F w w_ [⟨dE,0,[.int .i64 ai,.int .i64 ac,.int .i64 ae,.int .i64 ak,.int .i64 aj,.int .i64 af,.int .i64 aa,.slice ag ab.length ah],true⟩,⟨dF,0,[.int .i64 n1,.slice A6 s2.length c7,.bool b3,.slice A8 l4.length c9,.slice bu u5.length bv],true⟩,⟨dG,0,[.int .i64 0,.slice none 0 0,.bool false,.slice none 0 0,.slice none 0 0],true⟩,⟨eC,0,[.int .i64 0,.slice none 0 0,.bool false,.slice A_ k c_,.slice none 0 0],true⟩,⟨eD,0,[.int .i64 aa,.int .i64 ac,.int .i64 ae,.int .i64 (-1),.int .i64 (-1),.int .i64 af,.int .i64 aa,.slice ag ab.length ah],true⟩] [⟨A_,c_,26,5,k,xs⟩]) xs ((fitL (fitT v d) v (Fld.mk aa ac ae (-1) (-1) af aa ab) l4).take k) css) ∧ LInv eh 82 [⟨dE,0,[.int .i64 ai,.int .i64 ac,.int .i64 ae,.int .i64 ak,.int .i64 aj,.int .i64 af,.int .i64 aa,.slice ag ab.length ah],true⟩,⟨dF,0,[.int .i64 n1,.slice A6 s2.length c7,.bool b3,.slice A8 l4.length c9,.slice bu u5.length bv],true⟩,⟨dG,0,[.int .i64 0,.slice none 0 0,.bool false,.slice none 0 0,.slice none 0 0],true⟩,⟨eC,0,[.int .i64 0,.slice none 0 0,.bool false,.slice A_ k c_,.slice none 0 0],true⟩,⟨eD,0,[.int .i64 aa,.int .i64 ac,.int .i64 ae,.int .i64 (-1),.int .i64 (-1),.int .i64 af,.int .i64 aa,.slice ag ab.length ah],true⟩] [⟨A_,c_,26,5,k,xs⟩] [(1,.v (.int .i64 v)),(6,.p 2 0),(9,.p 3 0),(10,.p 4 0),(60,.v (.slice A8 ((qam l4).length) c9)),(61,.v (.int .i64 (((qam l4).length:Nat):Int))),(62,.v (.int .i64 ((k:Nat):Int)))] a_ w_) ((qam l4).length) ⟨0,none,0,[],[],by omega,by omega,Trees.nil _ _,gD.pk,eh,Fr.refl _ _ _⟩ ?_
 rintro mR mS mT ⟨k,A_,c_,xs,css,kj,km,hT,gE,aQ,gF⟩
 refine qaz [(1,.v (.int .i64 v)),(6,.p 2 0),(9,.p 3 0),(10,.p 4 0),(60,.v (.slice A8 ((qam l4).length) c9)),(61,.v (.int .i64 (((qam l4).length:Nat):Int))),(62,.v (.int .i64 ((k:Nat):Int))),(63,.v (.bool (decide (((k:Nat):Int) < (((qam l4).length:Nat):Int)))))] aQ gE fun mU cT=>?_
 refine wp_seq ?_
 refine qau cT (b:=decide (((k:Nat):Int) < (((qam l4).length:Nat):Int))) kz (fun cV=>?_) (fun cV=>?_)
 ·
  have kn:=of_decide_eq_true cV
  refine wp_skip ?_
  refine qaa ?_
  refine wp_seq ?_
  refine wp_block ?_
  refine qad [0,1,2,3] kz ?_
  obtain ⟨iT,iU,gG,ko,cW⟩:=Slots.get (qc1 ev) (i:=k) (by omega)
  obtain ⟨iV,ei⟩:∃ x,(qam l4)[k]? = some x:=⟨_,List.getElem?_eq_getElem (by omega)⟩
  have cX:=(qdj hX) k iV ei
  obtain ⟨bn,bp,bq,br,bt,cY,cZ,c5,c8,da,db,kp,rfl,dc,iW,iX,mV,mW⟩:=cX.open_
  rw [dc] at cX
  have iY:=iW.small
  have iZ:=iX.small
  rw [dc] at cW
  refine qah (qaM cT (t:=23) (A:=A8) (m:=((qam l4).length)) (q:=((k:Nat):Int)) (d:=64) kz (e:=26) (size:=5) (bytes:=88) kz gG rfl (by omega) fun mX gH=>?_)
  refine qah (qa0 gH (t:=26) (b:=iT) (o:=iU + k * 5) (d:=65) kz (cs:=[.int .i64 bn,.slice cY bp.length cZ,.bool bq,.slice c5 br.length c8,.slice da bt.length db]) (v:=.agg #[.int .i64 bn,.slice cY bp.length cZ,.bool bq,.slice c5 br.length c8,.slice da bt.length db]) kz (AtF.move cW aQ.step nilM qco).at_ fun mY gI=>?_)
  refine qah (qaw aQ gI (d:=12) (cs:=[.int .i64 0,.slice none 0 0,.bool false,.slice none 0 0,.slice none 0 0]) kz fun mZ m1 m2 kq ku de gJ gK=>?_)
  refine qah (qaj gJ gK (oi:=5) (cs:=[.int .i64 bn,.slice cY bp.length cZ,.bool bq,.slice c5 br.length c8,.slice da bt.length db]) kz fun m3 df gL gM=>?_)
  refine qae (qaa ?_)
  refine qcB 9 kz gL fun m4 dg ap gN=>?_
  refine qbg [0,1,2,3,4] [(1,.v (.int .i64 v)),(6,.p 2 0),(9,.p 3 0),(10,.p 4 0),(60,.v (.slice A8 ((qam l4).length) c9)),(61,.v (.int .i64 (((qam l4).length:Nat):Int))),(62,.v (.int .i64 ((k:Nat):Int))),(67,.v (.slice A_ k c_)),(68,.v (.agg #[.int .i64 aa,.int .i64 ac,.int .i64 ae,.int .i64 (-1),.int .i64 (-1),.int .i64 af,.int .i64 aa,.slice ag ab.length ah])),(69,.v (.int .i64 v)),(70,.v (.agg #[.int .i64 bn,.slice cY bp.length cZ,.bool bq,.slice c5 br.length c8,.slice da bt.length db]))] 5 (qaf (qab (qab (qaf (qab (qaf (qab qal))))))) (fun _ h=>h.cells) gN gM fun m5 gO=>?_
  refine qaH (i:=5) kz (qai gO (f:=21) (vs:=[.agg #[.int .i64 aa,.int .i64 ac,.int .i64 ae,.int .i64 (-1),.int .i64 (-1),.int .i64 af,.int .i64 aa,.slice ag ab.length ah],.int .i64 v,.agg #[.int .i64 bn,.slice cY bp.length cZ,.bool bq,.slice c5 br.length c8,.slice da bt.length db]]) (d:=71) kz Tryz.call21 ( qe2 hfit _ (Fld.mk aa ac ae (-1) (-1) af aa ab) v _ (Tree.mk bn bp bq br bt) _ _ (FldR.mk (l:=ab) ew (hP.move ap.step nilM ap.imm) (fun i_ x_ h_=>((hY i_ x_ h_).move ap.step nilM ap.imm))) hpl.2 hd hof (cX.move ap.step nilM ap.imm)) ?_)
  rintro e_ m6 ⟨kv,rfl,gP,dh⟩
  have di:=gP.move (Step.refl _ Nil) nilM (ap.laid (G:=F) dh)
  obtain ⟨dj,dl,dp,dq,dr,dt,du,dv,dw,dx,dy,kw,kx,dA,i6,i7,m7,m8⟩:=di.open_
  rw [dA] at di
  have ja:=i6.small
  have jb:=i7.small
  rw [dA]
  refine ⟨_,rfl,fun m9 gQ=>?_⟩
  have ej:=ap.next_nil dh
  have aC:=ap.frN dh
  have gR:=TT.ofW aC ej
  refine ⟨fun _=>gR,?_⟩
  refine qaH (i:=6) kz (qb1 ej gQ (e:=26) (size:=5) (len:=1) (cs:=[.int .i64 dj,.slice dt dl.length du,.bool dp,.slice dv dq.length dw,.slice dx dr.length dy]) (d:=72) kz kz fun jc na nb ky kA aw aW gS=>?_)
  have gT:=TT.ofW (aC.trans aw) aW
  refine ⟨fun _=>gT,?_⟩
  refine qaH (i:=7) kz (qaU aW gS (k:=0) (d:=73) (t:=23) (e:=26) (size:=5) (bytes:=88) (A:=A_) (As:=(some ⟨jc,0,none⟩)) (m0:=k) (c:=c_) (m:=1) (cs:=1) (xs:=xs) (news:=[.int .i64 dj,.slice dt dl.length du,.bool dp,.slice dv dq.length dw,.slice dx dr.length dy]) kz kz rfl (qbL (aW.own 1 _ rfl) (qbq kz)) (qb0 (aW.own 1 _ rfl)) (by omega) fun dB dC nc nf aD ek gU=>?_)
  have em:=TT.ofW ((aC.trans aw).trans aD) ek
  refine ⟨fun _=>em,?_⟩
  refine qbg [8] [(1,.v (.int .i64 v)),(6,.p 2 0),(9,.p 3 0),(10,.p 4 0),(60,.v (.slice A8 ((qam l4).length) c9)),(61,.v (.int .i64 (((qam l4).length:Nat):Int))),(62,.v (.int .i64 ((k:Nat):Int))),(73,.v (.slice dB (k + 1) dC)),(74,.p 3 3)] 1 (qaf (qab (qab (qaf (qab (qaf (qab qal))))))) (fun _ h=>h.cells) em gU fun ng gV=>?_
  refine qaH (i:=9) kz (qaj ek gV (oi:=3) (cs:=[.int .i64 0,.slice none 0 0,.bool false,.slice dB (k + 1) dC,.slice none 0 0]) kz fun nh aR eo gW=>?_)
  refine ⟨fun h=>absurd rfl h,?_⟩
  refine qbb kz ?_ _
  refine qas ?_
  refine qaa ?_
  refine qap [0,1] kz ?_
  refine qak [0,1] [] [(1,.v (.int .i64 v)),(6,.p 2 0),(9,.p 3 0),(10,.p 4 0),(60,.v (.slice A8 ((qam l4).length) c9)),(61,.v (.int .i64 (((qam l4).length:Nat):Int))),(62,.v (.int .i64 (IntKind.i64.wrap (((k:Nat):Int) + 1))))] eo gW fun ni gX=>?_
  refine qae (qaa ?_)
  obtain ⟨ep,gY,aS⟩:=eo.cutB gX 5 [⟨dE,0,[.int .i64 ai,.int .i64 ac,.int .i64 ae,.int .i64 ak,.int .i64 aj,.int .i64 af,.int .i64 aa,.slice ag ab.length ah],true⟩,⟨dF,0,[.int .i64 n1,.slice A6 s2.length c7,.bool b3,.slice A8 l4.length c9,.slice bu u5.length bv],true⟩,⟨dG,0,[.int .i64 0,.slice none 0 0,.bool false,.slice none 0 0,.slice none 0 0],true⟩,⟨eC,0,[.int .i64 0,.slice none 0 0,.bool false,.slice dB (k + 1) dC,.slice none 0 0],true⟩,⟨eD,0,[.int .i64 aa,.int .i64 ac,.int .i64 ae,.int .i64 (-1),.int .i64 (-1),.int .i64 af,.int .i64 aa,.slice ag ab.length ah],true⟩] [(1,.v (.int .i64 v)),(6,.p 2 0),(9,.p 3 0),(10,.p 4 0),(60,.v (.slice A8 ((qam l4).length) c9)),(61,.v (.int .i64 (((qam l4).length:Nat):Int))),(62,.v (.int .i64 (IntKind.i64.wrap (((k:Nat):Int) + 1))))]
  obtain ⟨gZ,aT⟩:=gY.cutR 1 [⟨dB,dC,26,5,k + 1,xs ++ [.int .i64 dj,.slice dt dl.length du,.bool dp,.slice dv dq.length dw,.slice dx dr.length dy]⟩]
  have hC:IntKind.i64.wrap (((k:Nat):Int) + 1) = ((k + 1:Nat):Int):=qaN (by omega)
  rw [hC] at ep
  exact ⟨(qam l4).length - (k + 1),by omega,k + 1,dB,dC,xs ++ [Value.int .i64 dj,.slice dt dl.length du,.bool dp,.slice dv dq.length dw,.slice dx dr.length dy],(css ++ [[Value.int .i64 dj,.slice dt dl.length du,.bool dp,.slice dv dq.length dw,.slice dx dr.length dy]]),rfl,by omega,by rw [qbR (qf0 (p:=fitT v d) (v:=v) (f:=(Fld.mk aa ac ae (-1) (-1) af aa ab)) ei)]; exact (hT.move ((((((((de.trans df).trans dg).trans aC).trans aw).trans aD).trans aR).trans aS).trans aT).step immM ((((((((de.trans df).trans dg).trans aC).trans aw).trans aD).trans aR).trans aS).trans aT).to').snoc (di.move ((((aw.trans aD).trans aR).trans aS).trans aT).step immM ((((aw.trans aD).trans aR).trans aS).trans aT).to'),ep.pk,gZ,(((((((((gF.trans de).trans df).trans dg).trans aC).trans aw).trans aD).trans aR).trans aS).trans aT)⟩
 have kB:=of_decide_eq_false cV
 refine wp_exit ?_
 refine qar ?_
 refine qar ?_
 refine qaE ?_
 refine qaa ?_
 refine qad [0,1] kz ?_
 refine qak [0] [1] [(6,.p 2 0),(76,.v (.agg #[.int .i64 0,.slice none 0 0,.bool false,.slice A_ k c_,.slice none 0 0]))] aQ cT fun nj hJ=>?_
 refine qah (qaj aQ hJ (oi:=2) (cs:=[.int .i64 0,.slice none 0 0,.bool false,.slice A_ k c_,.slice none 0 0]) kz fun nk eu dD hK=>?_)
 refine qae (qaa ?_)
 refine wp_ret ?_
 refine qaR ?_
 refine qaB ?_
 refine qaV hK dD.cells (v:=.agg #[.int .i64 0,.slice none 0 0,.bool false,.slice A_ k c_,.slice none 0 0]) kz ?_
 have hk0:k = (fitL (fitT v d) v (Fld.mk aa ac ae (-1) (-1) af aa ab) l4).length:=by rw [qdV]; omega
 have hT':=(hT.move eu.step immM eu.to')
 rw [show (fitL (fitT v d) v (Fld.mk aa ac ae (-1) (-1) af aa ab) l4).take k = (fitL (fitT v d) v (Fld.mk aa ac ae (-1) (-1) af aa ab) l4) by rw [hk0,List.take_length]] at hT'
 exact qcK dD rfl (Octs.nil _ _) hk0 (qez dD (k:=0) rfl hT' hk0 (by rw [qdV]; omega)) rfl (TagsR.nil _ _) (qeI aE (by simp only [aX,au]; try simp))
theorem qko {d:Nat} (hfit:qjJ d) (cf:List Value) (f:Fld) (v:Int) (ct:List Value) (t:Tree) (w:World) (F:Nat → Nat → Prop) (hf:FldR w F cf f) (hpl:f.plain) (hd:depths f.sub ≤ d) (ht:TreeR w F ct t) :
  Calls Tryz.prog 21 #[.agg cf.toArray,.int .i64 v,.agg ct.toArray] w (qen w F (qbJ (fitT v d) v f t)):=by
 by_cases h:f.kind = 11
 ·exact qi8 hfit cf f v ct t w F hf hpl hd h ht
 obtain ⟨k,x1,x2,x3,x4,x5,x6,l,A,c,xs,rfl,hcs,h1,h2⟩:=hf.open_
 rw [qhS (k:=k) h]
 exact qe2 hfit cf _ v ct t w F hf hpl.2 hd h ht
theorem sFit (W:Fld → Tree → Tree) (A:Option Addr) (c:Nat) (l:List Fld) (v:Int) (ct:List Value) (t:Tree) (w:World) (F:Nat → Nat → Prop) (hW_:∀ cf f ct t w F,f ∈ l → FldR w F cf f → TreeR w F ct t → Calls Tryz.prog 21 #[.agg cf.toArray,.int .i64 v,.agg ct.toArray] w (qen w F (W f t))) (hl:FldsR w F A c l) (ht:TreeR w F ct t) :
  Calls Tryz.prog 11 #[.slice A l.length c,.int .i64 v,.agg ct.toArray] w (qen w F (fitW W l t)):=by
 obtain ⟨xfs,h1,h2⟩:=hl.ex
 have hsm:=h1.small
 obtain ⟨n1,s2,b3,l4,u5,A6,c7,A8,c9,aN,aO,eQ,rfl,rfl,eR,eS,ge,eT⟩:=ht.open_
 have eo:=eR.small
 have ep:=eS.small
 refine enter (n:=54) Tryz.func11 rfl Tryz.ntmps11 kz fun a hE=>?_
 have hW:=WOk.start w Nil
 refine qad [0,1] kz ?_
 refine qah (qa9 hW hE (d:=5) (cs:=[.int .i64 n1,.slice A6 s2.length c7,.bool b3,.slice A8 l4.length c9,.slice aN u5.length aO]) kz fun b0 gf gg eU eV eW dB dC=>?_)
 refine qah (qaw dB dC (d:=6) (cs:=[.int .i64 0,.slice none 0 0,.bool false,.slice none 0 0,.slice none 0 0]) kz fun b5 gh gi eX eY eZ cr dD=>?_)
 refine qae (qaa ?_)
 refine qad [0,1,2] kz ?_
 refine qak [0] [1,2] [(0,.v (.slice A l.length c)),(1,.v (.int .i64 v)),(5,.p 0 0),(6,.p 1 0),(12,.v (.agg #[.int .i64 0,.slice none 0 0,.bool false,.slice none 0 0,.slice none 0 0]))] cr dD fun gj dE=>?_
 refine qah (qaw cr dE (d:=7) (cs:=[.int .i64 0,.slice none 0 0,.bool false,.slice none 0 0,.slice none 0 0]) kz fun b6 gk gl e5 e6 e7 dF dG=>?_)
 refine qah (qaj dF dG (oi:=2) (cs:=[.int .i64 0,.slice none 0 0,.bool false,.slice none 0 0,.slice none 0 0]) kz fun gm e9 bU dH=>?_)
 refine qae (qaa ?_)
 refine wp_seq ?_
 refine qaz [(0,.v (.slice A l.length c)),(1,.v (.int .i64 v)),(5,.p 0 0),(6,.p 1 0),(7,.p 2 0),(13,.v (.slice A l.length c)),(14,.v (.int .i64 ((l.length:Nat):Int))),(15,.v (.int .i64 0))] bU dH fun gn dI=>?_
 refine wp_block ?_
 have cu:=bU.addNil 26 5
 have fa:=bU.frNil 26 5
 refine wp_loop_ghost (fun n_ a_ w_=>∃ (k:Nat) (A_:Option Addr) (c_:Nat) (xs:List Value) (css:List (List Value)),n_ = l.length - k ∧ k ≤ l.length ∧ (Trees w_ (Imm F w w_ [⟨b0,0,[.int .i64 n1,.slice A6 s2.length c7,.bool b3,.slice A8 l4.length c9,.slice aN u5.length aO],true⟩,⟨b5,0,[.int .i64 0,.slice none 0 0,.bool false,.slice none 0 0,.slice none 0 0],true⟩,⟨b6,0,[.int .i64 0,.slice none 0 0,.bool false,.slice A_ k c_,.slice none 0 0],true⟩] [⟨A_,c_,26,5,k,xs⟩]) xs ((qeS W l (Tree.mk n1 s2 b3 l4 u5) 0).take k) css) ∧ LInv cu 54 [⟨b0,0,[.int .i64 n1,.slice A6 s2.length c7,.bool b3,.slice A8 l4.length c9,.slice aN u5.length aO],true⟩,⟨b5,0,[.int .i64 0,.slice none 0 0,.bool false,.slice none 0 0,.slice none 0 0],true⟩,⟨b6,0,[.int .i64 0,.slice none 0 0,.bool false,.slice A_ k c_,.slice none 0 0],true⟩] [⟨A_,c_,26,5,k,xs⟩] [(0,.v (.slice A l.length c)),(1,.v (.int .i64 v)),(5,.p 0 0),(6,.p 1 0),(7,.p 2 0),(13,.v (.slice A l.length c)),(14,.v (.int .i64 ((l.length:Nat):Int))),(15,.v (.int .i64 ((k:Nat):Int)))] a_ w_) (l.length) ⟨0,none,0,[],[],by omega,by omega,Trees.nil _ _,dI.pk,cu,Fr.refl _ _ _⟩ ?_
 rintro gp gq gt ⟨k,A_,c_,xs,css,fb,fc,hT,dJ,ab,dK⟩
 refine qaz [(0,.v (.slice A l.length c)),(1,.v (.int .i64 v)),(5,.p 0 0),(6,.p 1 0),(7,.p 2 0),(13,.v (.slice A l.length c)),(14,.v (.int .i64 ((l.length:Nat):Int))),(15,.v (.int .i64 ((k:Nat):Int))),(16,.v (.bool (decide (((k:Nat):Int) < ((l.length:Nat):Int)))))] ab dJ fun gu bV=>?_
 refine wp_seq ?_
 refine qau bV (b:=decide (((k:Nat):Int) < ((l.length:Nat):Int))) kz (fun bW=>?_) (fun bW=>?_)
 ·
  have fe:=of_decide_eq_true bW
  refine wp_skip ?_
  refine qaa ?_
  refine wp_seq ?_
  refine wp_block ?_
  refine qad [0,1,2,3,4,5] kz ?_
  refine qak [0] [1,2,3,4,5] [(0,.v (.slice A l.length c)),(1,.v (.int .i64 v)),(5,.p 0 0),(6,.p 1 0),(7,.p 2 0),(13,.v (.slice A l.length c)),(14,.v (.int .i64 ((l.length:Nat):Int))),(15,.v (.int .i64 ((k:Nat):Int))),(17,.v (.int .i64 ((k:Nat):Int)))] ab bV fun gv dL=>?_
  obtain ⟨ff,fg,dM,fh,bA⟩:=Slots.get h1 (i:=k) (by omega)
  obtain ⟨fi,bX⟩:∃ x,l[k]? = some x:=⟨_,List.getElem?_eq_getElem (by omega)⟩
  have bY:=h2 k fi bX
  obtain ⟨b8,ca,cb,cc,cd,ce,cg,cl,cm,cq,fj,rfl,bB,fk,gw⟩:=bY.open_
  rw [bB] at bY
  have eu:=fk.small
  rw [bB] at bA
  refine qah (qaM dL (t:=29) (A:=A) (m:=l.length) (q:=((k:Nat):Int)) (d:=18) kz (e:=50) (size:=8) (bytes:=80) kz dM rfl (by omega) fun gx dN=>?_)
  refine qah (qa0 dN (t:=50) (b:=ff) (o:=fg + k * 8) (d:=19) kz (cs:=[.int .i64 b8,.int .i64 ca,.int .i64 cb,.int .i64 cc,.int .i64 cd,.int .i64 ce,.int .i64 cg,.slice cm cl.length cq]) (v:=.agg #[.int .i64 b8,.int .i64 ca,.int .i64 cb,.int .i64 cc,.int .i64 cd,.int .i64 ce,.int .i64 cg,.slice cm cl.length cq]) kz (AtF.move bA ab.step nilM qco).at_ fun gy dO=>?_)
  refine qah (qaw ab dO (d:=9) (cs:=[.int .i64 0,.int .i64 0,.int .i64 0,.int .i64 0,.int .i64 0,.int .i64 0,.int .i64 0,.slice none 0 0]) kz fun gz gA gB fl ev aP bC cv=>?_)
  refine qak [4] [5] [(0,.v (.slice A l.length c)),(1,.v (.int .i64 v)),(5,.p 0 0),(6,.p 1 0),(7,.p 2 0),(8,.v (.int .i64 ((k:Nat):Int))),(9,.p 3 0),(13,.v (.slice A l.length c)),(14,.v (.int .i64 ((l.length:Nat):Int))),(15,.v (.int .i64 ((k:Nat):Int))),(19,.v (.agg #[.int .i64 b8,.int .i64 ca,.int .i64 cb,.int .i64 cc,.int .i64 cd,.int .i64 ce,.int .i64 cg,.slice cm cl.length cq]))] bC cv fun fm cw=>?_
  refine qah (qaj bC cw (oi:=3) (cs:=[.int .i64 b8,.int .i64 ca,.int .i64 cb,.int .i64 cc,.int .i64 cd,.int .i64 ce,.int .i64 cg,.slice cm cl.length cq]) kz fun fo aQ cy cz=>?_)
  refine qae (qaa ?_)
  refine qcB 11 kz cy fun fp aR ay cA=>?_
  refine qbg [0,1,2,3,4,5] [(0,.v (.slice A l.length c)),(1,.v (.int .i64 v)),(5,.p 0 0),(6,.p 1 0),(7,.p 2 0),(13,.v (.slice A l.length c)),(14,.v (.int .i64 ((l.length:Nat):Int))),(15,.v (.int .i64 ((k:Nat):Int))),(21,.v (.slice A_ k c_)),(22,.v (.agg #[.int .i64 b8,.int .i64 ca,.int .i64 cb,.int .i64 cc,.int .i64 cd,.int .i64 ce,.int .i64 cg,.slice cm cl.length cq])),(23,.v (.int .i64 v)),(24,.v (.agg #[.int .i64 n1,.slice A6 s2.length c7,.bool b3,.slice A8 l4.length c9,.slice aN u5.length aO])),(25,.v (.int .i64 ((k:Nat):Int)))] 6 (qaf (qab (qab (qaf (qab qal))))) (fun _ h=>h.cells) cA cz fun fq cB=>?_
  refine qaH (i:=6) kz (qai cB (f:=22) (vs:=[.agg #[.int .i64 n1,.slice A6 s2.length c7,.bool b3,.slice A8 l4.length c9,.slice aN u5.length aO],.int .i64 ((k:Nat):Int)]) (d:=26) kz Tryz.call22 (sAt _ _ k _ _ (ht.move ay.step nilM ay.imm)) ?_)
  rintro e_ fr ⟨ew,rfl,cC,aA⟩
  have aS:=cC.move aA nilM (fun b o h_ hb_=>ay.laid (G:=F) aA b o (.inl h_) (Nat.lt_of_lt_of_le hb_ aA.size))
  obtain ⟨dP,dQ,dR,dS,dT,dU,dV,dW,dX,dY,dZ,ey,ez,aT,d4,d5,ft,fu⟩:=aS.open_
  rw [aT] at aS
  have d6:=d4.small
  have d7:=d5.small
  rw [aT]
  refine ⟨_,rfl,fun fv cD=>?_⟩
  have ar:=ay.next_nil aA
  have aj:=ay.frN aA
  have cE:=TT.ofW aj ar
  refine ⟨fun _=>cE,?_⟩
  refine qaH (i:=7) kz (qai cD (f:=21) (vs:=[.agg #[.int .i64 b8,.int .i64 ca,.int .i64 cb,.int .i64 cc,.int .i64 cd,.int .i64 ce,.int .i64 cg,.slice cm cl.length cq],.int .i64 v,.agg #[.int .i64 dP,.slice dU dQ.length dV,.bool dR,.slice dW dS.length dX,.slice dY dT.length dZ]]) (d:=27) kz Tryz.call21 ( hW_ _ _ _ _ _ _ (List.mem_of_getElem? bX) (bY.move ar.step nilM ar.imm) aS) ?_)
  rintro e_ fw ⟨eA,rfl,cG,aU⟩
  have aV:=cG.move (Step.refl _ Nil) nilM (ar.laid (G:=F) aU)
  obtain ⟨aW,aX,aY,aZ,ba,bd,bf,bg,bh,bi,bj,eB,eC,bk,d8,d9,fx,fy⟩:=aV.open_
  rw [bk] at aV
  have ea:=d8.small
  have eb:=d9.small
  rw [bk]
  refine ⟨_,rfl,fun fz cH=>?_⟩
  have bD:=ar.next_nil aU
  have au:=ar.frN aU
  have cI:=TT.ofW (aj.trans au) bD
  refine ⟨fun _=>cI,?_⟩
  refine qaH (i:=8) kz (qb1 bD cH (e:=26) (size:=5) (len:=1) (cs:=[.int .i64 aW,.slice bd aX.length bf,.bool aY,.slice bg aZ.length bh,.slice bi ba.length bj]) (d:=28) kz kz fun ec fA fB eD eE ak aI cJ=>?_)
  have cK:=TT.ofW ((aj.trans au).trans ak) aI
  refine ⟨fun _=>cK,?_⟩
  refine qaH (i:=9) kz (qaU aI cJ (k:=0) (d:=29) (t:=23) (e:=26) (size:=5) (bytes:=88) (A:=A_) (As:=(some ⟨ec,0,none⟩)) (m0:=k) (c:=c_) (m:=1) (cs:=1) (xs:=xs) (news:=[.int .i64 aW,.slice bd aX.length bf,.bool aY,.slice bg aZ.length bh,.slice bi ba.length bj]) kz kz rfl (qbL (aI.own 1 _ rfl) (qbq kz)) (qb0 (aI.own 1 _ rfl)) (by omega) fun bn bp fC fD av bE cL=>?_)
  have bF:=TT.ofW (((aj.trans au).trans ak).trans av) bE
  refine ⟨fun _=>bF,?_⟩
  refine qbg [10] [(0,.v (.slice A l.length c)),(1,.v (.int .i64 v)),(5,.p 0 0),(6,.p 1 0),(7,.p 2 0),(13,.v (.slice A l.length c)),(14,.v (.int .i64 ((l.length:Nat):Int))),(15,.v (.int .i64 ((k:Nat):Int))),(29,.v (.slice bn (k + 1) bp)),(30,.p 2 3)] 1 (qaf (qab (qab (qaf (qab qal))))) (fun _ h=>h.cells) bF cL fun fE cM=>?_
  refine qaH (i:=11) kz (qaj bE cM (oi:=2) (cs:=[.int .i64 0,.slice none 0 0,.bool false,.slice bn (k + 1) bp,.slice none 0 0]) kz fun fF aB bG cN=>?_)
  refine ⟨fun h=>absurd rfl h,?_⟩
  refine qbb kz ?_ _
  refine qas ?_
  refine qaa ?_
  refine qap [0,1] kz ?_
  refine qak [0,1] [] [(0,.v (.slice A l.length c)),(1,.v (.int .i64 v)),(5,.p 0 0),(6,.p 1 0),(7,.p 2 0),(13,.v (.slice A l.length c)),(14,.v (.int .i64 ((l.length:Nat):Int))),(15,.v (.int .i64 (IntKind.i64.wrap (((k:Nat):Int) + 1))))] bG cN fun fG cO=>?_
  refine qae (qaa ?_)
  obtain ⟨bH,cP,aC⟩:=bG.cutB cO 3 [⟨b0,0,[.int .i64 n1,.slice A6 s2.length c7,.bool b3,.slice A8 l4.length c9,.slice aN u5.length aO],true⟩,⟨b5,0,[.int .i64 0,.slice none 0 0,.bool false,.slice none 0 0,.slice none 0 0],true⟩,⟨b6,0,[.int .i64 0,.slice none 0 0,.bool false,.slice bn (k + 1) bp,.slice none 0 0],true⟩] [(0,.v (.slice A l.length c)),(1,.v (.int .i64 v)),(5,.p 0 0),(6,.p 1 0),(7,.p 2 0),(13,.v (.slice A l.length c)),(14,.v (.int .i64 ((l.length:Nat):Int))),(15,.v (.int .i64 (IntKind.i64.wrap (((k:Nat):Int) + 1))))]
  obtain ⟨cQ,aD⟩:=cP.cutR 1 [⟨bn,bp,26,5,k + 1,xs ++ [.int .i64 aW,.slice bd aX.length bf,.bool aY,.slice bg aZ.length bh,.slice bi ba.length bj]⟩]
  have cR:IntKind.i64.wrap (((k:Nat):Int) + 1) = ((k + 1:Nat):Int):=qaN (by omega)
  rw [cR] at bH
  exact ⟨l.length - (k + 1),by omega,k + 1,bn,bp,xs ++ [Value.int .i64 aW,.slice bd aX.length bf,.bool aY,.slice bg aZ.length bh,.slice bi ba.length bj],(css ++ [[Value.int .i64 aW,.slice bd aX.length bf,.bool aY,.slice bg aZ.length bh,.slice bi ba.length bj]]),rfl,by omega,by rw [qbR (qhk bX)]; exact (hT.move (((((((((aP.trans aQ).trans aR).trans aj).trans au).trans ak).trans av).trans aB).trans aC).trans aD).step immM (((((((((aP.trans aQ).trans aR).trans aj).trans au).trans ak).trans av).trans aB).trans aC).trans aD).to').snoc (aV.move ((((ak.trans av).trans aB).trans aC).trans aD).step immM ((((ak.trans av).trans aB).trans aC).trans aD).to'),bH.pk,cQ,((((((((((dK.trans aP).trans aQ).trans aR).trans aj).trans au).trans ak).trans av).trans aB).trans aC).trans aD)⟩
 have eF:=of_decide_eq_false bW
 refine wp_exit ?_
 refine qar ?_
 refine qar ?_
 refine qaE ?_
 refine qaa ?_
 refine wp_seq ?_
 refine qad [0,1,2,3,4,5] kz ?_
 refine qak [0,1,2] [3,4,5] [(6,.p 1 0),(7,.p 2 0),(32,.v (.slice A l.length c)),(34,.v (.slice aN u5.length aO))] ab bV fun fH cS=>?_
 refine qah (qai cS (f:=23) (vs:=[.slice A l.length c,.slice aN u5.length aO]) (d:=35) kz Tryz.call23 (qf8 _ _ l _ _ u5 _ _ ⟨xfs,(h1.move ab.step nilM ab.imm),(fun i_ x_ h_=>((h2 i_ x_ h_).move ab.step nilM ab.imm))⟩ (eT.move ab.step nilM ab.imm)) ?_)
 rintro e_ fI ⟨ax,aE,rfl,cT,bq⟩
 have cV:=cT.move (Step.refl _ Nil) nilM (ab.laid (G:=F) bq)
 refine ⟨_,rfl,fun fJ cW=>?_⟩
 have br:=ab.next_nil bq
 have bI:=ab.frN bq
 refine qak [4,5] [] [(6,.p 1 0),(7,.p 2 0),(35,.v (.slice ax ((qag l u5).length) aE)),(36,.v (.int .i64 (((qag l u5).length:Nat):Int))),(37,.v (.int .i64 0))] br cW fun fK cX=>?_
 refine qae (qaa ?_)
 refine wp_block ?_
 obtain ⟨eG,cY,ee⟩:=cV.ex
 have ef:=cY.small
 have hk0:k = (qeS W l (Tree.mk n1 s2 b3 l4 u5) 0).length:=by rw [qfZ]; omega
 have bJ:=br.addNil 64 2
 have af:=br.frNil 64 2
 refine wp_loop_ghost (fun n_ a_ w_=>∃ (q:Nat) (A5_:Option Addr) (c5_:Nat) (ys:List Value) (dss:List (List Value)),n_ = (qag l u5).length - q ∧ q ≤ (qag l u5).length ∧ (Tags w_ (Imm F w w_ [⟨b0,0,[.int .i64 n1,.slice A6 s2.length c7,.bool b3,.slice A8 l4.length c9,.slice aN u5.length aO],true⟩,⟨b5,0,[.int .i64 0,.slice none 0 0,.bool false,.slice none 0 0,.slice none 0 0],true⟩,⟨b6,0,[.int .i64 0,.slice none 0 0,.bool false,.slice A_ k c_,.slice A5_ q c5_],true⟩] [⟨A_,c_,26,5,k,xs⟩,⟨A5_,c5_,64,2,q,ys⟩]) ys ((qdt (qag l u5)).take q) dss) ∧ LInv bJ 54 [⟨b0,0,[.int .i64 n1,.slice A6 s2.length c7,.bool b3,.slice A8 l4.length c9,.slice aN u5.length aO],true⟩,⟨b5,0,[.int .i64 0,.slice none 0 0,.bool false,.slice none 0 0,.slice none 0 0],true⟩,⟨b6,0,[.int .i64 0,.slice none 0 0,.bool false,.slice A_ k c_,.slice A5_ q c5_],true⟩] [⟨A_,c_,26,5,k,xs⟩,⟨A5_,c5_,64,2,q,ys⟩] [(6,.p 1 0),(7,.p 2 0),(35,.v (.slice ax ((qag l u5).length) aE)),(36,.v (.int .i64 (((qag l u5).length:Nat):Int))),(37,.v (.int .i64 ((q:Nat):Int)))] a_ w_) ((qag l u5).length) ⟨0,none,0,[],[],by omega,by omega,Tags.nil _ _,cX.pk,bJ,Fr.refl _ _ _⟩ ?_
 rintro fL fM fN ⟨q,A5_,c5_,ys,dss,eH,eI,hU,cZ,aJ,ac⟩
 refine qaz [(6,.p 1 0),(7,.p 2 0),(35,.v (.slice ax ((qag l u5).length) aE)),(36,.v (.int .i64 (((qag l u5).length:Nat):Int))),(37,.v (.int .i64 ((q:Nat):Int))),(38,.v (.bool (decide (((q:Nat):Int) < (((qag l u5).length:Nat):Int)))))] aJ cZ fun fO bt=>?_
 refine wp_seq ?_
 refine qau bt (b:=decide (((q:Nat):Int) < (((qag l u5).length:Nat):Int))) kz (fun bu=>?_) (fun bu=>?_)
 ·
  have eJ:=of_decide_eq_true bu
  refine wp_skip ?_
  refine qaa ?_
  refine wp_seq ?_
  refine wp_block ?_
  refine qad [0,1,2,3] kz ?_
  obtain ⟨eg,eh,c5,eK,bv⟩:=Slots.get cY (i:=q) (by omega)
  obtain ⟨⟨ae,aa⟩,bK⟩:∃ x,(qag l u5)[q]? = some x:=⟨_,List.getElem?_eq_getElem (by omega)⟩
  obtain ⟨⟨ah,ai,bZ,bL⟩,ei,ej⟩:=ee q ae aa bK
  rw [bZ] at bv
  refine qah (qaM bt (t:=24) (A:=ax) (m:=((qag l u5).length)) (q:=((q:Nat):Int)) (d:=39) kz (e:=64) (size:=2) (bytes:=32) kz c5 rfl (by omega) fun fP c8=>?_)
  refine qah (qa0 c8 (t:=64) (b:=eg) (o:=eh + q * 2) (d:=40) kz (cs:=[.int .u32 ae,.slice ah aa.length ai]) (v:=.agg #[.int .u32 ae,.slice ah aa.length ai]) kz (AtF.move bv (af.trans ac).step immM (af.trans ac).to').at_ fun fQ da=>?_)
  refine qah (qaw aJ da (d:=11) (cs:=[.int .u32 0,.slice none 0 0]) kz fun fR fS fT eL eM al db dc=>?_)
  refine qah (qaj db dc (oi:=3) (cs:=[.int .u32 ae,.slice ah aa.length ai]) kz fun fU am de df=>?_)
  refine qae (qaa ?_)
  refine qcB 11 kz de fun fV ao bM dg=>?_
  refine qbg [0,1,2,3,4,5] [(6,.p 1 0),(7,.p 2 0),(35,.v (.slice ax ((qag l u5).length) aE)),(36,.v (.int .i64 (((qag l u5).length:Nat):Int))),(37,.v (.int .i64 ((q:Nat):Int))),(42,.v (.slice A5_ q c5_)),(44,.v (.int .u32 ae)),(46,.v (.slice ah aa.length ai))] 6 (qaf (qab (qab (qaf (qab qal))))) (fun _ h=>h.cells) dg df fun fW dh=>?_
  have ek:=qbn aa
  refine qaH (i:=6) kz (qai dh (f:=24) (vs:=[.slice ah aa.length ai]) (d:=47) kz Tryz.call24 (qfF _ _ aa (bL.move ((((af.trans ac).trans al).trans am).trans ao).step immM ((((af.trans ac).trans al).trans am).trans ao).to').le _) ?_)
  rintro e_ fX ⟨rfl,bN⟩
  refine ⟨_,rfl,fun fY di=>?_⟩
  have bO:=bM.next_nil bN
  have ag:=bM.frN bN
  have bP:=TT.ofW ag bO
  refine ⟨fun _=>bP,?_⟩
  refine qbg [7] [(6,.p 1 0),(7,.p 2 0),(35,.v (.slice ax ((qag l u5).length) aE)),(36,.v (.int .i64 (((qag l u5).length:Nat):Int))),(37,.v (.int .i64 ((q:Nat):Int))),(42,.v (.slice A5_ q c5_)),(48,.v (.agg #[.int .u32 ae,.slice ah ((qay aa).length) ai]))] 4 (qaf (qab (qab (qaf (qab qal))))) (fun _ h=>h.cells) bP di fun fZ dj=>?_
  refine qaH (i:=8) kz (qb1 bO dj (e:=64) (size:=2) (len:=1) (cs:=[.int .u32 ae,.slice ah ((qay aa).length) ai]) (d:=49) kz kz fun em f0 f5 eN eO ap aK dl=>?_)
  have dp:=TT.ofW (ag.trans ap) aK
  refine ⟨fun _=>dp,?_⟩
  refine qaH (i:=9) kz (qaU aK dl (k:=1) (d:=50) (t:=24) (e:=64) (size:=2) (bytes:=32) (A:=A5_) (As:=(some ⟨em,0,none⟩)) (m0:=q) (c:=c5_) (m:=1) (cs:=1) (xs:=ys) (news:=[.int .u32 ae,.slice ah ((qay aa).length) ai]) kz kz rfl (qbL (aK.own 2 _ rfl) (qbq kz)) (qb0 (aK.own 2 _ rfl)) (by omega) fun bw bz f7 f8 aw bQ dq=>?_)
  have bR:=TT.ofW ((ag.trans ap).trans aw) bQ
  refine ⟨fun _=>bR,?_⟩
  refine qbg [10] [(6,.p 1 0),(7,.p 2 0),(35,.v (.slice ax ((qag l u5).length) aE)),(36,.v (.int .i64 (((qag l u5).length:Nat):Int))),(37,.v (.int .i64 ((q:Nat):Int))),(50,.v (.slice bw (q + 1) bz)),(51,.p 2 4)] 1 (qaf (qab (qab (qaf (qab qal))))) (fun _ h=>h.cells) bR dq fun f9 dr=>?_
  refine qaH (i:=11) kz (qaj bQ dr (oi:=2) (cs:=[.int .i64 0,.slice none 0 0,.bool false,.slice A_ k c_,.slice bw (q + 1) bz]) kz fun ga aF bS dt=>?_)
  refine ⟨fun h=>absurd rfl h,?_⟩
  refine qbb kz ?_ _
  refine qas ?_
  refine qaa ?_
  refine qap [0,1] kz ?_
  refine qak [0,1] [] [(6,.p 1 0),(7,.p 2 0),(35,.v (.slice ax ((qag l u5).length) aE)),(36,.v (.int .i64 (((qag l u5).length:Nat):Int))),(37,.v (.int .i64 (IntKind.i64.wrap (((q:Nat):Int) + 1))))] bS dt fun gb du=>?_
  refine qae (qaa ?_)
  obtain ⟨bT,dv,aG⟩:=bS.cutB du 3 [⟨b0,0,[.int .i64 n1,.slice A6 s2.length c7,.bool b3,.slice A8 l4.length c9,.slice aN u5.length aO],true⟩,⟨b5,0,[.int .i64 0,.slice none 0 0,.bool false,.slice none 0 0,.slice none 0 0],true⟩,⟨b6,0,[.int .i64 0,.slice none 0 0,.bool false,.slice A_ k c_,.slice bw (q + 1) bz],true⟩] [(6,.p 1 0),(7,.p 2 0),(35,.v (.slice ax ((qag l u5).length) aE)),(36,.v (.int .i64 (((qag l u5).length:Nat):Int))),(37,.v (.int .i64 (IntKind.i64.wrap (((q:Nat):Int) + 1))))]
  obtain ⟨dw,aH⟩:=dv.cutR 2 [⟨A_,c_,26,5,k,xs⟩,⟨bw,bz,64,2,q + 1,ys ++ [.int .u32 ae,.slice ah ((qay aa).length) ai]⟩]
  have dx:IntKind.i64.wrap (((q:Nat):Int) + 1) = ((q + 1:Nat):Int):=qaN (by omega)
  rw [dx] at bT
  exact ⟨(qag l u5).length - (q + 1),by omega,q + 1,bw,bz,ys ++ [Value.int .u32 ae,.slice ah ((qay aa).length) ai],(dss ++ [[Value.int .u32 ae,.slice ah ((qay aa).length) ai]]),rfl,by omega,by rw [qbR (qhR bK)]; exact (hU.move ((((((((al.trans am).trans ao).trans ag).trans ap).trans aw).trans aF).trans aG).trans aH).step immM ((((((((al.trans am).trans ao).trans ag).trans ap).trans aw).trans aF).trans aG).trans aH).to').snoc (c:=[.int .u32 ae,.slice ah ((qay aa).length) ai]) (x:=(ae,qay aa)) ⟨⟨_,_,rfl,((bL.move ((((((((((af.trans ac).trans al).trans am).trans ao).trans ag).trans ap).trans aw).trans aF).trans aG).trans aH).step immM ((((((((((af.trans ac).trans al).trans am).trans ao).trans ag).trans ap).trans aw).trans aF).trans aG).trans aH).to').take 32767)⟩,ei,ej⟩,bT.pk,dw,(((((((((ac.trans al).trans am).trans ao).trans ag).trans ap).trans aw).trans aF).trans aG).trans aH)⟩
 have eP:=of_decide_eq_false bu
 refine wp_exit ?_
 refine qar ?_
 refine qar ?_
 refine qaE ?_
 refine qaa ?_
 refine qad [0,1] kz ?_
 refine qak [0] [1] [(6,.p 1 0),(53,.v (.agg #[.int .i64 0,.slice none 0 0,.bool false,.slice A_ k c_,.slice A5_ q c5_]))] aJ bt fun gc dy=>?_
 refine qah (qaj aJ dy (oi:=1) (cs:=[.int .i64 0,.slice none 0 0,.bool false,.slice A_ k c_,.slice A5_ q c5_]) kz fun gd aL aM dA=>?_)
 refine qae (qaa ?_)
 refine wp_ret ?_
 refine qaV dA aM.cells (v:=.agg #[.int .i64 0,.slice none 0 0,.bool false,.slice A_ k c_,.slice A5_ q c5_]) kz ?_
 have hq0:q = (qdt (qag l u5)).length:=by rw [qcQ]; omega
 have hT':=(hT.move (((bI.trans af).trans ac).trans aL).step immM (((bI.trans af).trans ac).trans aL).to')
 have hU':=(hU.move aL.step immM aL.to')
 rw [show (qeS W l (Tree.mk n1 s2 b3 l4 u5) 0).take k = (qeS W l (Tree.mk n1 s2 b3 l4 u5) 0) by rw [hk0,List.take_length]] at hT'
 rw [show (qdt (qag l u5)).take q = (qdt (qag l u5)) by rw [hq0,List.take_length]] at hU'
 exact qcK aM rfl (Octs.nil _ _) hk0 (qez aM (k:=0) rfl hT' hk0 (by rw [qfZ]; omega)) hq0 (qiL aM (k:=1) rfl hU' hq0 (by rw [qcQ]; omega)) rfl
theorem qj5:∀ d,qjJ d
 | 0=>fun A c l v ct t w F hl hpl hd ht=>sFit (fun _ _=>.zero) A c l v ct t w F (fun cf f ct t w F hm hf ht=>by
   obtain ⟨i,hi⟩:=List.mem_iff_getElem?.1 hm
   have h:=qcP hi
   obtain ⟨k,x1,x2,x3,x4,x5,x6,l,A,c,xs,rfl,_⟩:=hf.open_
   rw [qdS] at h; omega) hl ht
 | d + 1=>fun A c l v ct t w F hl hpl hd ht=>sFit (qbJ (fitT v d) v) A c l v ct t w F (fun cf f ct t w F hm hf ht=>qko (qj5 d) cf f v ct t w F hf (qfy hpl hm) (by
   obtain ⟨i,hi⟩:=List.mem_iff_getElem?.1 hm
   have h:=qcP hi
   obtain ⟨k,x1,x2,x3,x4,x5,x6,l,A,c,xs,rfl,_⟩:=hf.open_
   rw [qdS] at h
   show depths l ≤ d
   omega) ht) hl ht
def sDescribeTopicPartitionsResponseF:List Fld:=[(Fld.mk 3 0 (-1) (-1) (-1) 0 0 []),(Fld.mk 11 0 (-1) (-1) (-1) 0 10 [(Fld.mk 2 0 (-1) (-1) (-1) 0 0 []),(Fld.mk 8 0 (-1) 0 (-1) 0 0 []),(Fld.mk 7 0 (-1) (-1) (-1) 0 0 []),(Fld.mk 0 0 (-1) (-1) (-1) 0 0 []),(Fld.mk 11 0 (-1) (-1) (-1) 0 10 [(Fld.mk 2 0 (-1) (-1) (-1) 0 0 []),(Fld.mk 3 0 (-1) (-1) (-1) 0 0 []),(Fld.mk 3 0 (-1) (-1) (-1) 0 0 []),(Fld.mk 3 0 (-1) (-1) (-1) (-1) 0 []),(Fld.mk 11 0 (-1) (-1) (-1) 0 3 []),(Fld.mk 11 0 (-1) (-1) (-1) 0 3 []),(Fld.mk 11 0 (-1) (-1) (-1) 0 3 []),(Fld.mk 11 0 (-1) (-1) (-1) 0 3 []),(Fld.mk 11 0 (-1) (-1) (-1) 0 3 [])]),(Fld.mk 3 0 (-1) (-1) (-1) (-2147483648) 0 [])]),(Fld.mk 10 0 (-1) 0 (-1) 0 0 [(Fld.mk 8 0 (-1) (-1) (-1) 0 0 []),(Fld.mk 3 0 (-1) (-1) (-1) 0 0 [])])]
def qao:Int:=0
theorem qcx (w:World) (F:Nat → Nat → Prop):Calls Tryz.prog 6 #[] w (qkE w F sDescribeTopicPartitionsResponseF qao):=by
 refine enter (n:=8) Tryz.func6 rfl Tryz.ntmps6 kz fun a hE=>?_
 have hW:=WOk.start w Nil
 refine qad [0] kz ?_
 refine qah (qaw hW hE (d:=0) (cs:=[.slice none 0 0,.int .i64 0]) kz fun b1 a2 w3 hb4 hz5 hF6 hW7 hE8=>?_)
 refine qae (qaa ?_)
 refine qad [0,1,2,3,4,5,6,7] kz ?_
 refine qak [0] [1,2,3,4,5,6,7] [(0,.p 0 0),(1,.v (.agg #[.int .i64 3,.int .i64 0,.int .i64 (-1),.int .i64 (-1),.int .i64 (-1),.int .i64 0,.int .i64 0,.slice none 0 0]))] hW7 hE8 fun a9 ap=>?_
 refine qah (qb6 ap (f:=16) (vs:=[]) (d:=2) (n':=9) kz Tryz.call16 Tryz.func16 rfl Tryz.ntmps16 kz fun bp ar=>?_)
 refine qaz [] hW7 ar fun bq au=>?_
 refine qad [0,1,2,3,4,5,6,7,8] kz ?_
 refine qak [0,1,2,3] [4,5,6,7,8] [(1,.v (.agg #[.int .i64 2,.int .i64 0,.int .i64 (-1),.int .i64 (-1),.int .i64 (-1),.int .i64 0,.int .i64 0,.slice none 0 0])),(2,.v (.agg #[.int .i64 8,.int .i64 0,.int .i64 (-1),.int .i64 0,.int .i64 (-1),.int .i64 0,.int .i64 0,.slice none 0 0])),(3,.v (.agg #[.int .i64 7,.int .i64 0,.int .i64 (-1),.int .i64 (-1),.int .i64 (-1),.int .i64 0,.int .i64 0,.slice none 0 0])),(4,.v (.agg #[.int .i64 0,.int .i64 0,.int .i64 (-1),.int .i64 (-1),.int .i64 (-1),.int .i64 0,.int .i64 0,.slice none 0 0]))] hW7 au fun br av=>?_
 refine qah (qb6 av (f:=28) (vs:=[]) (d:=5) (n':=11) kz Tryz.call28 Tryz.func28 rfl Tryz.ntmps28 kz fun bt aw=>?_)
 refine qaz [] hW7 aw fun bu ax=>?_
 refine qad [0,1,2,3,4,5,6,7,8,9,10] kz ?_
 refine qak [0,1,2,3,4,5,6,7,8] [9,10] [(1,.v (.agg #[.int .i64 2,.int .i64 0,.int .i64 (-1),.int .i64 (-1),.int .i64 (-1),.int .i64 0,.int .i64 0,.slice none 0 0])),(2,.v (.agg #[.int .i64 3,.int .i64 0,.int .i64 (-1),.int .i64 (-1),.int .i64 (-1),.int .i64 0,.int .i64 0,.slice none 0 0])),(3,.v (.agg #[.int .i64 3,.int .i64 0,.int .i64 (-1),.int .i64 (-1),.int .i64 (-1),.int .i64 0,.int .i64 0,.slice none 0 0])),(4,.v (.agg #[.int .i64 3,.int .i64 0,.int .i64 (-1),.int .i64 (-1),.int .i64 (-1),.int .i64 (-1),.int .i64 0,.slice none 0 0])),(5,.v (.agg #[.int .i64 11,.int .i64 0,.int .i64 (-1),.int .i64 (-1),.int .i64 (-1),.int .i64 0,.int .i64 3,.slice none 0 0])),(6,.v (.agg #[.int .i64 11,.int .i64 0,.int .i64 (-1),.int .i64 (-1),.int .i64 (-1),.int .i64 0,.int .i64 3,.slice none 0 0])),(7,.v (.agg #[.int .i64 11,.int .i64 0,.int .i64 (-1),.int .i64 (-1),.int .i64 (-1),.int .i64 0,.int .i64 3,.slice none 0 0])),(8,.v (.agg #[.int .i64 11,.int .i64 0,.int .i64 (-1),.int .i64 (-1),.int .i64 (-1),.int .i64 0,.int .i64 3,.slice none 0 0])),(9,.v (.agg #[.int .i64 11,.int .i64 0,.int .i64 (-1),.int .i64 (-1),.int .i64 (-1),.int .i64 0,.int .i64 3,.slice none 0 0]))] hW7 ax fun bv ay=>?_
 refine qah (qb1 hW7 ay (e:=50) (size:=8) (len:=9) (cs:=[.int .i64 2,.int .i64 0,.int .i64 (-1),.int .i64 (-1),.int .i64 (-1),.int .i64 0,.int .i64 0,.slice none 0 0,.int .i64 3,.int .i64 0,.int .i64 (-1),.int .i64 (-1),.int .i64 (-1),.int .i64 0,.int .i64 0,.slice none 0 0,.int .i64 3,.int .i64 0,.int .i64 (-1),.int .i64 (-1),.int .i64 (-1),.int .i64 0,.int .i64 0,.slice none 0 0,.int .i64 3,.int .i64 0,.int .i64 (-1),.int .i64 (-1),.int .i64 (-1),.int .i64 (-1),.int .i64 0,.slice none 0 0,.int .i64 11,.int .i64 0,.int .i64 (-1),.int .i64 (-1),.int .i64 (-1),.int .i64 0,.int .i64 3,.slice none 0 0,.int .i64 11,.int .i64 0,.int .i64 (-1),.int .i64 (-1),.int .i64 (-1),.int .i64 0,.int .i64 3,.slice none 0 0,.int .i64 11,.int .i64 0,.int .i64 (-1),.int .i64 (-1),.int .i64 (-1),.int .i64 0,.int .i64 3,.slice none 0 0,.int .i64 11,.int .i64 0,.int .i64 (-1),.int .i64 (-1),.int .i64 (-1),.int .i64 0,.int .i64 3,.slice none 0 0,.int .i64 11,.int .i64 0,.int .i64 (-1),.int .i64 (-1),.int .i64 (-1),.int .i64 0,.int .i64 3,.slice none 0 0]) (d:=10) kz kz fun al bw bz aW aX aY ae aA=>?_)
 refine qak [10] [] [(0,.v (.slice (some ⟨al,0,none⟩) 9 9))] ae aA fun bA aB=>?_
 refine qae (qaa ?_)
 refine wp_ret ?_
 refine qaV aB ae.cells (v:=.slice (some ⟨al,0,none⟩) 9 9) kz ?_
 refine ⟨_,rfl,fun bB aC=>?_⟩
 have aD:EnvOk 9 [⟨b1,0,[.slice none 0 0,.int .i64 0],true⟩] [(5,.v (.slice (some ⟨al,0,none⟩) 9 9)),(1,.v (.agg #[.int .i64 2,.int .i64 0,.int .i64 (-1),.int .i64 (-1),.int .i64 (-1),.int .i64 0,.int .i64 0,.slice none 0 0])),(2,.v (.agg #[.int .i64 8,.int .i64 0,.int .i64 (-1),.int .i64 0,.int .i64 (-1),.int .i64 0,.int .i64 0,.slice none 0 0])),(3,.v (.agg #[.int .i64 7,.int .i64 0,.int .i64 (-1),.int .i64 (-1),.int .i64 (-1),.int .i64 0,.int .i64 0,.slice none 0 0])),(4,.v (.agg #[.int .i64 0,.int .i64 0,.int .i64 (-1),.int .i64 (-1),.int .i64 (-1),.int .i64 0,.int .i64 0,.slice none 0 0]))] _:=aC.places (⟨rfl,rfl,trivial⟩)
 refine qak [5,6] [7,8] [(1,.v (.agg #[.int .i64 2,.int .i64 0,.int .i64 (-1),.int .i64 (-1),.int .i64 (-1),.int .i64 0,.int .i64 0,.slice none 0 0])),(2,.v (.agg #[.int .i64 8,.int .i64 0,.int .i64 (-1),.int .i64 0,.int .i64 (-1),.int .i64 0,.int .i64 0,.slice none 0 0])),(3,.v (.agg #[.int .i64 7,.int .i64 0,.int .i64 (-1),.int .i64 (-1),.int .i64 (-1),.int .i64 0,.int .i64 0,.slice none 0 0])),(4,.v (.agg #[.int .i64 0,.int .i64 0,.int .i64 (-1),.int .i64 (-1),.int .i64 (-1),.int .i64 0,.int .i64 0,.slice none 0 0])),(6,.v (.agg #[.int .i64 11,.int .i64 0,.int .i64 (-1),.int .i64 (-1),.int .i64 (-1),.int .i64 0,.int .i64 10,.slice (some ⟨al,0,none⟩) 9 9])),(7,.v (.agg #[.int .i64 3,.int .i64 0,.int .i64 (-1),.int .i64 (-1),.int .i64 (-1),.int .i64 (-2147483648),.int .i64 0,.slice none 0 0]))] ae aD fun bC aE=>?_
 refine qah (qb1 ae aE (e:=50) (size:=8) (len:=6) (cs:=[.int .i64 2,.int .i64 0,.int .i64 (-1),.int .i64 (-1),.int .i64 (-1),.int .i64 0,.int .i64 0,.slice none 0 0,.int .i64 8,.int .i64 0,.int .i64 (-1),.int .i64 0,.int .i64 (-1),.int .i64 0,.int .i64 0,.slice none 0 0,.int .i64 7,.int .i64 0,.int .i64 (-1),.int .i64 (-1),.int .i64 (-1),.int .i64 0,.int .i64 0,.slice none 0 0,.int .i64 0,.int .i64 0,.int .i64 (-1),.int .i64 (-1),.int .i64 (-1),.int .i64 0,.int .i64 0,.slice none 0 0,.int .i64 11,.int .i64 0,.int .i64 (-1),.int .i64 (-1),.int .i64 (-1),.int .i64 0,.int .i64 10,.slice (some ⟨al,0,none⟩) 9 9,.int .i64 3,.int .i64 0,.int .i64 (-1),.int .i64 (-1),.int .i64 (-1),.int .i64 (-2147483648),.int .i64 0,.slice none 0 0]) (d:=8) kz kz fun af bD bE aZ ba bd ab aF=>?_)
 refine qak [8] [] [(0,.v (.slice (some ⟨af,0,none⟩) 6 6))] ab aF fun bF aG=>?_
 refine qae (qaa ?_)
 refine wp_ret ?_
 refine qaV aG ab.cells (v:=.slice (some ⟨af,0,none⟩) 6 6) kz ?_
 refine ⟨_,rfl,fun bG aH=>?_⟩
 have aI:EnvOk 8 [⟨b1,0,[.slice none 0 0,.int .i64 0],true⟩] [(2,.v (.slice (some ⟨af,0,none⟩) 6 6)),(0,.p 0 0),(1,.v (.agg #[.int .i64 3,.int .i64 0,.int .i64 (-1),.int .i64 (-1),.int .i64 (-1),.int .i64 0,.int .i64 0,.slice none 0 0]))] _:=aH.places (⟨rfl,rfl,trivial⟩)
 refine qak [2] [3,4,5,6,7] [(0,.p 0 0),(1,.v (.agg #[.int .i64 3,.int .i64 0,.int .i64 (-1),.int .i64 (-1),.int .i64 (-1),.int .i64 0,.int .i64 0,.slice none 0 0])),(3,.v (.agg #[.int .i64 11,.int .i64 0,.int .i64 (-1),.int .i64 (-1),.int .i64 (-1),.int .i64 0,.int .i64 10,.slice (some ⟨af,0,none⟩) 6 6]))] ab aI fun bH aJ=>?_
 refine qah (qb6 aJ (f:=17) (vs:=[]) (d:=4) (n':=4) kz Tryz.call17 Tryz.func17 rfl Tryz.ntmps17 kz fun bI aK=>?_)
 refine qaz [] ab aK fun bJ aL=>?_
 refine qad [0,1,2,3] kz ?_
 refine qak [0,1] [2,3] [(1,.v (.agg #[.int .i64 8,.int .i64 0,.int .i64 (-1),.int .i64 (-1),.int .i64 (-1),.int .i64 0,.int .i64 0,.slice none 0 0])),(2,.v (.agg #[.int .i64 3,.int .i64 0,.int .i64 (-1),.int .i64 (-1),.int .i64 (-1),.int .i64 0,.int .i64 0,.slice none 0 0]))] ab aL fun bK aM=>?_
 refine qah (qb1 ab aM (e:=50) (size:=8) (len:=2) (cs:=[.int .i64 8,.int .i64 0,.int .i64 (-1),.int .i64 (-1),.int .i64 (-1),.int .i64 0,.int .i64 0,.slice none 0 0,.int .i64 3,.int .i64 0,.int .i64 (-1),.int .i64 (-1),.int .i64 (-1),.int .i64 0,.int .i64 0,.slice none 0 0]) (d:=3) kz kz fun am bL bM bf bg bh ag aN=>?_)
 refine qak [3] [] [(0,.v (.slice (some ⟨am,0,none⟩) 2 2))] ag aN fun bN aO=>?_
 refine qae (qaa ?_)
 refine wp_ret ?_
 refine qaV aO ag.cells (v:=.slice (some ⟨am,0,none⟩) 2 2) kz ?_
 refine ⟨_,rfl,fun bO aP=>?_⟩
 have aQ:EnvOk 8 [⟨b1,0,[.slice none 0 0,.int .i64 0],true⟩] [(4,.v (.slice (some ⟨am,0,none⟩) 2 2)),(0,.p 0 0),(1,.v (.agg #[.int .i64 3,.int .i64 0,.int .i64 (-1),.int .i64 (-1),.int .i64 (-1),.int .i64 0,.int .i64 0,.slice none 0 0])),(3,.v (.agg #[.int .i64 11,.int .i64 0,.int .i64 (-1),.int .i64 (-1),.int .i64 (-1),.int .i64 0,.int .i64 10,.slice (some ⟨af,0,none⟩) 6 6]))] _:=aP.places (⟨rfl,rfl,trivial⟩)
 refine qak [4] [5,6,7] [(0,.p 0 0),(1,.v (.agg #[.int .i64 3,.int .i64 0,.int .i64 (-1),.int .i64 (-1),.int .i64 (-1),.int .i64 0,.int .i64 0,.slice none 0 0])),(3,.v (.agg #[.int .i64 11,.int .i64 0,.int .i64 (-1),.int .i64 (-1),.int .i64 (-1),.int .i64 0,.int .i64 10,.slice (some ⟨af,0,none⟩) 6 6])),(5,.v (.agg #[.int .i64 10,.int .i64 0,.int .i64 (-1),.int .i64 0,.int .i64 (-1),.int .i64 0,.int .i64 0,.slice (some ⟨am,0,none⟩) 2 2]))] ag aQ fun bP aR=>?_
 refine qah (qb1 ag aR (e:=50) (size:=8) (len:=3) (cs:=[.int .i64 3,.int .i64 0,.int .i64 (-1),.int .i64 (-1),.int .i64 (-1),.int .i64 0,.int .i64 0,.slice none 0 0,.int .i64 11,.int .i64 0,.int .i64 (-1),.int .i64 (-1),.int .i64 (-1),.int .i64 0,.int .i64 10,.slice (some ⟨af,0,none⟩) 6 6,.int .i64 10,.int .i64 0,.int .i64 (-1),.int .i64 0,.int .i64 (-1),.int .i64 0,.int .i64 0,.slice (some ⟨am,0,none⟩) 2 2]) (d:=6) kz kz fun aS bQ bR bi bj bk ao aT=>?_)
 refine qak [6] [7] [(0,.p 0 0),(7,.v (.agg #[.slice (some ⟨aS,0,none⟩) 3 3,.int .i64 0]))] ao aT fun bS aU=>?_
 refine qah (qaj ao aU (oi:=0) (cs:=[.slice (some ⟨aS,0,none⟩) 3 3,.int .i64 0]) kz fun aa bn ac aV=>?_)
 refine qae (qaa ?_)
 refine wp_ret ?_
 refine qaV aV ac.cells (v:=.agg #[.slice (some ⟨aS,0,none⟩) 3 3,.int .i64 0]) kz ?_
 have ah:=Flds.slots (F:=F) ac (k:=0) (n:=9) (xs:=[.int .i64 2,.int .i64 0,.int .i64 (-1),.int .i64 (-1),.int .i64 (-1),.int .i64 0,.int .i64 0,.slice none 0 0,.int .i64 3,.int .i64 0,.int .i64 (-1),.int .i64 (-1),.int .i64 (-1),.int .i64 0,.int .i64 0,.slice none 0 0,.int .i64 3,.int .i64 0,.int .i64 (-1),.int .i64 (-1),.int .i64 (-1),.int .i64 0,.int .i64 0,.slice none 0 0,.int .i64 3,.int .i64 0,.int .i64 (-1),.int .i64 (-1),.int .i64 (-1),.int .i64 (-1),.int .i64 0,.slice none 0 0,.int .i64 11,.int .i64 0,.int .i64 (-1),.int .i64 (-1),.int .i64 (-1),.int .i64 0,.int .i64 3,.slice none 0 0,.int .i64 11,.int .i64 0,.int .i64 (-1),.int .i64 (-1),.int .i64 (-1),.int .i64 0,.int .i64 3,.slice none 0 0,.int .i64 11,.int .i64 0,.int .i64 (-1),.int .i64 (-1),.int .i64 (-1),.int .i64 0,.int .i64 3,.slice none 0 0,.int .i64 11,.int .i64 0,.int .i64 (-1),.int .i64 (-1),.int .i64 (-1),.int .i64 0,.int .i64 3,.slice none 0 0,.int .i64 11,.int .i64 0,.int .i64 (-1),.int .i64 (-1),.int .i64 (-1),.int .i64 0,.int .i64 3,.slice none 0 0]) rfl (Flds.snoc (Flds.snoc (Flds.snoc (Flds.snoc (Flds.snoc (Flds.snoc (Flds.snoc (Flds.snoc (Flds.snoc (Flds.nil _ _) (c:=[.int .i64 2,.int .i64 0,.int .i64 (-1),.int .i64 (-1),.int .i64 (-1),.int .i64 0,.int .i64 0,.slice none 0 0]) (x:=(Fld.mk 2 0 (-1) (-1) (-1) 0 0 [])) (FldR.mk (l:=[]) _ (qbz aa (Fp F w)).1 (qbz aa (Fp F w)).2)) (c:=[.int .i64 3,.int .i64 0,.int .i64 (-1),.int .i64 (-1),.int .i64 (-1),.int .i64 0,.int .i64 0,.slice none 0 0]) (x:=(Fld.mk 3 0 (-1) (-1) (-1) 0 0 [])) (FldR.mk (l:=[]) _ (qbz aa (Fp F w)).1 (qbz aa (Fp F w)).2)) (c:=[.int .i64 3,.int .i64 0,.int .i64 (-1),.int .i64 (-1),.int .i64 (-1),.int .i64 0,.int .i64 0,.slice none 0 0]) (x:=(Fld.mk 3 0 (-1) (-1) (-1) 0 0 [])) (FldR.mk (l:=[]) _ (qbz aa (Fp F w)).1 (qbz aa (Fp F w)).2)) (c:=[.int .i64 3,.int .i64 0,.int .i64 (-1),.int .i64 (-1),.int .i64 (-1),.int .i64 (-1),.int .i64 0,.slice none 0 0]) (x:=(Fld.mk 3 0 (-1) (-1) (-1) (-1) 0 [])) (FldR.mk (l:=[]) _ (qbz aa (Fp F w)).1 (qbz aa (Fp F w)).2)) (c:=[.int .i64 11,.int .i64 0,.int .i64 (-1),.int .i64 (-1),.int .i64 (-1),.int .i64 0,.int .i64 3,.slice none 0 0]) (x:=(Fld.mk 11 0 (-1) (-1) (-1) 0 3 [])) (FldR.mk (l:=[]) _ (qbz aa (Fp F w)).1 (qbz aa (Fp F w)).2)) (c:=[.int .i64 11,.int .i64 0,.int .i64 (-1),.int .i64 (-1),.int .i64 (-1),.int .i64 0,.int .i64 3,.slice none 0 0]) (x:=(Fld.mk 11 0 (-1) (-1) (-1) 0 3 [])) (FldR.mk (l:=[]) _ (qbz aa (Fp F w)).1 (qbz aa (Fp F w)).2)) (c:=[.int .i64 11,.int .i64 0,.int .i64 (-1),.int .i64 (-1),.int .i64 (-1),.int .i64 0,.int .i64 3,.slice none 0 0]) (x:=(Fld.mk 11 0 (-1) (-1) (-1) 0 3 [])) (FldR.mk (l:=[]) _ (qbz aa (Fp F w)).1 (qbz aa (Fp F w)).2)) (c:=[.int .i64 11,.int .i64 0,.int .i64 (-1),.int .i64 (-1),.int .i64 (-1),.int .i64 0,.int .i64 3,.slice none 0 0]) (x:=(Fld.mk 11 0 (-1) (-1) (-1) 0 3 [])) (FldR.mk (l:=[]) _ (qbz aa (Fp F w)).1 (qbz aa (Fp F w)).2)) (c:=[.int .i64 11,.int .i64 0,.int .i64 (-1),.int .i64 (-1),.int .i64 (-1),.int .i64 0,.int .i64 3,.slice none 0 0]) (x:=(Fld.mk 11 0 (-1) (-1) (-1) 0 3 [])) (FldR.mk (l:=[]) _ (qbz aa (Fp F w)).1 (qbz aa (Fp F w)).2)) rfl (by decide)
 have ai:=Flds.slots (F:=F) ac (k:=1) (n:=6) (xs:=[.int .i64 2,.int .i64 0,.int .i64 (-1),.int .i64 (-1),.int .i64 (-1),.int .i64 0,.int .i64 0,.slice none 0 0,.int .i64 8,.int .i64 0,.int .i64 (-1),.int .i64 0,.int .i64 (-1),.int .i64 0,.int .i64 0,.slice none 0 0,.int .i64 7,.int .i64 0,.int .i64 (-1),.int .i64 (-1),.int .i64 (-1),.int .i64 0,.int .i64 0,.slice none 0 0,.int .i64 0,.int .i64 0,.int .i64 (-1),.int .i64 (-1),.int .i64 (-1),.int .i64 0,.int .i64 0,.slice none 0 0,.int .i64 11,.int .i64 0,.int .i64 (-1),.int .i64 (-1),.int .i64 (-1),.int .i64 0,.int .i64 10,.slice (some ⟨al,0,none⟩) 9 9,.int .i64 3,.int .i64 0,.int .i64 (-1),.int .i64 (-1),.int .i64 (-1),.int .i64 (-2147483648),.int .i64 0,.slice none 0 0]) rfl (Flds.snoc (Flds.snoc (Flds.snoc (Flds.snoc (Flds.snoc (Flds.snoc (Flds.nil _ _) (c:=[.int .i64 2,.int .i64 0,.int .i64 (-1),.int .i64 (-1),.int .i64 (-1),.int .i64 0,.int .i64 0,.slice none 0 0]) (x:=(Fld.mk 2 0 (-1) (-1) (-1) 0 0 [])) (FldR.mk (l:=[]) _ (qbz aa (Fp F w)).1 (qbz aa (Fp F w)).2)) (c:=[.int .i64 8,.int .i64 0,.int .i64 (-1),.int .i64 0,.int .i64 (-1),.int .i64 0,.int .i64 0,.slice none 0 0]) (x:=(Fld.mk 8 0 (-1) 0 (-1) 0 0 [])) (FldR.mk (l:=[]) _ (qbz aa (Fp F w)).1 (qbz aa (Fp F w)).2)) (c:=[.int .i64 7,.int .i64 0,.int .i64 (-1),.int .i64 (-1),.int .i64 (-1),.int .i64 0,.int .i64 0,.slice none 0 0]) (x:=(Fld.mk 7 0 (-1) (-1) (-1) 0 0 [])) (FldR.mk (l:=[]) _ (qbz aa (Fp F w)).1 (qbz aa (Fp F w)).2)) (c:=[.int .i64 0,.int .i64 0,.int .i64 (-1),.int .i64 (-1),.int .i64 (-1),.int .i64 0,.int .i64 0,.slice none 0 0]) (x:=(Fld.mk 0 0 (-1) (-1) (-1) 0 0 [])) (FldR.mk (l:=[]) _ (qbz aa (Fp F w)).1 (qbz aa (Fp F w)).2)) (c:=[.int .i64 11,.int .i64 0,.int .i64 (-1),.int .i64 (-1),.int .i64 (-1),.int .i64 0,.int .i64 10,.slice (some ⟨al,0,none⟩) 9 9]) (x:=(Fld.mk 11 0 (-1) (-1) (-1) 0 10 [(Fld.mk 2 0 (-1) (-1) (-1) 0 0 []),(Fld.mk 3 0 (-1) (-1) (-1) 0 0 []),(Fld.mk 3 0 (-1) (-1) (-1) 0 0 []),(Fld.mk 3 0 (-1) (-1) (-1) (-1) 0 []),(Fld.mk 11 0 (-1) (-1) (-1) 0 3 []),(Fld.mk 11 0 (-1) (-1) (-1) 0 3 []),(Fld.mk 11 0 (-1) (-1) (-1) 0 3 []),(Fld.mk 11 0 (-1) (-1) (-1) 0 3 []),(Fld.mk 11 0 (-1) (-1) (-1) 0 3 [])])) (FldR.mk (l:=[(Fld.mk 2 0 (-1) (-1) (-1) 0 0 []),(Fld.mk 3 0 (-1) (-1) (-1) 0 0 []),(Fld.mk 3 0 (-1) (-1) (-1) 0 0 []),(Fld.mk 3 0 (-1) (-1) (-1) (-1) 0 []),(Fld.mk 11 0 (-1) (-1) (-1) 0 3 []),(Fld.mk 11 0 (-1) (-1) (-1) 0 3 []),(Fld.mk 11 0 (-1) (-1) (-1) 0 3 []),(Fld.mk 11 0 (-1) (-1) (-1) 0 3 []),(Fld.mk 11 0 (-1) (-1) (-1) 0 3 [])]) _ ah.1 ah.2)) (c:=[.int .i64 3,.int .i64 0,.int .i64 (-1),.int .i64 (-1),.int .i64 (-1),.int .i64 (-2147483648),.int .i64 0,.slice none 0 0]) (x:=(Fld.mk 3 0 (-1) (-1) (-1) (-2147483648) 0 [])) (FldR.mk (l:=[]) _ (qbz aa (Fp F w)).1 (qbz aa (Fp F w)).2)) rfl (by decide)
 have aj:=Flds.slots (F:=F) ac (k:=2) (n:=2) (xs:=[.int .i64 8,.int .i64 0,.int .i64 (-1),.int .i64 (-1),.int .i64 (-1),.int .i64 0,.int .i64 0,.slice none 0 0,.int .i64 3,.int .i64 0,.int .i64 (-1),.int .i64 (-1),.int .i64 (-1),.int .i64 0,.int .i64 0,.slice none 0 0]) rfl (Flds.snoc (Flds.snoc (Flds.nil _ _) (c:=[.int .i64 8,.int .i64 0,.int .i64 (-1),.int .i64 (-1),.int .i64 (-1),.int .i64 0,.int .i64 0,.slice none 0 0]) (x:=(Fld.mk 8 0 (-1) (-1) (-1) 0 0 [])) (FldR.mk (l:=[]) _ (qbz aa (Fp F w)).1 (qbz aa (Fp F w)).2)) (c:=[.int .i64 3,.int .i64 0,.int .i64 (-1),.int .i64 (-1),.int .i64 (-1),.int .i64 0,.int .i64 0,.slice none 0 0]) (x:=(Fld.mk 3 0 (-1) (-1) (-1) 0 0 [])) (FldR.mk (l:=[]) _ (qbz aa (Fp F w)).1 (qbz aa (Fp F w)).2)) rfl (by decide)
 have ak:=Flds.slots (F:=F) ac (k:=3) (n:=3) (xs:=[.int .i64 3,.int .i64 0,.int .i64 (-1),.int .i64 (-1),.int .i64 (-1),.int .i64 0,.int .i64 0,.slice none 0 0,.int .i64 11,.int .i64 0,.int .i64 (-1),.int .i64 (-1),.int .i64 (-1),.int .i64 0,.int .i64 10,.slice (some ⟨af,0,none⟩) 6 6,.int .i64 10,.int .i64 0,.int .i64 (-1),.int .i64 0,.int .i64 (-1),.int .i64 0,.int .i64 0,.slice (some ⟨am,0,none⟩) 2 2]) rfl (Flds.snoc (Flds.snoc (Flds.snoc (Flds.nil _ _) (c:=[.int .i64 3,.int .i64 0,.int .i64 (-1),.int .i64 (-1),.int .i64 (-1),.int .i64 0,.int .i64 0,.slice none 0 0]) (x:=(Fld.mk 3 0 (-1) (-1) (-1) 0 0 [])) (FldR.mk (l:=[]) _ (qbz aa (Fp F w)).1 (qbz aa (Fp F w)).2)) (c:=[.int .i64 11,.int .i64 0,.int .i64 (-1),.int .i64 (-1),.int .i64 (-1),.int .i64 0,.int .i64 10,.slice (some ⟨af,0,none⟩) 6 6]) (x:=(Fld.mk 11 0 (-1) (-1) (-1) 0 10 [(Fld.mk 2 0 (-1) (-1) (-1) 0 0 []),(Fld.mk 8 0 (-1) 0 (-1) 0 0 []),(Fld.mk 7 0 (-1) (-1) (-1) 0 0 []),(Fld.mk 0 0 (-1) (-1) (-1) 0 0 []),(Fld.mk 11 0 (-1) (-1) (-1) 0 10 [(Fld.mk 2 0 (-1) (-1) (-1) 0 0 []),(Fld.mk 3 0 (-1) (-1) (-1) 0 0 []),(Fld.mk 3 0 (-1) (-1) (-1) 0 0 []),(Fld.mk 3 0 (-1) (-1) (-1) (-1) 0 []),(Fld.mk 11 0 (-1) (-1) (-1) 0 3 []),(Fld.mk 11 0 (-1) (-1) (-1) 0 3 []),(Fld.mk 11 0 (-1) (-1) (-1) 0 3 []),(Fld.mk 11 0 (-1) (-1) (-1) 0 3 []),(Fld.mk 11 0 (-1) (-1) (-1) 0 3 [])]),(Fld.mk 3 0 (-1) (-1) (-1) (-2147483648) 0 [])])) (FldR.mk (l:=[(Fld.mk 2 0 (-1) (-1) (-1) 0 0 []),(Fld.mk 8 0 (-1) 0 (-1) 0 0 []),(Fld.mk 7 0 (-1) (-1) (-1) 0 0 []),(Fld.mk 0 0 (-1) (-1) (-1) 0 0 []),(Fld.mk 11 0 (-1) (-1) (-1) 0 10 [(Fld.mk 2 0 (-1) (-1) (-1) 0 0 []),(Fld.mk 3 0 (-1) (-1) (-1) 0 0 []),(Fld.mk 3 0 (-1) (-1) (-1) 0 0 []),(Fld.mk 3 0 (-1) (-1) (-1) (-1) 0 []),(Fld.mk 11 0 (-1) (-1) (-1) 0 3 []),(Fld.mk 11 0 (-1) (-1) (-1) 0 3 []),(Fld.mk 11 0 (-1) (-1) (-1) 0 3 []),(Fld.mk 11 0 (-1) (-1) (-1) 0 3 []),(Fld.mk 11 0 (-1) (-1) (-1) 0 3 [])]),(Fld.mk 3 0 (-1) (-1) (-1) (-2147483648) 0 [])]) _ ai.1 ai.2)) (c:=[.int .i64 10,.int .i64 0,.int .i64 (-1),.int .i64 0,.int .i64 (-1),.int .i64 0,.int .i64 0,.slice (some ⟨am,0,none⟩) 2 2]) (x:=(Fld.mk 10 0 (-1) 0 (-1) 0 0 [(Fld.mk 8 0 (-1) (-1) (-1) 0 0 []),(Fld.mk 3 0 (-1) (-1) (-1) 0 0 [])])) (FldR.mk (l:=[(Fld.mk 8 0 (-1) (-1) (-1) 0 0 []),(Fld.mk 3 0 (-1) (-1) (-1) 0 0 [])]) _ aj.1 aj.2)) rfl (by decide)
 exact ⟨_,_,rfl,⟨_,ak.1,ak.2⟩,ac.step⟩
end Go.Proofs.YtajibgahdkllkaaGreat.ME