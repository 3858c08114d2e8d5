/- Packed. Own work. -/
import Derived.Test.YtipblegipibplaaGreatDoorWqP1
namespace Go.Proofs.YtipblegipibplaaGreatDoor.ME
open Go
open Go.RowKit
set_option linter.unusedVariables false
set_option linter.unusedSimpArgs false
set_option maxRecDepth 20000
theorem Mh (Af:Option Addr) (cf:Nat) (l:List Fld) (A:Option Addr) (c:Nat) (u:List (Int × Bs)) (w:World) (F:Nat → Nat → Prop) (hl:FldsR w F Af cf l) (hu:TagsR w F A c u) :
  Calls Tryz.prog 39 #[.slice Af l.length cf,.slice A u.length c] w (Hv w F (I6 l u)):=by
 obtain ⟨xf,hf1,hf2⟩:=hl.ex
 obtain ⟨xu,hu1,hu2⟩:=hu.ex
 have hsmu:=hu1.small
 have hule:(u.take 32767).length ≤ 32767:=by rw [List.length_take]; omega
 refine enter (n:=85) Tryz.func39 rfl Tryz.ntmps39 kz fun a hE=>?_
 have hW:=WOk.start w B5
 let bf:Nat × SV:=(1,.v (.slice A u.length c))
 refine C1 [(0,.v (.slice Af l.length cf)),bf] hW hE fun a1 hE2=>?_
 refine B8 [0,1,2] kz ?_
 refine B3 [0] [1,2] [bf,(11,.v (.slice Af l.length cf))] hW hE2 fun a3 hE4=>?_
 refine B1 (C3 hE4 (f:=79) (vs:=[.slice Af l.length cf]) (d:=12) kz Tryz.call79 (Mg _ _ l _ _ ⟨xf,(hf1.move hW.step B0 hW.imm),(fun i_ x_ h_=>((hf2 i_ x_ h_).move hW.step B0 hW.imm))⟩) ?_)
 rintro e_ w6 ⟨rfl,hs5⟩
 refine ⟨_,rfl,fun a7 hE8=>?_⟩
 have hW9:=hW.next_nil hs5
 have gj:=hW.frN hs5
 refine B3 [2] [] [bf,(5,.v (.int .u32 (E4 l)))] hW9 hE8 fun iV fu=>?_
 refine B4 (A7 ?_)
 let bj:Nat × SV:=(6,.v (.slice none 0 0))
 refine C1 [bf,(5,.v (.int .u32 (E4 l))),bj] hW9 fu fun iW fv=>?_
 refine wp_seq (B8 [0,1,2,3,4,5,6] kz ?_)
 refine B3 [0,1,2,3] [4,5,6] [(5,.v (.int .u32 (E4 l))),bj,(13,.v (.slice A u.length c)),(16,.v (.int .i64 (if 32767 < ((u.length:Nat):Int) then 32767 else ((u.length:Nat):Int))))] hW9 fv fun iX fw=>?_
 refine B1 (DH fw (t:=32) (A:=A) (m:=u.length) (cp:=c) (q:=(if 32767 < ((u.length:Nat):Int) then 32767 else ((u.length:Nat):Int))) (d:=17) (j:=(u.take 32767).length) kz (e:=87) (size:=2) (bytes:=32) kz (by simpa using EK u.length) (by rw [List.length_take]; have:=hu1.le; omega) fun iY fx=>?_)
 let ab:Nat × SV:=(17,.v (.slice A ((u.take 32767).length) c))
 let ac:Nat × SV:=(18,.v (.int .i64 (((u.take 32767).length:Nat):Int)))
 refine B3 [5,6] [] [(5,.v (.int .u32 (E4 l))),bj,ab,ac,(19,.v (.int .i64 0))] hW9 fx fun iZ fy=>?_
 refine B4 (A7 ?_)
 refine wp_block ?_
 have dn:=hW9.addNil 87 2
 have gk:=hW9.frNil 87 2
 refine wp_loop_ghost (fun n_ a_ w_=>∃ (k:Nat) (A_:Option Addr) (c_:Nat) (out:List (Int × Bs)) (css:List (List Value)),n_ = (u.take 32767).length - k ∧ k ≤ (u.take 32767).length ∧ (TagsE w_ (D4 F w w_ [] [⟨A_,c_,87,2,out.length,css.flatten⟩]) out css) ∧ (out = ((u.take 32767).take k).foldl (N2 (E4 l)) []) ∧ (out.length ≤ k) ∧ F1 dn 85 [] [⟨A_,c_,87,2,out.length,css.flatten⟩] [(5,.v (.int .u32 (E4 l))),(6,.v (.slice A_ out.length c_)),ab,ac,(19,.v (.int .i64 ((k:Nat):Int)))] a_ w_) ((u.take 32767).length) ⟨0,none,0,[],[],by omega,by omega,TagsE.nil _ _,rfl,Nat.zero_le _,fy.pk,dn,Fr.refl _ _ _⟩ ?_
 rintro i6 i7 ja ⟨k,A_,c_,out,css,gm,gn,hT,hout,hlen,fA,bg,bk⟩
 let ah:Nat × SV:=(6,.v (.slice A_ out.length c_))
 let ae:Nat × SV:=(19,.v (.int .i64 ((k:Nat):Int)))
 refine C1 [(5,.v (.int .u32 (E4 l))),ah,ab,ac,ae,(20,.v (.bool (decide (((k:Nat):Int) < (((u.take 32767).length:Nat):Int)))))] bg fA fun jb dc=>?_
 refine wp_seq (D8 dc (b:=decide (((k:Nat):Int) < (((u.take 32767).length:Nat):Int))) kz (fun de=>?_) (fun de=>?_))
 ·
  have gp:=of_decide_eq_true de
  refine wp_skip (A7 (wp_seq (wp_block (B8 [0,1,2,3] kz ?_))))
  obtain ⟨gq,gt,fB,gv,bZ⟩:=Slots.get (Ll hu1 32767) (i:=k) (by omega)
  obtain ⟨⟨aG,aX⟩,bh⟩:∃ x,(u.take 32767)[k]? = some x:=⟨_,List.getElem?_eq_getElem (by omega)⟩
  obtain ⟨⟨df,dg,dp,dq⟩,fQ,fR⟩:=(Lm hu2 32767) k aG aX bh
  rw [dp] at bZ
  refine B1 (F2 dc (t:=32) (A:=A) (m:=((u.take 32767).length)) (q:=((k:Nat):Int)) (d:=21) kz (e:=87) (size:=2) (bytes:=32) kz fB rfl (by omega) fun jc fC=>?_)
  let aH:Value:=.int .u32 aG
  let aI:Value:=.slice df aX.length dg
  refine B1 (G7 fC (t:=87) (b:=gq) (o:=gt + k * 2) (d:=22) kz (cs:=[aH,aI]) (v:=.agg #[aH,aI]) kz (AtF.move bZ bg.step B0 E6).at_ fun jd fD=>?_)
  let ap:Value:=.int .u32 0
  let ar:Value:=.slice none 0 0
  refine B1 (D7 bg fD (d:=8) (cs:=[ap,ar]) kz fun gw je jf gy gz ak fE fF=>?_)
  refine B1 (C7 fE fF (oi:=0) (cs:=[aH,aI]) kz fun jg al dh fG=>?_)
  refine B4 (A7 ?_)
  let af:Nat × SV:=(8,.p 0 0)
  refine C1 [(5,.v (.int .u32 (E4 l))),ah,af,(9,.v (.int .i64 0)),ab,ac,ae] dh fG fun jh fH=>?_
  refine wp_seq (wp_block ?_)
  let bn:Ob:=⟨gw,0,[aH,aI],true⟩
  refine wp_loop_ghost (fun n_ a_ w_=>∃ (i:Nat),n_ = out.length - i ∧ (i ≤ out.length) ∧ (∀ q,q < i → (out.getD q (0,[])).1 < aG) ∧ F1 dh 85 [bn] [⟨A_,c_,87,2,out.length,css.flatten⟩] [(5,.v (.int .u32 (E4 l))),ah,af,(9,.v (.int .i64 ((i:Nat):Int))),ab,ac,ae] a_ w_) (out.length - 0) ⟨0,rfl,Nat.zero_le _,fun q h_=>absurd h_ (Nat.not_lt_zero q),fH.pk,dh,Fr.refl _ _ _⟩ ?_
  rintro ji jj jk ⟨i,gA,hi,hlt,fI,fJ,ai⟩
  refine wp_seq (Br kz fJ fun jl aj aQ=>?_)
  let ag:Nat × SV:=(9,.v (.int .i64 ((i:Nat):Int)))
  refine D6 [0,1,2,3,4] [(5,.v (.int .u32 (E4 l))),ah,af,ag,ab,ac,ae,(27,.v (.bool (decide (((i:Nat):Int) < ((out.length:Nat):Int)))))] 9 (B2 (B2 (B2 (C0 (B2 (C0 (B2 (B2 (C0 (B2 C6)))))))))) (fun _ h=>h ▸ aQ.cells) rfl fI fun jm dr=>?_
  let aL:Nat × SV:=(43,.v (.bool false))
  let aM:Nat × SV:=(48,.v (.bool (decide (((i:Nat):Int) < ((out.length:Nat):Int)))))
  let cd:Nat × SV:=(60,.v (.agg #[ap,ar]))
  let ce:Nat × SV:=(80,.v (.int .i64 ((i:Nat):Int)))
  let cg:Nat × SV:=(81,.v (.agg #[aH,aI]))
  refine (Bool.eq_false_or_eq_true (decide (((i:Nat):Int) < ((out.length:Nat):Int)))).elim (fun bd=>?_) (fun bd=>?_)
  ·
   have gB:=of_decide_eq_true bd
   let bp:Nat × SV:=(27,.v (.bool true))
   have fK:=dr.cast (env':=[(5,.v (.int .u32 (E4 l))),ah,af,ag,ab,ac,ae,bp]) (by simp only [aM,bd]; try rfl)
   refine D6 [5,6,10,11] [(5,.v (.int .u32 (E4 l))),ah,af,ag,ab,ac,ae,bp,(28,.v (.slice A_ out.length c_)),(29,.v (.int .i64 ((i:Nat):Int))),(34,.v (.int .u32 aG))] 5 (B2 (B2 (B2 (C0 (B2 (C0 (B2 (B2 (C0 (B2 C6)))))))))) (fun _ h=>h ▸ aQ.cells) rfl fK fun jn fL=>?_
   obtain ⟨fM,dt⟩:=Q9 (aQ.own 0 _ rfl) (show 0 < out.length by omega)
   obtain ⟨⟨ft,jo⟩,bW⟩:∃ x,out[i]? = some x:=⟨_,List.getElem?_eq_getElem (by omega)⟩
   obtain ⟨jp,jq,fN,gC,jr,js⟩:=TagsE.get2 (hT.move (((ak.trans al).trans ai).trans aj).step immM (((ak.trans al).trans ai).trans aj).to') bW
   have du:=DM (aQ.own 0 _ rfl) dt (DW (hT.move (((ak.trans al).trans ai).trans aj).step immM (((ak.trans al).trans ai).trans aj).to').two fN)
   refine H9 fL (i:=7) (t:=32) (A:=A_) (m:=out.length) (q:=((i:Nat):Int)) (d:=30) kz (e:=87) (size:=2) (bytes:=32) kz (b:=fM) (o:=0) (j:=i) dt (rfl) (by omega) kz kz (B2 (B2 (B2 (C0 (B2 (C0 (B2 (B2 (C0 (B2 C6)))))))))) rfl fun jt fO=>?_
   refine D6 [8] [(5,.v (.int .u32 (E4 l))),ah,af,ag,ab,ac,ae,bp,(31,.v (.pointer (some ⟨fM,0 + i * 2,none⟩))),(34,.v (.int .u32 aG))] 3 (B2 (B2 (B2 (C0 (B2 (C0 (B2 (B2 (C0 (B2 C6)))))))))) (fun _ h=>h ▸ aQ.cells) rfl fO fun ju fP=>?_
   refine P4 fP (i:=9) (t:=85) (b:=fM) (o:=0 + i * 2) (d:=32) kz (cs:=[.int .u32 ft]) (v:=.int .u32 ft) kz (fun w' h'=>h' ▸ (At.drop du 0 1)) kz kz (B2 (B2 (B2 (C0 (B2 (C0 (B2 (B2 (C0 (B2 C6)))))))))) rfl fun gD dv=>?_
   refine D6 [12,13] [(5,.v (.int .u32 (E4 l))),ah,af,ag,ab,ac,ae,(36,.v (.bool (decide (ft < aG))))] 0 (B2 (B2 (B2 (C0 (B2 (C0 (B2 (B2 (C0 (B2 C6)))))))))) (fun _ h=>h ▸ aQ.cells) rfl dv fun gE bq=>?_
   refine F3 kz ?_ _
   refine A7 (D8 bq (b:=decide (ft < aG)) kz (fun bt=>?_) (fun bt=>?_))
   ·
    have fS:=of_decide_eq_true bt
    refine wp_skip (A7 (wp_block (D9 [0,1,2] kz ?_)))
    refine B3 [0,1,2] [] [(5,.v (.int .u32 (E4 l))),ah,af,(9,.v (.int .i64 (IntKind.i64.wrap (((i:Nat):Int) + 1)))),ab,ac,ae] aQ bq fun gF cm=>?_
    refine B4 (G2 (A7 ?_))
    have dw:IntKind.i64.wrap (((i:Nat):Int) + 1) = ((i + 1:Nat):Int):=H1 (by omega)
    rw [dw] at cm
    exact ⟨out.length - (i + 1),by omega,(i + 1),rfl,by omega,fun q hq=>by rcases Nat.lt_succ_iff_lt_or_eq.1 hq with h_ | h_; exact hlt q h_; rw [h_,In bW]; assumption,cm.pk,aQ,(ai.trans aj)⟩
   have fT:=of_decide_eq_false bt
   refine wp_exit (E2 (E2 (G3 (A7 (wp_seq (Br kz aQ fun gG am ay=>?_))))))
   refine D6 [0,1,2,3,4] [(5,.v (.int .u32 (E4 l))),ah,af,ag,ab,ac,ae,(43,.v (.bool (decide (aG < (E4 l)))))] 15 (B2 (B2 (C0 (B2 (B2 (C0 (B2 C6))))))) (fun _ h=>h ▸ ay.cells) rfl bq fun gH cn=>?_
   refine (Bool.eq_false_or_eq_true (decide (aG < (E4 l)))).elim (fun aY=>?_) (fun aY=>?_)
   ·
    have fV:=of_decide_eq_true aY
    have dx:=cn
    rw [aY] at dx
    refine D6 [5,6,7,8,9,10,11,12,13,14,15,16,17,18,19] [(5,.v (.int .u32 (E4 l))),ah,af,ag,ab,ac,ae,(58,.v (.bool true))] 0 (B2 (B2 (C0 (B2 (B2 (C0 (B2 C6))))))) (fun _ h=>h ▸ ay.cells) rfl dx fun gI cq=>?_
    refine F3 kz ?_ _
    refine A7 (Q6 cq (b:=true) kz rfl ?_)
    refine wp_exit (E2 (G3 (A7 (D9 [0,1] kz ?_))))
    refine B3 [0,1] [] [(5,.v (.int .u32 (E4 l))),ah,ab,ac,(19,.v (.int .i64 (IntKind.i64.wrap (((k:Nat):Int) + 1))))] ay cq fun gJ dy=>?_
    refine B4 (A7 ?_)
    obtain ⟨cr,dA,bu⟩:=ay.cutB dy 0 [] [(5,.v (.int .u32 (E4 l))),ah,ab,ac,(19,.v (.int .i64 (IntKind.i64.wrap (((k:Nat):Int) + 1))))]
    have dB:IntKind.i64.wrap (((k:Nat):Int) + 1) = ((k + 1:Nat):Int):=H1 (by omega)
    rw [dB] at cr
    exact ⟨(u.take 32767).length - (k + 1),by omega,k + 1,A_,c_,out,css,rfl,by omega,(hT.move (((((ak.trans al).trans ai).trans aj).trans am).trans bu).step immM (((((ak.trans al).trans ai).trans aj).trans am).trans bu).to'),by rw [CP bh,← hout]; exact (Io ‹_›).symm,by omega,cr.pk,dA,((((((bk.trans ak).trans al).trans ai).trans aj).trans am).trans bu)⟩
   have fW:=of_decide_eq_false aY
   have dC:=cn
   rw [aY] at dC
   refine D6 [5,6,7,8,9] [(5,.v (.int .u32 (E4 l))),ah,af,ag,ab,ac,ae,aL,aM] 10 (B2 (B2 (C0 (B2 (B2 (C0 (B2 C6))))))) (fun _ h=>h ▸ ay.cells) rfl dC fun gK dD=>?_
   have dE:(decide (((i:Nat):Int) < ((out.length:Nat):Int))) = true:=bd
   have dF:=dD.cast (env':=[(5,.v (.int .u32 (E4 l))),ah,af,ag,ab,ac,ae,aL,(48,.v (.bool true))]) (by simp only [aM,dE]; try rfl)
   refine D6 [10,11,15,16] [(5,.v (.int .u32 (E4 l))),ah,af,ag,ab,ac,ae,aL,(48,.v (.bool true)),(49,.v (.slice A_ out.length c_)),(50,.v (.int .i64 ((i:Nat):Int))),(55,.v (.int .u32 aG))] 6 (B2 (B2 (C0 (B2 (B2 (C0 (B2 C6))))))) (fun _ h=>h ▸ ay.cells) rfl dF fun gL dG=>?_
   obtain ⟨di,cu⟩:=Q9 (ay.own 0 _ rfl) (show 0 < out.length by omega)
   obtain ⟨⟨bi,gM⟩,aZ⟩:∃ x,out[i]? = some x:=⟨_,List.getElem?_eq_getElem (by omega)⟩
   obtain ⟨gN,gO,dH,fX,gP,gQ⟩:=TagsE.get2 (hT.move ((((ak.trans al).trans ai).trans aj).trans am).step immM ((((ak.trans al).trans ai).trans aj).trans am).to') aZ
   have dj:=DM (ay.own 0 _ rfl) cu (DW (hT.move ((((ak.trans al).trans ai).trans aj).trans am).step immM ((((ak.trans al).trans ai).trans aj).trans am).to').two dH)
   refine H9 dG (i:=12) (t:=32) (A:=A_) (m:=out.length) (q:=((i:Nat):Int)) (d:=51) kz (e:=87) (size:=2) (bytes:=32) kz (b:=di) (o:=0) (j:=i) cu (rfl) (by omega) kz kz (B2 (B2 (C0 (B2 (B2 (C0 (B2 C6))))))) rfl fun gR dI=>?_
   refine D6 [13] [(5,.v (.int .u32 (E4 l))),ah,af,ag,ab,ac,ae,aL,(48,.v (.bool true)),(52,.v (.pointer (some ⟨di,0 + i * 2,none⟩))),(55,.v (.int .u32 aG))] 4 (B2 (B2 (C0 (B2 (B2 (C0 (B2 C6))))))) (fun _ h=>h ▸ ay.cells) rfl dI fun gS dJ=>?_
   refine P4 dJ (i:=14) (t:=85) (b:=di) (o:=0 + i * 2) (d:=53) kz (cs:=[.int .u32 bi]) (v:=.int .u32 bi) kz (fun w' h'=>h' ▸ (At.drop dj 0 1)) kz kz (B2 (B2 (C0 (B2 (B2 (C0 (B2 C6))))))) rfl fun gT dK=>?_
   refine D6 [17,18,19] [(5,.v (.int .u32 (E4 l))),ah,af,ag,ab,ac,ae,(58,.v (.bool (bi == aG)))] 0 (B2 (B2 (C0 (B2 (B2 (C0 (B2 C6))))))) (fun _ h=>h ▸ ay.cells) rfl dK fun gU bw=>?_
   refine F3 kz ?_ _
   refine A7 (D8 bw (b:=bi == aG) kz (fun bz=>?_) (fun bz=>?_))
   ·
    have fY:bi = aG:=by simpa using bz
    refine wp_exit (E2 (G3 (A7 (D9 [0,1] kz ?_))))
    refine B3 [0,1] [] [(5,.v (.int .u32 (E4 l))),ah,ab,ac,(19,.v (.int .i64 (IntKind.i64.wrap (((k:Nat):Int) + 1))))] ay bw fun gV dL=>?_
    refine B4 (A7 ?_)
    obtain ⟨cw,dM,bD⟩:=ay.cutB dL 0 [] [(5,.v (.int .u32 (E4 l))),ah,ab,ac,(19,.v (.int .i64 (IntKind.i64.wrap (((k:Nat):Int) + 1))))]
    have dN:IntKind.i64.wrap (((k:Nat):Int) + 1) = ((k + 1:Nat):Int):=H1 (by omega)
    rw [dN] at cw
    exact ⟨(u.take 32767).length - (k + 1),by omega,k + 1,A_,c_,out,css,rfl,by omega,(hT.move (((((ak.trans al).trans ai).trans aj).trans am).trans bD).step immM (((((ak.trans al).trans ai).trans aj).trans am).trans bD).to'),by rw [CP bh,← hout]; exact (Lj (Fy hi hlt (fun _=>by rw [Ca aZ]; omega)) (by omega) (by rw [Ca aZ]; omega)).symm,by omega,cw.pk,dM,((((((bk.trans ak).trans al).trans ai).trans aj).trans am).trans bD)⟩
   have fZ:bi ≠ aG:=by simpa using bz
   refine wp_skip (A7 (B8 [0,1,2,3,4] kz ?_))
   refine B3 [0,1] [2,3,4] [(5,.v (.int .u32 (E4 l))),af,ag,ab,ac,ae,(59,.v (.slice A_ out.length c_)),cd] ay bw fun gW dO=>?_
   refine W5 ay dO (k:=0) (e:=87) (size:=2) (len:=1) (cs:=[ap,ar]) (d1:=61) (d:=62) kz (t:=32) (bytes:=32) kz (fun _=>by kernel_rfl) rfl kz (by omega) fun au aC gX gY av bE ⟨_,dP⟩=>?_
   let aJ:Nat × SV:=(6,.v (.slice au (out.length + 1) aC))
   refine B3 [4] [] [(5,.v (.int .u32 (E4 l))),aJ,af,ag,ab,ac,ae] bE dP fun gZ dQ=>?_
   refine B4 (A7 ?_)
   refine wp_seq (C1 [(5,.v (.int .u32 (E4 l))),aJ,af,ag,(10,.v (.int .i64 (IntKind.i64.wrap (((out.length + 1:Nat):Int) - 1)))),ab,ac,ae] bE dQ fun g9 cz=>?_)
   refine wp_block ?_
   have hcl0:=(hT.move (((((ak.trans al).trans ai).trans aj).trans am).trans av).step immM (((((ak.trans al).trans ai).trans aj).trans am).trans av).to').len
   have dR:(⟨au,aC,87,2,out.length + 1,css.flatten ++ [.int .u32 0,.slice none 0 0]⟩:Rw) = ⟨au,aC,87,2,out.length + 1,(I2 css [.int .u32 0,.slice none 0 0] out.length).flatten⟩:=by rw [Im hcl0]
   obtain ⟨cA,aD⟩:=bE.rowEq 0 [⟨au,aC,87,2,out.length + 1,(I2 css [ap,ar] out.length).flatten⟩] dR
   have dS:IntKind.i64.wrap (((out.length + 1:Nat):Int) - 1) = ((out.length:Nat):Int):=by rw [wrap_i64 (by omega) (by omega)]; omega
   simp only [aM,dS] at cz
   refine wp_loop_ghost (fun n_ a_ w_=>∃ (j:Nat),n_ = j ∧ (i ≤ j) ∧ (j ≤ out.length) ∧ F1 cA 85 [bn] [⟨au,aC,87,2,out.length + 1,(I2 css [ap,ar] j).flatten⟩] [(5,.v (.int .u32 (E4 l))),aJ,af,ag,(10,.v (.int .i64 ((j:Nat):Int))),ab,ac,ae] a_ w_) (out.length) ⟨out.length,rfl,hi,Nat.le_refl _,cz.pk,cA,Fr.refl _ _ _⟩ ?_
   rintro hC hJ hK ⟨j,f5,hij,hjl,dT,aN,aA⟩
   refine wp_seq (C1 [(5,.v (.int .u32 (E4 l))),aJ,af,ag,(10,.v (.int .i64 ((j:Nat):Int))),ab,ac,ae,(68,.v (.bool (decide (((j:Nat):Int) > ((i:Nat):Int)))))] aN dT fun hY bF=>?_)
   refine D8 bF (b:=decide (((j:Nat):Int) > ((i:Nat):Int))) kz (fun bG=>?_) (fun bG=>?_)
   ·
    have f7:=of_decide_eq_true bG
    refine wp_skip (A7 (wp_seq (wp_block (D9 [0,1,2,3,4,5,6,7,8] kz ?_))))
    refine B3 [0,1,2,3,4] [5,6,7,8] [(5,.v (.int .u32 (E4 l))),aJ,af,ag,(10,.v (.int .i64 ((j:Nat):Int))),ab,ac,ae,(71,.v (.slice au (out.length + 1) aC)),(72,.v (.int .i64 ((j:Nat):Int))),(73,.v (.slice au (out.length + 1) aC)),(75,.v (.int .i64 (IntKind.i64.wrap (((j:Nat):Int) - 1))))] aN bF fun hZ dU=>?_
    obtain ⟨dV,cB⟩:=Q9 (aN.own 0 _ rfl) (show 0 < out.length + 1 by omega)
    obtain ⟨⟨bX,dW⟩,dX⟩:∃ x,out[j - 1]? = some x:=⟨_,List.getElem?_eq_getElem (by omega)⟩
    obtain ⟨dY,dZ,cC,f8,ia,ib⟩:=TagsE.get2 (hT.move (((((((ak.trans al).trans ai).trans aj).trans am).trans av).trans aD).trans aA).step immM (((((((ak.trans al).trans ai).trans aj).trans am).trans av).trans aD).trans aA).to') dX
    have dl:=DM (aN.own 0 _ rfl) cB (DW (DX (hT.move (((((((ak.trans al).trans ai).trans aj).trans am).trans av).trans aD).trans aA).step immM (((((((ak.trans al).trans ai).trans aj).trans am).trans av).trans aD).trans aA).to').two rfl j) (Ij (show j - 1 < j by omega) cC))
    refine B1 (F2 dU (t:=32) (A:=au) (m:=(out.length + 1)) (q:=(IntKind.i64.wrap (((j:Nat):Int) - 1))) (d:=76) kz (e:=87) (size:=2) (bytes:=32) kz (b:=dV) (o:=0) (j:=(j - 1)) cB (by rw [wrap_i64 (by omega) (by omega)]; omega) (by omega) fun ic d5=>?_)
    let bH:Value:=.slice dY dW.length dZ
    refine B1 (G7 d5 (t:=87) (b:=dV) (o:=0 + (j - 1) * 2) (d:=77) kz (cs:=[.int .u32 bX,bH]) (v:=.agg #[.int .u32 bX,bH]) kz dl fun ig d6=>?_)
    obtain ⟨d7,cE⟩:=Q9 (aN.own 0 _ rfl) (show 0 < out.length + 1 by omega)
    refine B1 (F2 d6 (t:=32) (A:=au) (m:=(out.length + 1)) (q:=((j:Nat):Int)) (d:=78) kz (e:=87) (size:=2) (bytes:=32) kz (b:=d7) (o:=0) (j:=j) cE (rfl) (by omega) fun ii d8=>?_)
    refine B1 (X0 aN d8 (k:=0) (g:=d7) (o:=j * 2) (c:=aC) (m:=(out.length + 1)) (size:=2) (e:=87) (A:=au) (xs:=((I2 css [ap,ar] j).flatten)) (vs:=[.int .u32 bX,bH]) kz rfl cE (by simp only [List.length_cons,List.length_nil]; omega) fun ij bI cG d9=>?_)
    refine B4 (G2 (A7 (D9 [0,1,2] kz ?_)))
    refine B3 [0,1,2] [] [(5,.v (.int .u32 (E4 l))),aJ,af,ag,(10,.v (.int .i64 (IntKind.i64.wrap (((j:Nat):Int) - 1)))),ab,ac,ae] cG d9 fun ik cH=>?_
    refine B4 (A7 ?_)
    have ea:(⟨au,aC,87,2,out.length + 1,K5 ((I2 css [.int .u32 0,.slice none 0 0] j).flatten) (j * 2) [.int .u32 bX,.slice dY dW.length dZ]⟩:Rw) = ⟨au,aC,87,2,out.length + 1,(I2 css [.int .u32 0,.slice none 0 0] (j - 1)).flatten⟩:=by rw [Ik (hT.move ((((((((ak.trans al).trans ai).trans aj).trans am).trans av).trans aD).trans aA).trans bI).step immM ((((((((ak.trans al).trans ai).trans aj).trans am).trans av).trans aD).trans aA).trans bI).to').two rfl (by omega) (by omega) cC]
    obtain ⟨eb,ec⟩:=cG.rowEq 0 [⟨au,aC,87,2,out.length + 1,(I2 css [ap,ar] (j - 1)).flatten⟩] ea
    have ee:IntKind.i64.wrap (((j:Nat):Int) - 1) = ((j - 1:Nat):Int):=by rw [wrap_i64 (by omega) (by omega)]; omega
    rw [ee] at cH
    exact ⟨(j - 1),by omega,(j - 1),rfl,by omega,by omega,cH.pk,eb,((aA.trans bI).trans ec)⟩
   have f9:=of_decide_eq_false bG
   refine wp_exit (E2 (E2 (G3 (A7 (D9 [0,1,2,3,4] kz ?_)))))
   refine B3 [0,1,2] [3,4] [(5,.v (.int .u32 (E4 l))),aJ,ab,ac,ae,(79,.v (.slice au (out.length + 1) aC)),ce,cg] aN bF fun il ef=>?_
   have hji:j = i:=by omega
   have eg:(⟨au,aC,87,2,out.length + 1,(I2 css [.int .u32 0,.slice none 0 0] j).flatten⟩:Rw) = ⟨au,aC,87,2,out.length + 1,(I2 css [.int .u32 0,.slice none 0 0] i).flatten⟩:=by rw [hji]
   obtain ⟨cI,aR⟩:=aN.rowEq 0 [⟨au,aC,87,2,out.length + 1,(I2 css [ap,ar] i).flatten⟩] eg
   obtain ⟨eh,cJ⟩:=Q9 (cI.own 0 _ rfl) (show 0 < out.length + 1 by omega)
   refine B1 (F2 ef (t:=32) (A:=au) (m:=(out.length + 1)) (q:=((i:Nat):Int)) (d:=82) kz (e:=87) (size:=2) (bytes:=32) kz (b:=eh) (o:=0) (j:=i) cJ (rfl) (by omega) fun im ei=>?_)
   refine B1 (X0 cI ei (k:=0) (g:=eh) (o:=i * 2) (c:=aC) (m:=(out.length + 1)) (size:=2) (e:=87) (A:=au) (xs:=((I2 css [ap,ar] i).flatten)) (vs:=[aH,aI]) kz rfl cJ (by simp only [List.length_cons,List.length_nil]; omega) fun io aS cK ej=>?_)
   refine B4 (G2 (A7 (D9 [0,1] kz ?_)))
   refine B3 [0,1] [] [(5,.v (.int .u32 (E4 l))),aJ,ab,ac,(19,.v (.int .i64 (IntKind.i64.wrap (((k:Nat):Int) + 1))))] cK ej fun ip ek=>?_
   refine B4 (A7 ?_)
   obtain ⟨bJ,em,aT⟩:=cK.cutB ek 0 [] [(5,.v (.int .u32 (E4 l))),aJ,ab,ac,(19,.v (.int .i64 (IntKind.i64.wrap (((k:Nat):Int) + 1))))]
   have hcl:=(hT.move ((((((((((ak.trans al).trans ai).trans aj).trans am).trans av).trans aD).trans aA).trans aR).trans aS).trans aT).step immM ((((((((((ak.trans al).trans ai).trans aj).trans am).trans av).trans aD).trans aA).trans aR).trans aS).trans aT).to').len
   have eo:(⟨au,aC,87,2,out.length + 1,K5 ((I2 css [.int .u32 0,.slice none 0 0] i).flatten) (i * 2) [.int .u32 aG,.slice df aX.length dg]⟩:Rw) = ⟨au,aC,87,2,(out.take i ++ (aG,aX) :: out.drop i).length,(css.take i ++ [.int .u32 aG,.slice df aX.length dg] :: css.drop i).flatten⟩:=by rw [Il (hT.move ((((((((((ak.trans al).trans ai).trans aj).trans am).trans av).trans aD).trans aA).trans aR).trans aS).trans aT).step immM ((((((((((ak.trans al).trans ai).trans aj).trans am).trans av).trans aD).trans aA).trans aR).trans aS).trans aT).to').two rfl (by omega) rfl,BZ (aG,aX) hi]
   obtain ⟨bK,bM⟩:=em.rowEq 0 [⟨au,aC,87,2,(out.take i ++ (aG,aX) :: out.drop i).length,(css.take i ++ [aH,aI] :: css.drop i).flatten⟩] eo
   have eu:IntKind.i64.wrap (((k:Nat):Int) + 1) = ((k + 1:Nat):Int):=H1 (by omega)
   rw [eu] at bJ
   have ev:out.length + 1 = (out.take i ++ (aG,aX) :: out.drop i).length:=BZ (aG,aX) hi
   simp only [aJ,ev] at bJ
   exact ⟨(u.take 32767).length - (k + 1),by omega,k + 1,au,aC,(out.take i ++ (aG,aX) :: out.drop i),(css.take i ++ [aH,aI] :: css.drop i),rfl,by omega,(hT.move (((((((((((ak.trans al).trans ai).trans aj).trans am).trans av).trans aD).trans aA).trans aR).trans aS).trans aT).trans bM).step immM (((((((((((ak.trans al).trans ai).trans aj).trans am).trans av).trans aD).trans aA).trans aR).trans aS).trans aT).trans bM).to').ins ⟨⟨df,dg,rfl,(dq.move bK.step B0 bK.imm)⟩,fQ,fR⟩ hi,by rw [CP bh,← hout]; exact (Ip (Fy hi hlt (fun _=>by first | (rw [Ca bW]; omega) | (rw [Ca aZ]; omega))) ‹_› (fun _=>by first | (rw [Ca bW]; omega) | (rw [Ca aZ]; omega))).symm,by rw [← BZ (aG,aX) hi]; omega,bJ.pk,bK,((((((((((((bk.trans ak).trans al).trans ai).trans aj).trans am).trans av).trans aD).trans aA).trans aR).trans aS).trans aT).trans bM)⟩
  have ga:=of_decide_eq_false bd
  have ew:=dr.cast (env':=[(5,.v (.int .u32 (E4 l))),ah,af,ag,ab,ac,ae,(27,.v (.bool false))]) (by simp only [aM,bd]; try rfl)
  refine D6 [5,6,7,8,9,10,11,12,13] [(5,.v (.int .u32 (E4 l))),ah,af,ag,ab,ac,ae,(36,.v (.bool false))] 0 (B2 (B2 (B2 (C0 (B2 (C0 (B2 (B2 (C0 (B2 C6)))))))))) (fun _ h=>h ▸ aQ.cells) rfl ew fun iq cL=>?_
  refine F3 kz ?_ _
  refine A7 (F6 cL (b:=false) kz rfl ?_)
  refine wp_exit (E2 (E2 (G3 (A7 (wp_seq (Br kz aQ fun ir ao aO=>?_))))))
  refine D6 [0,1,2,3,4] [(5,.v (.int .u32 (E4 l))),ah,af,ag,ab,ac,ae,(43,.v (.bool (decide (aG < (E4 l)))))] 15 (B2 (B2 (C0 (B2 (B2 (C0 (B2 C6))))))) (fun _ h=>h ▸ aO.cells) rfl cL fun iu cM=>?_
  refine (Bool.eq_false_or_eq_true (decide (aG < (E4 l)))).elim (fun ba=>?_) (fun ba=>?_)
  ·
   have gb:=of_decide_eq_true ba
   have ey:=cM
   rw [ba] at ey
   refine D6 [5,6,7,8,9,10,11,12,13,14,15,16,17,18,19] [(5,.v (.int .u32 (E4 l))),ah,af,ag,ab,ac,ae,(58,.v (.bool true))] 0 (B2 (B2 (C0 (B2 (B2 (C0 (B2 C6))))))) (fun _ h=>h ▸ aO.cells) rfl ey fun iv cN=>?_
   refine F3 kz ?_ _
   refine A7 (Q6 cN (b:=true) kz rfl ?_)
   refine wp_exit (E2 (G3 (A7 (D9 [0,1] kz ?_))))
   refine B3 [0,1] [] [(5,.v (.int .u32 (E4 l))),ah,ab,ac,(19,.v (.int .i64 (IntKind.i64.wrap (((k:Nat):Int) + 1))))] aO cN fun iw ez=>?_
   refine B4 (A7 ?_)
   obtain ⟨cO,eB,bN⟩:=aO.cutB ez 0 [] [(5,.v (.int .u32 (E4 l))),ah,ab,ac,(19,.v (.int .i64 (IntKind.i64.wrap (((k:Nat):Int) + 1))))]
   have eC:IntKind.i64.wrap (((k:Nat):Int) + 1) = ((k + 1:Nat):Int):=H1 (by omega)
   rw [eC] at cO
   exact ⟨(u.take 32767).length - (k + 1),by omega,k + 1,A_,c_,out,css,rfl,by omega,(hT.move (((((ak.trans al).trans ai).trans aj).trans ao).trans bN).step immM (((((ak.trans al).trans ai).trans aj).trans ao).trans bN).to'),by rw [CP bh,← hout]; exact (Io ‹_›).symm,by omega,cO.pk,eB,((((((bk.trans ak).trans al).trans ai).trans aj).trans ao).trans bN)⟩
  have gc:=of_decide_eq_false ba
  have eD:=cM
  rw [ba] at eD
  refine D6 [5,6,7,8,9] [(5,.v (.int .u32 (E4 l))),ah,af,ag,ab,ac,ae,aL,aM] 10 (B2 (B2 (C0 (B2 (B2 (C0 (B2 C6))))))) (fun _ h=>h ▸ aO.cells) rfl eD fun ix eE=>?_
  have eF:(decide (((i:Nat):Int) < ((out.length:Nat):Int))) = false:=bd
  have eG:=eE.cast (env':=[(5,.v (.int .u32 (E4 l))),ah,af,ag,ab,ac,ae,aL,(48,.v (.bool false))]) (by simp only [aM,eF]; try rfl)
  refine D6 [10,11,12,13,14,15,16,17,18,19] [(5,.v (.int .u32 (E4 l))),ah,af,ag,ab,ac,ae,(58,.v (.bool false))] 0 (B2 (B2 (C0 (B2 (B2 (C0 (B2 C6))))))) (fun _ h=>h ▸ aO.cells) rfl eG fun iy cP=>?_
  refine F3 kz ?_ _
  refine A7 (F6 cP (b:=false) kz rfl ?_)
  refine wp_skip (A7 (B8 [0,1,2,3,4] kz ?_))
  refine B3 [0,1] [2,3,4] [(5,.v (.int .u32 (E4 l))),af,ag,ab,ac,ae,(59,.v (.slice A_ out.length c_)),cd] aO cP fun iz eH=>?_
  refine W5 aO eH (k:=0) (e:=87) (size:=2) (len:=1) (cs:=[ap,ar]) (d1:=61) (d:=62) kz (t:=32) (bytes:=32) kz (fun _=>by kernel_rfl) rfl kz (by omega) fun aw aE iA iB ax bO ⟨_,eI⟩=>?_
  let aK:Nat × SV:=(6,.v (.slice aw (out.length + 1) aE))
  refine B3 [4] [] [(5,.v (.int .u32 (E4 l))),aK,af,ag,ab,ac,ae] bO eI fun iC eJ=>?_
  refine B4 (A7 ?_)
  refine wp_seq (C1 [(5,.v (.int .u32 (E4 l))),aK,af,ag,(10,.v (.int .i64 (IntKind.i64.wrap (((out.length + 1:Nat):Int) - 1)))),ab,ac,ae] bO eJ fun iD cQ=>?_)
  refine wp_block ?_
  have hcl0:=(hT.move (((((ak.trans al).trans ai).trans aj).trans ao).trans ax).step immM (((((ak.trans al).trans ai).trans aj).trans ao).trans ax).to').len
  have eK:(⟨aw,aE,87,2,out.length + 1,css.flatten ++ [.int .u32 0,.slice none 0 0]⟩:Rw) = ⟨aw,aE,87,2,out.length + 1,(I2 css [.int .u32 0,.slice none 0 0] out.length).flatten⟩:=by rw [Im hcl0]
  obtain ⟨cR,aF⟩:=bO.rowEq 0 [⟨aw,aE,87,2,out.length + 1,(I2 css [ap,ar] out.length).flatten⟩] eK
  have eM:IntKind.i64.wrap (((out.length + 1:Nat):Int) - 1) = ((out.length:Nat):Int):=by rw [wrap_i64 (by omega) (by omega)]; omega
  simp only [aM,eM] at cQ
  refine wp_loop_ghost (fun n_ a_ w_=>∃ (j:Nat),n_ = j ∧ (i ≤ j) ∧ (j ≤ out.length) ∧ F1 cR 85 [bn] [⟨aw,aE,87,2,out.length + 1,(I2 css [ap,ar] j).flatten⟩] [(5,.v (.int .u32 (E4 l))),aK,af,ag,(10,.v (.int .i64 ((j:Nat):Int))),ab,ac,ae] a_ w_) (out.length) ⟨out.length,rfl,hi,Nat.le_refl _,cQ.pk,cR,Fr.refl _ _ _⟩ ?_
  rintro iE iF iG ⟨j,gd,hij,hjl,eN,aP,aB⟩
  refine wp_seq (C1 [(5,.v (.int .u32 (E4 l))),aK,af,ag,(10,.v (.int .i64 ((j:Nat):Int))),ab,ac,ae,(68,.v (.bool (decide (((j:Nat):Int) > ((i:Nat):Int)))))] aP eN fun iH bP=>?_)
  refine D8 bP (b:=decide (((j:Nat):Int) > ((i:Nat):Int))) kz (fun bQ=>?_) (fun bQ=>?_)
  ·
   have ge:=of_decide_eq_true bQ
   refine wp_skip (A7 (wp_seq (wp_block (D9 [0,1,2,3,4,5,6,7,8] kz ?_))))
   refine B3 [0,1,2,3,4] [5,6,7,8] [(5,.v (.int .u32 (E4 l))),aK,af,ag,(10,.v (.int .i64 ((j:Nat):Int))),ab,ac,ae,(71,.v (.slice aw (out.length + 1) aE)),(72,.v (.int .i64 ((j:Nat):Int))),(73,.v (.slice aw (out.length + 1) aE)),(75,.v (.int .i64 (IntKind.i64.wrap (((j:Nat):Int) - 1))))] aP bP fun iI eO=>?_
   obtain ⟨eP,cS⟩:=Q9 (aP.own 0 _ rfl) (show 0 < out.length + 1 by omega)
   obtain ⟨⟨bY,eQ⟩,eR⟩:∃ x,out[j - 1]? = some x:=⟨_,List.getElem?_eq_getElem (by omega)⟩
   obtain ⟨eS,eU,cV,gg,iJ,iK⟩:=TagsE.get2 (hT.move (((((((ak.trans al).trans ai).trans aj).trans ao).trans ax).trans aF).trans aB).step immM (((((((ak.trans al).trans ai).trans aj).trans ao).trans ax).trans aF).trans aB).to') eR
   have dm:=DM (aP.own 0 _ rfl) cS (DW (DX (hT.move (((((((ak.trans al).trans ai).trans aj).trans ao).trans ax).trans aF).trans aB).step immM (((((((ak.trans al).trans ai).trans aj).trans ao).trans ax).trans aF).trans aB).to').two rfl j) (Ij (show j - 1 < j by omega) cV))
   refine B1 (F2 eO (t:=32) (A:=aw) (m:=(out.length + 1)) (q:=(IntKind.i64.wrap (((j:Nat):Int) - 1))) (d:=76) kz (e:=87) (size:=2) (bytes:=32) kz (b:=eP) (o:=0) (j:=(j - 1)) cS (by rw [wrap_i64 (by omega) (by omega)]; omega) (by omega) fun iL eV=>?_)
   let bR:Value:=.slice eS eQ.length eU
   refine B1 (G7 eV (t:=87) (b:=eP) (o:=0 + (j - 1) * 2) (d:=77) kz (cs:=[.int .u32 bY,bR]) (v:=.agg #[.int .u32 bY,bR]) kz dm fun iM eW=>?_)
   obtain ⟨eX,cW⟩:=Q9 (aP.own 0 _ rfl) (show 0 < out.length + 1 by omega)
   refine B1 (F2 eW (t:=32) (A:=aw) (m:=(out.length + 1)) (q:=((j:Nat):Int)) (d:=78) kz (e:=87) (size:=2) (bytes:=32) kz (b:=eX) (o:=0) (j:=j) cW (rfl) (by omega) fun iN eY=>?_)
   refine B1 (X0 aP eY (k:=0) (g:=eX) (o:=j * 2) (c:=aE) (m:=(out.length + 1)) (size:=2) (e:=87) (A:=aw) (xs:=((I2 css [ap,ar] j).flatten)) (vs:=[.int .u32 bY,bR]) kz rfl cW (by simp only [List.length_cons,List.length_nil]; omega) fun iO bS cX eZ=>?_)
   refine B4 (G2 (A7 (D9 [0,1,2] kz ?_)))
   refine B3 [0,1,2] [] [(5,.v (.int .u32 (E4 l))),aK,af,ag,(10,.v (.int .i64 (IntKind.i64.wrap (((j:Nat):Int) - 1)))),ab,ac,ae] cX eZ fun iP cY=>?_
   refine B4 (A7 ?_)
   have e9:(⟨aw,aE,87,2,out.length + 1,K5 ((I2 css [.int .u32 0,.slice none 0 0] j).flatten) (j * 2) [.int .u32 bY,.slice eS eQ.length eU]⟩:Rw) = ⟨aw,aE,87,2,out.length + 1,(I2 css [.int .u32 0,.slice none 0 0] (j - 1)).flatten⟩:=by rw [Ik (hT.move ((((((((ak.trans al).trans ai).trans aj).trans ao).trans ax).trans aF).trans aB).trans bS).step immM ((((((((ak.trans al).trans ai).trans aj).trans ao).trans ax).trans aF).trans aB).trans bS).to').two rfl (by omega) (by omega) cV]
   obtain ⟨fa,fb⟩:=cX.rowEq 0 [⟨aw,aE,87,2,out.length + 1,(I2 css [ap,ar] (j - 1)).flatten⟩] e9
   have fe:IntKind.i64.wrap (((j:Nat):Int) - 1) = ((j - 1:Nat):Int):=by rw [wrap_i64 (by omega) (by omega)]; omega
   rw [fe] at cY
   exact ⟨(j - 1),by omega,(j - 1),rfl,by omega,by omega,cY.pk,fa,((aB.trans bS).trans fb)⟩
  have gh:=of_decide_eq_false bQ
  refine wp_exit (E2 (E2 (G3 (A7 (D9 [0,1,2,3,4] kz ?_)))))
  refine B3 [0,1,2] [3,4] [(5,.v (.int .u32 (E4 l))),aK,ab,ac,ae,(79,.v (.slice aw (out.length + 1) aE)),ce,cg] aP bP fun iQ ff=>?_
  have hji:j = i:=by omega
  have fg:(⟨aw,aE,87,2,out.length + 1,(I2 css [.int .u32 0,.slice none 0 0] j).flatten⟩:Rw) = ⟨aw,aE,87,2,out.length + 1,(I2 css [.int .u32 0,.slice none 0 0] i).flatten⟩:=by rw [hji]
  obtain ⟨cZ,aU⟩:=aP.rowEq 0 [⟨aw,aE,87,2,out.length + 1,(I2 css [ap,ar] i).flatten⟩] fg
  obtain ⟨fh,da⟩:=Q9 (cZ.own 0 _ rfl) (show 0 < out.length + 1 by omega)
  refine B1 (F2 ff (t:=32) (A:=aw) (m:=(out.length + 1)) (q:=((i:Nat):Int)) (d:=82) kz (e:=87) (size:=2) (bytes:=32) kz (b:=fh) (o:=0) (j:=i) da (rfl) (by omega) fun iR fi=>?_)
  refine B1 (X0 cZ fi (k:=0) (g:=fh) (o:=i * 2) (c:=aE) (m:=(out.length + 1)) (size:=2) (e:=87) (A:=aw) (xs:=((I2 css [ap,ar] i).flatten)) (vs:=[aH,aI]) kz rfl da (by simp only [List.length_cons,List.length_nil]; omega) fun iS aV db fj=>?_)
  refine B4 (G2 (A7 (D9 [0,1] kz ?_)))
  refine B3 [0,1] [] [(5,.v (.int .u32 (E4 l))),aK,ab,ac,(19,.v (.int .i64 (IntKind.i64.wrap (((k:Nat):Int) + 1))))] db fj fun iT fk=>?_
  refine B4 (A7 ?_)
  obtain ⟨bT,fl,aW⟩:=db.cutB fk 0 [] [(5,.v (.int .u32 (E4 l))),aK,ab,ac,(19,.v (.int .i64 (IntKind.i64.wrap (((k:Nat):Int) + 1))))]
  have hcl:=(hT.move ((((((((((ak.trans al).trans ai).trans aj).trans ao).trans ax).trans aF).trans aB).trans aU).trans aV).trans aW).step immM ((((((((((ak.trans al).trans ai).trans aj).trans ao).trans ax).trans aF).trans aB).trans aU).trans aV).trans aW).to').len
  have fm:(⟨aw,aE,87,2,out.length + 1,K5 ((I2 css [.int .u32 0,.slice none 0 0] i).flatten) (i * 2) [.int .u32 aG,.slice df aX.length dg]⟩:Rw) = ⟨aw,aE,87,2,(out.take i ++ (aG,aX) :: out.drop i).length,(css.take i ++ [.int .u32 aG,.slice df aX.length dg] :: css.drop i).flatten⟩:=by rw [Il (hT.move ((((((((((ak.trans al).trans ai).trans aj).trans ao).trans ax).trans aF).trans aB).trans aU).trans aV).trans aW).step immM ((((((((((ak.trans al).trans ai).trans aj).trans ao).trans ax).trans aF).trans aB).trans aU).trans aV).trans aW).to').two rfl (by omega) rfl,BZ (aG,aX) hi]
  obtain ⟨bU,bV⟩:=fl.rowEq 0 [⟨aw,aE,87,2,(out.take i ++ (aG,aX) :: out.drop i).length,(css.take i ++ [aH,aI] :: css.drop i).flatten⟩] fm
  have fo:IntKind.i64.wrap (((k:Nat):Int) + 1) = ((k + 1:Nat):Int):=H1 (by omega)
  rw [fo] at bT
  have fq:out.length + 1 = (out.take i ++ (aG,aX) :: out.drop i).length:=BZ (aG,aX) hi
  simp only [aK,fq] at bT
  exact ⟨(u.take 32767).length - (k + 1),by omega,k + 1,aw,aE,(out.take i ++ (aG,aX) :: out.drop i),(css.take i ++ [aH,aI] :: css.drop i),rfl,by omega,(hT.move (((((((((((ak.trans al).trans ai).trans aj).trans ao).trans ax).trans aF).trans aB).trans aU).trans aV).trans aW).trans bV).step immM (((((((((((ak.trans al).trans ai).trans aj).trans ao).trans ax).trans aF).trans aB).trans aU).trans aV).trans aW).trans bV).to').ins ⟨⟨df,dg,rfl,(dq.move bU.step B0 bU.imm)⟩,fQ,fR⟩ hi,by rw [CP bh,← hout]; exact (Ip (Fy hi hlt (fun h_=>absurd h_ (by omega))) ‹_› (fun h_=>absurd h_ (by omega))).symm,by rw [← BZ (aG,aX) hi]; omega,bT.pk,bU,((((((((((((bk.trans ak).trans al).trans ai).trans aj).trans ao).trans ax).trans aF).trans aB).trans aU).trans aV).trans aW).trans bV)⟩
 have gi:=of_decide_eq_false de
 refine wp_exit (E2 (E2 (G3 (A7 (C1 [(4,.v (.slice A_ out.length c_))] bg dc fun iU fr=>?_)))))
 refine wp_ret (D5 fr bg.cells (v:=.slice A_ out.length c_) kz ?_)
 exact Ln bg (k:=0) rfl rfl rfl hT (by omega) (by rw [hout,List.take_of_length_le (by omega)]; rfl)
def Jf (m:Nat):Prop:=∀ (ct:List Value) (t:Tree) (w:World) (F:Nat → Nat → Prop),TreeR w F ct t → t.depth ≤ m →
  Calls Tryz.prog 17 #[.agg ct.toArray] w (O9 w F t)
theorem Mi {m:Nat} (hg:Jf m) (ct:List Value) (t:Tree) (w:World) (F:Nat → Nat → Prop) (ht:TreeR w F ct t) (hd:t.depth ≤ m + 1) :
  Calls Tryz.prog 17 #[.agg ct.toArray] w (O9 w F t):=by
 obtain ⟨n1,s2,b3,l4,u5,A6,c7,A8,c9,dx,dy,eH,rfl,rfl,dU,dV,eI,eJ⟩:=ht.open_
 have dW:=dU.small
 have dX:=dV.small
 obtain ⟨eK,dY,eM⟩:=eJ.ex
 have dZ:=dY.small
 refine enter (n:=49) Tryz.func17 rfl Tryz.ntmps17 kz fun a hE=>?_
 have hW:=WOk.start w B5
 refine B8 [0,1] kz ?_
 let ae:Value:=.int .i64 n1
 let af:Value:=.slice A6 s2.length c7
 let ag:Value:=.bool b3
 refine B1 (J1 hW hE (d:=1) (cs:=[ae,af,ag,.slice A8 l4.length c9,.slice dx u5.length dy]) kz fun eN f8 f9 eO eP eQ dA dB=>?_)
 let ab:Value:=.slice none 0 0
 refine B1 (D7 dA dB (d:=2) (cs:=[.int .i64 0,ab,.bool false,ab,ab]) kz fun eR ga gb eS eU eV cC dC=>?_)
 refine B4 (A7 ?_)
 refine B8 [0,1,2,3,4,5,6,7,8] kz ?_
 let ai:Nat × SV:=(1,.p 0 0)
 let ac:Nat × SV:=(2,.p 1 0)
 refine B3 [0,1,2,3,4,5,6] [7,8] [ai,ac,(14,.v (.agg #[ae,af,ag,ab,ab]))] cC dC fun gc dD=>?_
 refine B1 (D7 cC dD (d:=3) (cs:=[.int .i64 0,ab,.bool false,ab,ab]) kz fun cA gd ge eW eX eY dE dF=>?_)
 refine B1 (C7 dE dF (oi:=2) (cs:=[ae,af,ag,ab,ab]) kz fun gg eZ bT dG=>?_)
 refine B4 (A7 ?_)
 refine wp_seq ?_
 let ah:Nat × SV:=(3,.p 2 0)
 let aj:Nat × SV:=(16,.v (.slice A8 l4.length c9))
 let ak:Nat × SV:=(17,.v (.int .i64 ((l4.length:Nat):Int)))
 refine C1 [ai,ac,ah,aj,ak,(18,.v (.int .i64 0))] bT dG fun gh dH=>?_
 refine wp_block ?_
 have cE:=bT.addNil 49 5
 have e9:=bT.frNil 49 5
 let ar:Ob:=⟨eN,0,[ae,af,ag,.slice A8 l4.length c9,.slice dx u5.length dy],true⟩
 let au:Ob:=⟨eR,0,[.int .i64 0,ab,.bool false,ab,ab],true⟩
 refine wp_loop_ghost (fun n_ a_ w_=>∃ (k:Nat) (A_:Option Addr) (c_:Nat) (xs:List Value) (css:List (List Value)),n_ = l4.length - k ∧ k ≤ l4.length ∧ (Trees w_ (D4 F w w_ [ar,au,⟨cA,0,[ae,af,ag,.slice A_ k c_,ab],true⟩] [⟨A_,c_,49,5,k,xs⟩]) xs (l4.take k) css) ∧ F1 cE 49 [ar,au,⟨cA,0,[ae,af,ag,.slice A_ k c_,ab],true⟩] [⟨A_,c_,49,5,k,xs⟩] [ai,ac,ah,aj,ak,(18,.v (.int .i64 ((k:Nat):Int)))] a_ w_) (l4.length) ⟨0,none,0,[],[],by omega,by omega,Trees.nil _ _,dH.pk,cE,Fr.refl _ _ _⟩ ?_
 rintro gi gj gk ⟨k,A_,c_,xs,css,fa,fb,hT,dI,aM,dJ⟩
 let aN:Nat × SV:=(18,.v (.int .i64 ((k:Nat):Int)))
 refine C1 [ai,ac,ah,aj,ak,aN,(19,.v (.bool (decide (((k:Nat):Int) < ((l4.length:Nat):Int)))))] aM dI fun gm bU=>?_
 refine wp_seq (D8 bU (b:=decide (((k:Nat):Int) < ((l4.length:Nat):Int))) kz (fun bV=>?_) (fun bV=>?_))
 ·
  have fe:=of_decide_eq_true bV
  refine wp_skip (A7 (wp_seq (wp_block (B8 [0,1,2,3] kz ?_))))
  obtain ⟨ff,fg,dK,fh,bE⟩:=Slots.get dV (i:=k) (by omega)
  obtain ⟨fi,bW⟩:∃ x,l4[k]? = some x:=⟨_,List.getElem?_eq_getElem (by omega)⟩
  have bX:=eI k fi bW
  obtain ⟨d5,d6,cB,d7,d8,d9,ea,eb,ec,ee,ef,fj,rfl,bF,fk,fl,gn,gp⟩:=bX.open_
  rw [bF] at bX
  have eg:=fk.small
  have eh:=fl.small
  rw [bF] at bE
  refine B1 (F2 bU (t:=31) (A:=A8) (m:=l4.length) (q:=((k:Nat):Int)) (d:=20) kz (e:=34) (size:=5) (bytes:=88) kz dK rfl (by omega) fun gq cG=>?_)
  let aA:Value:=.int .i64 d5
  let aB:Value:=.slice d9 d6.length ea
  let aC:Value:=.slice eb d7.length ec
  let aD:Value:=.slice ee d8.length ef
  let ei:Value:=.agg #[.int .i64 d5,.slice d9 d6.length ea,.bool cB,.slice eb d7.length ec,.slice ee d8.length ef]
  refine B1 (G7 cG (t:=34) (b:=ff) (o:=fg + k * 5) (d:=21) kz (cs:=[aA,aB,.bool cB,aC,aD]) (v:=.agg #[aA,aB,.bool cB,aC,aD]) kz (AtF.move bE aM.step B0 E6).at_ fun fm cH=>?_)
  refine B1 (D7 aM cH (d:=5) (cs:=[.int .i64 0,ab,.bool false,ab,ab]) kz fun fo fq fr ej ek aO cI cJ=>?_)
  refine B1 (C7 cI cJ (oi:=3) (cs:=[aA,aB,.bool cB,aC,aD]) kz fun ft aP cK cL=>?_)
  refine B4 (A7 ?_)
  refine P5 7 kz cK fun fu aQ aE cM=>?_
  refine D6 [0,1,2] [ai,ac,ah,aj,ak,aN,(23,.v (.slice A_ k c_)),(24,.v (.agg #[aA,aB,.bool cB,aC,aD]))] 5 (C0 (B2 (B2 (C0 (B2 C6))))) (fun _ h=>h.cells) cM cL fun fv cN=>?_
  refine C9 (i:=3) kz (C3 cN (f:=17) (vs:=[.agg #[aA,aB,.bool cB,aC,aD]]) (d:=25) kz Tryz.call17 ( hg _ _ _ _ (bX.move aE.step B0 aE.imm) (by have h_:=Ir bW; rw [Is] at hd; omega)) ?_)
  rintro e_ fw ⟨em,rfl,cO,aR⟩
  have aS:=cO.move (Step.refl _ B5) B0 (aE.laid (G:=F) aR)
  obtain ⟨aT,bY,aU,bZ,cd,ce,cg,cm,cn,cq,cr,eo,eu,aV,dL,dM,fx,fy⟩:=aS.open_
  rw [aV] at aS
  have dN:=dL.small
  have dO:=dM.small
  rw [aV]
  refine ⟨_,rfl,fun fA cP=>?_⟩
  have bG:=aE.next_nil aR
  have av:=aE.frN aR
  have cQ:=TT.ofW av bG
  refine ⟨fun _=>cQ,?_⟩
  let aW:Value:=.slice ce bY.length cg
  let aX:Value:=.slice cm bZ.length cn
  let aY:Value:=.slice cq cd.length cr
  refine C9 (i:=4) kz (G4 bG cP (e:=49) (size:=5) (len:=1) (cs:=[.int .i64 aT,aW,.bool aU,aX,aY]) (d:=26) kz kz fun dP fB fC ev ew al aK cR=>?_)
  have cS:=TT.ofW (av.trans al) aK
  refine ⟨fun _=>cS,?_⟩
  refine C9 (i:=5) kz (I7 aK cR (k:=0) (d:=27) (t:=46) (e:=49) (size:=5) (bytes:=88) (A:=A_) (As:=(some ⟨dP,0,none⟩)) (m0:=k) (c:=c_) (m:=1) (cs:=1) (xs:=xs) (news:=[.int .i64 aT,aW,.bool aU,aX,aY]) kz kz rfl (M5 (aK.own 1 _ rfl) (K6 kz)) (N7 (aK.own 1 _ rfl)) (by omega) fun aZ ba fD fE aw bH cV=>?_)
  have bI:=TT.ofW ((av.trans al).trans aw) bH
  refine ⟨fun _=>bI,?_⟩
  refine D6 [6] [ai,ac,ah,aj,ak,aN,(27,.v (.slice aZ (k + 1) ba)),(28,.p 2 3)] 1 (C0 (B2 (B2 (C0 (B2 C6))))) (fun _ h=>h.cells) bI cV fun fF cW=>?_
  refine C9 (i:=7) kz (C7 bH cW (oi:=2) (cs:=[ae,af,ag,.slice aZ (k + 1) ba,ab]) kz fun fG aF bJ cX=>?_)
  refine ⟨fun h=>absurd rfl h,?_⟩
  refine F3 kz ?_ _
  refine G2 (A7 (D9 [0,1] kz ?_))
  refine B3 [0,1] [] [ai,ac,ah,aj,ak,(18,.v (.int .i64 (IntKind.i64.wrap (((k:Nat):Int) + 1))))] bJ cX fun fH cY=>?_
  refine B4 (A7 ?_)
  obtain ⟨bK,cZ,aG⟩:=bJ.cutB cY 3 [ar,au,⟨cA,0,[ae,af,ag,.slice aZ (k + 1) ba,ab],true⟩] [ai,ac,ah,aj,ak,(18,.v (.int .i64 (IntKind.i64.wrap (((k:Nat):Int) + 1))))]
  obtain ⟨da,aH⟩:=cZ.cutR 1 [⟨aZ,ba,49,5,k + 1,xs ++ [.int .i64 aT,aW,.bool aU,aX,aY]⟩]
  have db:IntKind.i64.wrap (((k:Nat):Int) + 1) = ((k + 1:Nat):Int):=H1 (by omega)
  rw [db] at bK
  exact ⟨l4.length - (k + 1),by omega,k + 1,aZ,ba,xs ++ [Value.int .i64 aT,.slice ce bY.length cg,.bool aU,.slice cm bZ.length cn,.slice cq cd.length cr],(css ++ [[Value.int .i64 aT,.slice ce bY.length cg,.bool aU,.slice cm bZ.length cn,.slice cq cd.length cr]]),rfl,by omega,by rw [V0 bW]; exact (hT.move ((((((((aO.trans aP).trans aQ).trans av).trans al).trans aw).trans aF).trans aG).trans aH).step immM ((((((((aO.trans aP).trans aQ).trans av).trans al).trans aw).trans aF).trans aG).trans aH).to').snoc (aS.move ((((al.trans aw).trans aF).trans aG).trans aH).step immM ((((al.trans aw).trans aF).trans aG).trans aH).to'),bK.pk,da,(((((((((dJ.trans aO).trans aP).trans aQ).trans av).trans al).trans aw).trans aF).trans aG).trans aH)⟩
 have ey:=of_decide_eq_false bV
 refine wp_exit (E2 (E2 (G3 (A7 (wp_seq ?_)))))
 let am:Nat × SV:=(31,.v (.slice dx u5.length dy))
 let ao:Nat × SV:=(32,.v (.int .i64 ((u5.length:Nat):Int)))
 refine C1 [ac,ah,am,ao,(33,.v (.int .i64 0))] aM bU fun fI dc=>?_
 refine wp_block ?_
 have hk0:k = l4.length:=by omega
 have bM:=aM.addNil 88 2
 have bN:=aM.frNil 88 2
 let ap:Value:=.slice A_ k c_
 refine wp_loop_ghost (fun n_ a_ w_=>∃ (q:Nat) (A5_:Option Addr) (c5_:Nat) (ys:List Value) (dss:List (List Value)),n_ = u5.length - q ∧ q ≤ u5.length ∧ (Tags w_ (D4 F w w_ [ar,au,⟨cA,0,[ae,af,ag,ap,.slice A5_ q c5_],true⟩] [⟨A_,c_,49,5,k,xs⟩,⟨A5_,c5_,88,2,q,ys⟩]) ys (u5.take q) dss) ∧ F1 bM 49 [ar,au,⟨cA,0,[ae,af,ag,ap,.slice A5_ q c5_],true⟩] [⟨A_,c_,49,5,k,xs⟩,⟨A5_,c5_,88,2,q,ys⟩] [ac,ah,am,ao,(33,.v (.int .i64 ((q:Nat):Int)))] a_ w_) (u5.length) ⟨0,none,0,[],[],by omega,by omega,Tags.nil _ _,dc.pk,bM,Fr.refl _ _ _⟩ ?_
 rintro fJ fK fL ⟨q,A5_,c5_,ys,dss,ez,eB,hU,de,aI,bd⟩
 let bf:Nat × SV:=(33,.v (.int .i64 ((q:Nat):Int)))
 refine C1 [ac,ah,am,ao,bf,(34,.v (.bool (decide (((q:Nat):Int) < ((u5.length:Nat):Int)))))] aI de fun fM bg=>?_
 refine wp_seq (D8 bg (b:=decide (((q:Nat):Int) < ((u5.length:Nat):Int))) kz (fun bh=>?_) (fun bh=>?_))
 ·
  have eC:=of_decide_eq_true bh
  refine wp_skip (A7 (wp_seq (wp_block (B8 [0,1,2,3] kz ?_))))
  obtain ⟨dQ,dR,df,eD,bi⟩:=Slots.get dY (i:=q) (by omega)
  obtain ⟨⟨bj,bk⟩,bO⟩:∃ x,u5[q]? = some x:=⟨_,List.getElem?_eq_getElem (by omega)⟩
  obtain ⟨⟨cu,cw,cz,dg⟩,dS,dT⟩:=eM q bj bk bO
  rw [cz] at bi
  refine B1 (F2 bg (t:=32) (A:=dx) (m:=u5.length) (q:=((q:Nat):Int)) (d:=35) kz (e:=87) (size:=2) (bytes:=32) kz df rfl (by omega) fun fN dh=>?_)
  let ax:Value:=.int .u32 bj
  let ay:Value:=.slice cu bk.length cw
  refine B1 (G7 dh (t:=87) (b:=dQ) (o:=dR + q * 2) (d:=36) kz (cs:=[ax,ay]) (v:=.agg #[ax,ay]) kz (AtF.move bi aI.step B0 E6).at_ fun fO di=>?_)
  refine B1 (D7 aI di (d:=7) (cs:=[.int .u32 0,ab]) kz fun fP fQ fR eE eF bn dj dl=>?_)
  refine B1 (C7 dj dl (oi:=3) (cs:=[ax,ay]) kz fun fS bp bP dm=>?_)
  refine B4 (A7 ?_)
  refine D9 [0,1,2,3,4,5,6,7,8,9,10] kz ?_
  refine B3 [0,1,2,3,4,5,6] [7,8,9,10] [ac,ah,am,ao,bf,(38,.v (.slice A5_ q c5_)),(43,.v (.agg #[ax,ay]))] bP dm fun fT dn=>?_
  refine W5 bP dn (k:=1) (e:=88) (size:=2) (len:=1) (cs:=[ax,ay]) (d1:=44) (d:=45) kz (t:=47) (bytes:=32) kz (fun _=>by kernel_rfl) rfl kz (by omega) fun bz bD fV fW bq bQ ⟨_,dp⟩=>?_
  refine B3 [9] [10] [ac,ah,am,ao,bf,(45,.v (.slice bz (q + 1) bD)),(46,.p 2 4)] bQ dp fun fX dq=>?_
  refine B1 (C7 bQ dq (oi:=2) (cs:=[ae,af,ag,ap,.slice bz (q + 1) bD]) kz fun fY bt bR dr=>?_)
  refine B4 (G2 (A7 (D9 [0,1] kz ?_)))
  refine B3 [0,1] [] [ac,ah,am,ao,(33,.v (.int .i64 (IntKind.i64.wrap (((q:Nat):Int) + 1))))] bR dr fun fZ dt=>?_
  refine B4 (A7 ?_)
  obtain ⟨bS,bu,bw⟩:=bR.cutB dt 3 [ar,au,⟨cA,0,[ae,af,ag,ap,.slice bz (q + 1) bD],true⟩] [ac,ah,am,ao,(33,.v (.int .i64 (IntKind.i64.wrap (((q:Nat):Int) + 1))))]
  have du:IntKind.i64.wrap (((q:Nat):Int) + 1) = ((q + 1:Nat):Int):=H1 (by omega)
  rw [du] at bS
  exact ⟨u5.length - (q + 1),by omega,q + 1,bz,bD,ys ++ [Value.int .u32 bj,.slice cu bk.length cw],(dss ++ [[Value.int .u32 bj,.slice cu bk.length cw]]),rfl,by omega,by rw [V0 bO]; exact (hU.move ((((bn.trans bp).trans bq).trans bt).trans bw).step immM ((((bn.trans bp).trans bq).trans bt).trans bw).to').snoc (c:=[ax,ay]) (x:=(bj,bk)) ⟨⟨_,_,rfl,(dg.move bu.step B0 bu.imm)⟩,dS,dT⟩,bS.pk,bu,(((((bd.trans bn).trans bp).trans bq).trans bt).trans bw)⟩
 have eG:=of_decide_eq_false bh
 refine wp_exit (E2 (E2 (G3 (A7 (B8 [0,1] kz ?_)))))
 refine B3 [0] [1] [ac,(48,.v (.agg #[ae,af,ag,ap,.slice A5_ q c5_]))] aI bg fun f5 dv=>?_
 refine B1 (C7 aI dv (oi:=1) (cs:=[ae,af,ag,ap,.slice A5_ q c5_]) kz fun f7 aL aJ dw=>?_)
 refine B4 (A7 ?_)
 refine wp_ret (D5 dw aJ.cells (v:=.agg #[ae,af,ag,ap,.slice A5_ q c5_]) kz ?_)
 have hq0:q = u5.length:=by omega
 have hT':=(hT.move ((bN.trans bd).trans aL).step immM ((bN.trans bd).trans aL).to')
 have hU':=(hU.move aL.step immM aL.to')
 rw [show l4.take k = l4 by rw [hk0,List.take_length]] at hT'
 rw [show u5.take q = u5 by rw [hq0,List.take_length]] at hU'
 exact X9 aJ rfl (dU.move aJ.step B0 Lr) hk0 (Cb aJ (k:=0) rfl hT' hk0 (by omega)) hq0 (It aJ (k:=1) rfl hU' hq0 (by omega)) rfl
theorem Ee:∀ m,Jf m
 | 0=>fun ct t w F ht hd=>by
  obtain ⟨n,s,b,l,u,A1,c1,A2,c2,A3,c3,xs,rfl,_⟩:=ht.open_
  rw [Is] at hd; omega
 | m + 1=>Mi (Ee m)
def Ef (d:Nat):Prop:=∀ (A:Option Addr) (c:Nat) (l:List Fld) (v:Int) (ct:List Value) (t:Tree) (w:World) (F:Nat → Nat → Prop),FldsR w F A c l → plains l → depths l ≤ d → TreeR w F ct t →
  Calls Tryz.prog 18 #[.slice A l.length c,.int .i64 v,.agg ct.toArray] w (O9 w F (C2 v d l t))
theorem Eg {d:Nat} (hfit:Ef d) (cf:List Value) (f:Fld) (v:Int) (ct:List Value) (t:Tree) (w:World) (F:Nat → Nat → Prop) (hf:FldR w F cf f) (hpl:plains f.sub) (hd:depths f.sub ≤ d) (aW:f.kind ≠ 11) (ht:TreeR w F ct t) :
  Calls Tryz.prog 37 #[.agg cf.toArray,.int .i64 v,.agg ct.toArray] w (O9 w F (M1 (C2 v d) f (f.nul v t) t)):=by
 obtain ⟨n1,s2,b3,l4,u5,A6,c7,A8,c9,bU,bV,dt,rfl,rfl,bk,du,ea,eb⟩:=ht.open_
 have cS:=bk.small
 have cV:=du.small
 obtain ⟨ap,aX,aY,aZ,ba,bd,bf,bg,cW,cX,bW,rfl,rfl,cY,dv⟩:=hf.open_
 have cZ:=cY.small
 have aW:ap ≠ 11:=aW
 refine enter (n:=82) Tryz.func37 rfl Tryz.ntmps37 kz fun a hE=>?_
 have hW:=WOk.start w B5
 refine B8 [0,1,2] kz ?_
 let aE:Value:=.slice cW bg.length cX
 refine B1 (J1 hW hE (d:=3) (cs:=[.int .i64 ap,.int .i64 aX,.int .i64 aY,.int .i64 aZ,.int .i64 ba,.int .i64 bd,.int .i64 bf,aE]) kz fun ec ee ef dw dx dy bX bY=>?_)
 let ah:Value:=.int .i64 n1
 let af:Value:=.slice A6 s2.length c7
 let aw:Value:=.slice A8 l4.length c9
 let ax:Value:=.slice bU u5.length bV
 refine B1 (J1 bX bY (d:=5) (cs:=[ah,af,.bool b3,aw,ax]) kz fun eg eh ei dA dB dC bZ cd=>?_)
 let ai:Value:=.int .i64 0
 let ab:Value:=.slice none 0 0
 let ay:Value:=.bool false
 refine B1 (D7 bZ cd (d:=6) (cs:=[ai,ab,ay,ab,ab]) kz fun ej ek em dD dE dF bh ce=>?_)
 refine B4 (A7 ?_)
 refine B8 [0,1,2,3,4] kz ?_
 let ar:Nat × SV:=(1,.v (.int .i64 v))
 let au:Nat × SV:=(3,.p 0 0)
 let av:Nat × SV:=(5,.p 1 0)
 let ae:Nat × SV:=(6,.p 2 0)
 let da:Value:=(.agg #[.int .i64 n1,.slice A6 s2.length c7,.bool b3,.slice A8 l4.length c9,.slice bU u5.length bV])
 refine B3 [0,1,2] [3,4] [ar,au,av,ae,(13,.v (.agg #[.int .i64 ap,.int .i64 aX,.int .i64 aY,.int .i64 aZ,.int .i64 ba,.int .i64 bd,.int .i64 bf,aE])),(14,.v (.int .i64 v)),(15,.v (.agg #[ah,af,.bool b3,aw,ax]))] bh ce fun eo cg=>?_
 let db:Value:=.agg #[.int .i64 n1,.slice A6 s2.length c7,.bool b3,.slice A8 l4.length c9,.slice bU u5.length bV]
 refine B1 (C3 cg (f:=77) (vs:=[.agg #[.int .i64 ap,.int .i64 aX,.int .i64 aY,.int .i64 aZ,.int .i64 ba,.int .i64 bd,.int .i64 bf,aE],.int .i64 v,.agg #[ah,af,.bool b3,aw,ax]]) (d:=16) kz Tryz.call77 (Jd ap aX aY aZ ba bd bf bg _ _ v n1 s2 b3 l4 u5 _ _ _ _ _ _ _) ?_)
 rintro e_ eu ⟨rfl,bn⟩
 refine ⟨_,rfl,fun ev cm=>?_⟩
 have ac:=bh.next_nil bn
 have dG:=bh.frN bn
 let aj:Nat × SV:=(7,.v (.bool (Fld.nul (Fld.mk ap aX aY aZ ba bd bf bg) v (Tree.mk n1 s2 b3 l4 u5))))
 refine B3 [4] [] [ar,au,av,ae,aj] ac cm fun ew cn=>?_
 refine B4 (A7 ?_)
 refine wp_seq ?_
 let aF:Nat × SV:=(18,.v (.int .i64 ap))
 refine C1 [ar,au,av,ae,aj,aF] ac cn fun ey cq=>?_
 refine wp_block (wp_seq (C1 [ar,au,av,ae,aj,aF,(19,.v (.bool (ap == 8)))] ac cq fun ez aM=>?_))
 let aP:C8:=[ae,aj,(23,.v (.slice A6 s2.length c7))]
 let ag:Value:=.bool (Fld.nul (Fld.mk ap aX aY aZ ba bd bf bg) v (Tree.mk n1 s2 b3 l4 u5))
 refine D8 aM (b:=ap == 8) kz (fun aN=>?_) (fun aN=>?_)
 ·
  have dH:ap = 8:=by simpa using aN
  refine wp_skip (A7 (Q6 aM (b:=ap == 8) kz (aN) ?_))
  refine B8 [0,1,2,3,4,5] kz ?_
  refine B3 [0,1] [2,3,4,5] aP ac aM fun eB cr=>?_
  have dc:=X4 s2
  refine B1 (C3 cr (f:=40) (vs:=[af]) (d:=24) kz Tryz.call40 (Gl _ _ s2 (bk.move ac.step B0 ac.imm).le _) ?_)
  rintro e_ eC ⟨rfl,bp⟩
  refine ⟨_,rfl,fun eD cu=>?_⟩
  have bq:=ac.next_nil bp
  have dI:=ac.frN bp
  refine B3 [3,4] [5] [ae,(26,.v (.agg #[ai,.slice A6 ((J6 s2).length) c7,ag,ab,ab]))] bq cu fun eE cw=>?_
  refine B1 (C7 bq cw (oi:=2) (cs:=[ai,.slice A6 ((J6 s2).length) c7,ag,ab,ab]) kz fun eF dJ aO cz=>?_)
  refine B4 (A7 ?_)
  refine wp_ret (N1 (F5 (D5 cz aO.cells (v:=.agg #[ai,.slice A6 ((J6 s2).length) c7,ag,ab,ab]) kz ?_)))
  exact X9 aO rfl (((bk.take 32767).move aO.step B0 aO.imm).move (Step.refl _ B5) B0 G0) rfl (FA _ _) rfl (TagsR.nil _ _) (Iw (by omega))
 have dK:ap ≠ 8:=by simpa using aN
 refine D9 [0,1] kz ?_
 refine B3 [0,1] [] [ar,au,av,ae,aj,aF,(19,.v (.bool (ap == 9)))] ac aM fun eG bi=>?_
 refine B4 (A7 ?_)
 refine D8 bi (b:=ap == 9) kz (fun bj=>?_) (fun bj=>?_)
 ·
  have dL:ap = 9:=by simpa using bj
  refine B8 [0,1,2,3,4,5] kz ?_
  refine B3 [0,1] [2,3,4,5] aP ac bi fun eH cA=>?_
  have de:=X4 s2
  refine B1 (C3 cA (f:=40) (vs:=[af]) (d:=24) kz Tryz.call40 (Gl _ _ s2 (bk.move ac.step B0 ac.imm).le _) ?_)
  rintro e_ dM ⟨rfl,bt⟩
  refine ⟨_,rfl,fun dN bu=>?_⟩
  have aQ:=ac.next_nil bt
  have df:=ac.frN bt
  refine B3 [3,4] [5] [ae,(26,.v (.agg #[ai,.slice A6 ((J6 s2).length) c7,ag,ab,ab]))] aQ bu fun dO bw=>?_
  refine B1 (C7 aQ bw (oi:=2) (cs:=[ai,.slice A6 ((J6 s2).length) c7,ag,ab,ab]) kz fun dP dg aG bz=>?_)
  refine B4 (A7 ?_)
  refine wp_ret (N1 (F5 (D5 bz aG.cells (v:=.agg #[ai,.slice A6 ((J6 s2).length) c7,ag,ab,ab]) kz ?_)))
  exact X9 aG rfl (((bk.take 32767).move aG.step B0 aG.imm).move (Step.refl _ B5) B0 G0) rfl (FA _ _) rfl (TagsR.nil _ _) (Iw (by omega))
 have dh:ap ≠ 9:=by simpa using bj
 refine C1 [ar,au,av,ae,aj,aF,(27,.v (.bool (ap == 10)))] ac bi fun dQ aI=>?_
 refine D8 aI (b:=ap == 10) kz (fun aJ=>?_) (fun aJ=>?_)
 ·
  have di:ap = 10:=by simpa using aJ
  refine B8 [0,1,2,3,4,5,6] kz ?_
  refine B3 [0,1,2,3] [4,5,6] [ae,aj,(30,.v (.slice cW bg.length cX)),(31,.v (.int .i64 v)),(32,.v (.agg #[ah,af,.bool b3,aw,ax]))] ac aI fun dR bD=>?_
  refine B1 (C3 bD (f:=18) (vs:=[aE,.int .i64 v,.agg #[ah,af,.bool b3,aw,ax]]) (d:=33) kz Tryz.call18 ( hfit _ _ bg v _ (Tree.mk n1 s2 b3 l4 u5) _ _ ⟨bW,(cY.move ac.step B0 ac.imm),(fun i_ x_ h_=>((dv i_ x_ h_).move ac.step B0 ac.imm))⟩ hpl hd (ht.move ac.step B0 ac.imm)) ?_)
  rintro e_ dS ⟨dj,rfl,bE,aK⟩
  have aR:=bE.move (Step.refl _ B5) B0 (ac.laid (G:=F) aK)
  obtain ⟨cB,cC,cE,cG,cH,cI,cJ,cK,cL,cM,cN,dl,bF,aL,bG,bH,cO,cP⟩:=aR.open_
  rw [aL] at aR
  have cQ:=bG.small
  have cR:=bH.small
  rw [aL]
  refine ⟨_,rfl,fun dT bI=>?_⟩
  have bJ:=ac.next_nil aK
  have dm:=ac.frN aK
  refine B1 (D7 bJ bI (d:=8) (cs:=[ai,ab,ay,ab,ab]) kz fun dU dV dW dn dp ak bK bM=>?_)
  let aA:Value:=.int .i64 cB
  let aB:Value:=.slice cI cC.length cJ
  let aC:Value:=.slice cK cG.length cL
  let aD:Value:=.slice cM cH.length cN
  refine B1 (C7 bK bM (oi:=3) (cs:=[aA,aB,.bool cE,aC,aD]) kz fun dX al aS bN=>?_)
  refine B4 (A7 ?_)
  refine B8 [0,1,2] kz ?_
  refine B3 [0,1] [2] [ae,(8,.p 3 0),(34,.v (.bool (Fld.nul (Fld.mk ap aX aY aZ ba bd bf bg) v (Tree.mk n1 s2 b3 l4 u5)))),(35,.p 3 2)] aS bN fun dY bO=>?_
  refine B1 (C7 aS bO (oi:=3) (cs:=[aA,aB,ag,aC,aD]) kz fun dZ am aT bP=>?_)
  refine B4 (A7 ?_)
  refine B8 [0,1] kz ?_
  refine B3 [0] [1] [ae,(36,.v (.agg #[aA,aB,ag,aC,aD]))] aT bP fun d5 bQ=>?_
  refine B1 (C7 aT bQ (oi:=2) (cs:=[aA,aB,ag,aC,aD]) kz fun d6 ao aU bR=>?_)
  refine B4 (A7 ?_)
  refine wp_ret (N1 (F5 (D5 bR aU.cells (v:=.agg #[aA,aB,ag,aC,aD]) kz ?_)))
  exact X9 aU rfl ((bG.move (((ak.trans al).trans am).trans ao).step immM (((ak.trans al).trans am).trans ao).to').move (Step.refl _ B5) B0 G0) rfl ⟨(bH.move (((ak.trans al).trans am).trans ao).step immM (((ak.trans al).trans am).trans ao).to').move (Step.refl _ B5) B0 G0,fun i_ x_ h_=>((fun i_ x_ h_=>((cO i_ x_ h_).move (((ak.trans al).trans am).trans ao).step immM (((ak.trans al).trans am).trans ao).to')) i_ x_ h_).move (Step.refl _ B5) B0 G0⟩ rfl ((cP.move (((ak.trans al).trans am).trans ao).step immM (((ak.trans al).trans am).trans ao).to').move (Step.refl _ B5) B0 G0) (Lt ‹_› ‹_› ‹_› bF)
 have dq:ap ≠ 10:=by simpa using aJ
 refine C1 [ar,au,av,ae,aj,(37,.v (.bool (ap == 11)))] ac aI fun d7 aV=>?_
 refine F6 aV (b:=ap == 11) kz (by simpa using aW) ?_
 refine wp_skip (G2 (A7 (B8 [0,1,2,3,4,5] kz ?_)))
 refine B3 [0,1,2,3,4] [5] [ae,(81,.v (.agg #[ah,af,ay,ab,ab]))] ac aV fun d8 bS=>?_
 refine B1 (C7 ac bS (oi:=2) (cs:=[ah,af,ay,ab,ab]) kz fun d9 dr aH bT=>?_)
 refine B4 (A7 ?_)
 refine wp_ret (D5 bT aH.cells (v:=.agg #[ah,af,ay,ab,ab]) kz ?_)
 exact X9 aH rfl ((bk.move aH.step B0 aH.imm).move (Step.refl _ B5) B0 G0) rfl (FA _ _) rfl (TagsR.nil _ _) (Lu ‹_› ‹_› ‹_›)
theorem Mj {d:Nat} (hfit:Ef d) (cf:List Value) (f:Fld) (v:Int) (ct:List Value) (t:Tree) (w:World) (F:Nat → Nat → Prop) (hf:FldR w F cf f) (hpl:f.plain) (hd:depths f.sub ≤ d) (aY:f.kind = 11) (ht:TreeR w F ct t) :
  Calls Tryz.prog 37 #[.agg cf.toArray,.int .i64 v,.agg ct.toArray] w (O9 w F (P6 (C2 v d) v f t)):=by
 obtain ⟨n1,s2,b3,l4,u5,A6,c7,A8,c9,mG,mH,mI,rfl,rfl,mJ,eQ,jN,pJ⟩:=ht.open_
 have kW:=mJ.small
 have kX:=eQ.small
 obtain ⟨bP,aK,aL,fO,dW,aM,av,aH,jO,jP,eR,rfl,rfl,jM,jQ⟩:=hf.open_
 have kY:=jM.small
 have aY:bP = 11:=aY
 have hof:av ≠ 11:=hpl.1
 refine enter (n:=82) Tryz.func37 rfl Tryz.ntmps37 kz fun a hE=>?_
 have hW:=WOk.start w B5
 refine B8 [0,1,2] kz ?_
 let aI:Value:=.int .i64 bP
 let aj:Value:=.int .i64 aK
 let ak:Value:=.int .i64 aL
 let ax:Value:=.int .i64 fO
 let aw:Value:=.int .i64 dW
 let al:Value:=.int .i64 aM
 let ag:Value:=.int .i64 av
 let am:Value:=.slice jO aH.length jP
 refine B1 (J1 hW hE (d:=3) (cs:=[aI,aj,ak,ax,aw,al,ag,am]) kz fun mK pK pL mL mM mN jR jS=>?_)
 let bT:Value:=.slice A6 s2.length c7
 let aN:Value:=.slice A8 l4.length c9
 let bU:Value:=.slice mG u5.length mH
 refine B1 (J1 jR jS (d:=5) (cs:=[.int .i64 n1,bT,.bool b3,aN,bU]) kz fun mO pM pN mQ mR mS jT jU=>?_)
 let ac:Value:=.int .i64 0
 let ab:Value:=.slice none 0 0
 let ar:Value:=.bool false
 refine B1 (D7 jT jU (d:=6) (cs:=[ac,ab,ar,ab,ab]) kz fun mT pO pP mU mV mW eS jV=>?_)
 refine B4 (A7 ?_)
 refine B8 [0,1,2,3,4] kz ?_
 let af:Nat × SV:=(1,.v (.int .i64 v))
 let au:Nat × SV:=(3,.p 0 0)
 let ap:Nat × SV:=(5,.p 1 0)
 let ae:Nat × SV:=(6,.p 2 0)
 let kZ:Value:=(.agg #[.int .i64 bP,.int .i64 aK,.int .i64 aL,.int .i64 fO,.int .i64 dW,.int .i64 aM,.int .i64 av,.slice jO aH.length jP])
 refine B3 [0,1,2] [3,4] [af,au,ap,ae,(13,.v (.agg #[aI,aj,ak,ax,aw,al,ag,am])),(14,.v (.int .i64 v)),(15,.v (.agg #[.int .i64 n1,bT,.bool b3,aN,bU]))] eS jV fun pQ jW=>?_
 refine B1 (C3 jW (f:=77) (vs:=[.agg #[aI,aj,ak,ax,aw,al,ag,am],.int .i64 v,.agg #[.int .i64 n1,bT,.bool b3,aN,bU]]) (d:=16) kz Tryz.call77 (Jd bP aK aL fO dW aM av aH _ _ v n1 s2 b3 l4 u5 _ _ _ _ _ _ _) ?_)
 rintro e_ pR ⟨rfl,fP⟩
 refine ⟨_,rfl,fun pS jX=>?_⟩
 have ay:=eS.next_nil fP
 have mX:=eS.frN fP
 let aJ:Nat × SV:=(7,.v (.bool (Fld.nul (Fld.mk bP aK aL fO dW aM av aH) v (Tree.mk n1 s2 b3 l4 u5))))
 refine B3 [4] [] [af,au,ap,ae,aJ] ay jX fun pT jY=>?_
 refine B4 (A7 ?_)
 refine wp_seq ?_
 let bV:Nat × SV:=(18,.v (.int .i64 bP))
 refine C1 [af,au,ap,ae,aJ,bV] ay jY fun pU jZ=>?_
 refine wp_block (wp_seq (C1 [af,au,ap,ae,aJ,bV,(19,.v (.bool (bP == 8)))] ay jZ fun pV fQ=>?_))
 refine F6 fQ (b:=bP == 8) kz (by simp [aY]) ?_
 refine D9 [0,1] kz ?_
 refine B3 [0,1] [] [af,au,ap,ae,aJ,bV,(19,.v (.bool (bP == 9)))] ay fQ fun pW fR=>?_
 refine B4 (A7 ?_)
 refine F6 fR (b:=bP == 9) kz (by simp [aY]) ?_
 refine C1 [af,au,ap,ae,aJ,bV,(27,.v (.bool (bP == 10)))] ay fR fun pX fS=>?_
 refine F6 fS (b:=bP == 10) kz (by simp [aY]) ?_
 refine C1 [af,au,ap,ae,aJ,(37,.v (.bool (bP == 11)))] ay fS fun pY fT=>?_
 refine Q6 fT (b:=bP == 11) kz (by simpa using aY) ?_
 refine B8 [0,1,2,3,4,5,6,7,8,9,10,11,12,13,14] kz ?_
 refine B3 [0,1] [2,3,4,5,6,7,8,9,10,11,12,13,14] [af,au,ap,ae,(40,.v (.bool (Fld.nul (Fld.mk bP aK aL fO dW aM av aH) v (Tree.mk n1 s2 b3 l4 u5))))] ay fT fun pZ fV=>?_
 let aA:Ob:=⟨mK,0,[aI,aj,ak,ax,aw,al,ag,am],true⟩
 let aB:Ob:=⟨mO,0,[.int .i64 n1,bT,.bool b3,aN,bU],true⟩
 let aC:Ob:=⟨mT,0,[ac,ab,ar,ab,ab],true⟩
 let ah:Nat × SV:=(9,.p 3 0)
 let ce:C8:=[af,au,ap,ae,ah,(52,.v (.agg #[aI,aj,ak,ax,aw,al,ag,am]))]
 let ai:Nat × SV:=(10,.p 4 0)
 let cg:C8:=[af,ap,ae,ah,ai,(54,.v (.int .i64 av)),(55,.p 4 0)]
 let cm:C8:=[af,ap,ae,ah,ai,(56,.p 4 3)]
 let cn:C8:=[af,ap,ae,ah,ai,(57,.p 4 4)]
 let cq:C8:=[af,ae,ah,ai,(59,.v (.slice A8 l4.length c9))]
 let cr:Nat × SV:=(62,.v (.int .i64 0))
 let ao:Value:=.int .i64 (-1)
 let cu:Nat × SV:=(68,.v (.agg #[ag,aj,ak,ao,ao,al,ag,am]))
 let cw:Nat × SV:=(69,.v (.int .i64 v))
 let k7:Value:=.agg #[.int .i64 av,.int .i64 aK,.int .i64 aL,.int .i64 (-1),.int .i64 (-1),.int .i64 aM,.int .i64 av,.slice jO aH.length jP]
 refine (Bool.eq_false_or_eq_true (Fld.nul (Fld.mk bP aK aL fO dW aM av aH) v (Tree.mk n1 s2 b3 l4 u5))).elim (fun cd=>?_) (fun cd=>?_)
 ·
  have j0:=fV.cast (env':=[af,au,ap,ae,(40,.v (.bool true))]) (by simp only [aJ,cd]; try rfl)
  let aD:Value:=.bool true
  refine B3 [2,3,4,5,6,7,8,9,10,11,12] [13,14] [af,au,ap,ae,(51,.v (.agg #[ac,ab,aD,ab,ab]))] ay j0 fun p5 j1=>?_
  refine B1 (D7 ay j1 (d:=9) (cs:=[ac,ab,ar,ab,ab]) kz fun j2 p6 p7 mY mZ m4 j3 j4=>?_)
  refine B1 (C7 j3 j4 (oi:=3) (cs:=[ac,ab,aD,ab,ab]) kz fun p8 m5 fW j5=>?_)
  refine B4 (A7 ?_)
  refine B8 [0,1,2] kz ?_
  refine B3 [0] [1,2] ce fW j5 fun p9 fX=>?_
  refine B1 (D7 fW fX (d:=10) (cs:=[ac,ac,ac,ac,ac,ac,ac,ab]) kz fun j6 m6 m7 la lb lc fY fZ=>?_)
  refine B1 (C7 fY fZ (oi:=4) (cs:=[aI,aj,ak,ax,aw,al,ag,am]) kz fun m8 ld dX f5=>?_)
  refine B4 (A7 ?_)
  refine B8 [0,1,2,3,4,5,6,7] kz ?_
  refine B3 [0,1,2] [3,4,5,6,7] cg dX f5 fun m9 f7=>?_
  refine B1 (C7 dX f7 (oi:=4) (cs:=[ag,aj,ak,ax,aw,al,ag,am]) kz fun nf lf dY f8=>?_)
  refine B3 [4] [5,6,7] cm dY f8 fun ng f9=>?_
  refine B1 (C7 dY f9 (oi:=4) (cs:=[ag,aj,ak,ao,aw,al,ag,am]) kz fun nh lg dZ ga=>?_)
  refine B3 [6] [7] cn dZ ga fun ni gb=>?_
  refine B1 (C7 dZ gb (oi:=4) (cs:=[ag,aj,ak,ao,ao,al,ag,am]) kz fun nj lh aZ gc=>?_)
  refine B4 (A7 ?_)
  refine wp_seq (B8 [0,1,2,3,4] kz ?_)
  refine B3 [0,1] [2,3,4] cq aZ gc fun nk gd=>?_
  refine B1 (C3 gd (f:=78) (vs:=[aN]) (d:=60) kz Tryz.call78 (Gm _ _ l4 (eQ.move aZ.step B0 aZ.imm).le _) ?_)
  rintro e_ nl ⟨rfl,d5⟩
  refine ⟨_,rfl,fun nm ge=>?_⟩
  have cz:=aZ.next_nil d5
  have li:=aZ.frN d5
  refine B3 [3,4] [] [af,ae,ah,ai,(60,.v (.slice A8 ((E3 l4).length) c9)),(61,.v (.int .i64 (((E3 l4).length:Nat):Int))),cr] cz ge fun np gg=>?_
  refine B4 (A7 ?_)
  refine wp_block ?_
  have d6:=cz.addNil 34 5
  have lj:=cz.frNil 34 5
  have hsm3:(E3 l4).length ≤ 32767:=Fa _
  let cA:Ob:=⟨j6,0,[ag,aj,ak,ao,ao,al,ag,am],true⟩
  refine wp_loop_ghost (fun n_ a_ w_=>∃ (k:Nat) (A_:Option Addr) (c_:Nat) (xs:List Value) (css:List (List Value)),n_ = (E3 l4).length - k ∧ k ≤ (E3 l4).length ∧ (Trees w_ (D4 F w w_ [aA,aB,aC,⟨j2,0,[ac,ab,aD,.slice A_ k c_,ab],true⟩,cA] [⟨A_,c_,34,5,k,xs⟩]) xs ((I9 (C2 v d) v (Fld.mk av aK aL (-1) (-1) aM av aH) l4).take k) css) ∧ F1 d6 82 [aA,aB,aC,⟨j2,0,[ac,ab,aD,.slice A_ k c_,ab],true⟩,cA] [⟨A_,c_,34,5,k,xs⟩] [af,ae,ah,ai,(60,.v (.slice A8 ((E3 l4).length) c9)),(61,.v (.int .i64 (((E3 l4).length:Nat):Int))),(62,.v (.int .i64 ((k:Nat):Int)))] a_ w_) ((E3 l4).length) ⟨0,none,0,[],[],by omega,by omega,Trees.nil _ _,gg.pk,d6,Fr.refl _ _ _⟩ ?_
  rintro nr ns nt ⟨k,A_,c_,xs,css,lm,ln,hT,gh,ba,gi⟩
  let cB:Nat × SV:=(62,.v (.int .i64 ((k:Nat):Int)))
  refine C1 [af,ae,ah,ai,(60,.v (.slice A8 ((E3 l4).length) c9)),(61,.v (.int .i64 (((E3 l4).length:Nat):Int))),cB,(63,.v (.bool (decide (((k:Nat):Int) < (((E3 l4).length:Nat):Int)))))] ba gh fun nu cC=>?_
  refine wp_seq (D8 cC (b:=decide (((k:Nat):Int) < (((E3 l4).length:Nat):Int))) kz (fun cE=>?_) (fun cE=>?_))
  ·
   have lp:=of_decide_eq_true cE
   refine wp_skip (A7 (wp_seq (wp_block (B8 [0,1,2,3] kz ?_))))
   obtain ⟨j7,j8,gj,lq,cG⟩:=Slots.get (ES eQ) (i:=k) (by omega)
   obtain ⟨j9,d7⟩:∃ x,(E3 l4)[k]? = some x:=⟨_,List.getElem?_eq_getElem (by omega)⟩
   have cH:=(ET jN) k j9 d7
   obtain ⟨eU,eV,bQ,eW,eX,gk,gm,gn,gp,gq,gt,lr,rfl,cI,ka,kd,nv,nw⟩:=cH.open_
   rw [cI] at cH
   have ke:=ka.small
   have kf:=kd.small
   rw [cI] at cG
   refine B1 (F2 cC (t:=31) (A:=A8) (m:=((E3 l4).length)) (q:=((k:Nat):Int)) (d:=64) kz (e:=34) (size:=5) (bytes:=88) kz gj rfl (by omega) fun nx gv=>?_)
   let bd:Value:=.int .i64 eU
   let bf:Value:=.slice gk eV.length gm
   let bg:Value:=.slice gn eW.length gp
   let bh:Value:=.slice gq eX.length gt
   let ls:Value:=.agg #[.int .i64 eU,.slice gk eV.length gm,.bool bQ,.slice gn eW.length gp,.slice gq eX.length gt]
   refine B1 (G7 gv (t:=34) (b:=j7) (o:=j8 + k * 5) (d:=65) kz (cs:=[bd,bf,.bool bQ,bg,bh]) (v:=.agg #[bd,bf,.bool bQ,bg,bh]) kz (AtF.move cG ba.step B0 E6).at_ fun ny gw=>?_)
   refine B1 (D7 ba gw (d:=12) (cs:=[ac,ab,ar,ab,ab]) kz fun nz nA nB lu lv cJ gy gz=>?_)
   refine B1 (C7 gy gz (oi:=5) (cs:=[bd,bf,.bool bQ,bg,bh]) kz fun nC cK gA gB=>?_)
   refine B4 (A7 ?_)
   refine P5 9 kz gA fun nD cL aE gC=>?_
   refine D6 [0,1,2,3,4] [af,ae,ah,ai,(60,.v (.slice A8 ((E3 l4).length) c9)),(61,.v (.int .i64 (((E3 l4).length:Nat):Int))),cB,(67,.v (.slice A_ k c_)),cu,cw,(70,.v (.agg #[bd,bf,.bool bQ,bg,bh]))] 5 (C0 (B2 (B2 (C0 (B2 (C0 (B2 C6))))))) (fun _ h=>h.cells) gC gB fun nE gD=>?_
   refine C9 (i:=5) kz (C3 gD (f:=37) (vs:=[.agg #[ag,aj,ak,ao,ao,al,ag,am],.int .i64 v,.agg #[bd,bf,.bool bQ,bg,bh]]) (d:=71) kz Tryz.call37 ( Eg hfit _ (Fld.mk av aK aL (-1) (-1) aM av aH) v _ (Tree.mk eU eV bQ eW eX) _ _ (FldR.mk (l:=aH) eR (jM.move aE.step B0 aE.imm) (fun i_ x_ h_=>((jQ i_ x_ h_).move aE.step B0 aE.imm))) hpl.2 hd hof (cH.move aE.step B0 aE.imm)) ?_)
   rintro e_ nF ⟨lw,rfl,gE,cM⟩
   have cN:=gE.move (Step.refl _ B5) B0 (aE.laid (G:=F) cM)
   obtain ⟨cO,eY,cP,eZ,e9,fa,fb,fe,ff,fg,fh,lx,ly,cQ,kg,kh,nG,nH⟩:=cN.open_
   rw [cQ] at cN
   have ki:=kg.small
   have kj:=kh.small
   rw [cQ]
   refine ⟨_,rfl,fun nI gF=>?_⟩
   have d8:=aE.next_nil cM
   have aS:=aE.frN cM
   have gG:=TT.ofW aS d8
   refine ⟨fun _=>gG,?_⟩
   let cR:Value:=.slice fa eY.length fb
   let cS:Value:=.slice fe eZ.length ff
   let cV:Value:=.slice fg e9.length fh
   refine C9 (i:=6) kz (G4 d8 gF (e:=34) (size:=5) (len:=1) (cs:=[.int .i64 cO,cR,.bool cP,cS,cV]) (d:=72) kz kz fun km nJ nK lz lA aO bW gH=>?_)
   have gI:=TT.ofW (aS.trans aO) bW
   refine ⟨fun _=>gI,?_⟩
   refine C9 (i:=7) kz (I7 bW gH (k:=0) (d:=73) (t:=31) (e:=34) (size:=5) (bytes:=88) (A:=A_) (As:=(some ⟨km,0,none⟩)) (m0:=k) (c:=c_) (m:=1) (cs:=1) (xs:=xs) (news:=[.int .i64 cO,cR,.bool cP,cS,cV]) kz kz rfl (M5 (bW.own 1 _ rfl) (K6 kz)) (N7 (bW.own 1 _ rfl)) (by omega) fun cW cX nL nM aT d9 gJ=>?_)
   have ea:=TT.ofW ((aS.trans aO).trans aT) d9
   refine ⟨fun _=>ea,?_⟩
   refine D6 [8] [af,ae,ah,ai,(60,.v (.slice A8 ((E3 l4).length) c9)),(61,.v (.int .i64 (((E3 l4).length:Nat):Int))),cB,(73,.v (.slice cW (k + 1) cX)),(74,.p 3 3)] 1 (C0 (B2 (B2 (C0 (B2 (C0 (B2 C6))))))) (fun _ h=>h.cells) ea gJ fun nN gK=>?_
   refine C9 (i:=9) kz (C7 d9 gK (oi:=3) (cs:=[ac,ab,aD,.slice cW (k + 1) cX,ab]) kz fun nO bi eb gL=>?_)
   refine ⟨fun h=>absurd rfl h,?_⟩
   refine F3 kz ?_ _
   refine G2 (A7 (D9 [0,1] kz ?_))
   refine B3 [0,1] [] [af,ae,ah,ai,(60,.v (.slice A8 ((E3 l4).length) c9)),(61,.v (.int .i64 (((E3 l4).length:Nat):Int))),(62,.v (.int .i64 (IntKind.i64.wrap (((k:Nat):Int) + 1))))] eb gL fun nP gM=>?_
   refine B4 (A7 ?_)
   obtain ⟨ec,gN,bj⟩:=eb.cutB gM 5 [aA,aB,aC,⟨j2,0,[ac,ab,aD,.slice cW (k + 1) cX,ab],true⟩,cA] [af,ae,ah,ai,(60,.v (.slice A8 ((E3 l4).length) c9)),(61,.v (.int .i64 (((E3 l4).length:Nat):Int))),(62,.v (.int .i64 (IntKind.i64.wrap (((k:Nat):Int) + 1))))]
   obtain ⟨gO,bk⟩:=gN.cutR 1 [⟨cW,cX,34,5,k + 1,xs ++ [.int .i64 cO,cR,.bool cP,cS,cV]⟩]
   have gP:IntKind.i64.wrap (((k:Nat):Int) + 1) = ((k + 1:Nat):Int):=H1 (by omega)
   rw [gP] at ec
   exact ⟨(E3 l4).length - (k + 1),by omega,k + 1,cW,cX,xs ++ [Value.int .i64 cO,.slice fa eY.length fb,.bool cP,.slice fe eZ.length ff,.slice fg e9.length fh],(css ++ [[Value.int .i64 cO,.slice fa eY.length fb,.bool cP,.slice fe eZ.length ff,.slice fg e9.length fh]]),rfl,by omega,by rw [V0 (FD (p:=C2 v d) (v:=v) (f:=(Fld.mk av aK aL (-1) (-1) aM av aH)) d7)]; exact (hT.move ((((((((cJ.trans cK).trans cL).trans aS).trans aO).trans aT).trans bi).trans bj).trans bk).step immM ((((((((cJ.trans cK).trans cL).trans aS).trans aO).trans aT).trans bi).trans bj).trans bk).to').snoc (cN.move ((((aO.trans aT).trans bi).trans bj).trans bk).step immM ((((aO.trans aT).trans bi).trans bj).trans bk).to'),ec.pk,gO,(((((((((gi.trans cJ).trans cK).trans cL).trans aS).trans aO).trans aT).trans bi).trans bj).trans bk)⟩
  have lB:=of_decide_eq_false cE
  refine wp_exit (E2 (E2 (G3 (A7 (B8 [0,1] kz ?_)))))
  refine B3 [0] [1] [ae,(76,.v (.agg #[ac,ab,aD,.slice A_ k c_,ab]))] ba cC fun nQ gQ=>?_
  refine B1 (C7 ba gQ (oi:=2) (cs:=[ac,ab,aD,.slice A_ k c_,ab]) kz fun nR ee cY gR=>?_)
  refine B4 (A7 ?_)
  refine wp_ret (N1 (F5 (D5 gR cY.cells (v:=.agg #[ac,ab,aD,.slice A_ k c_,ab]) kz ?_)))
  have hk0:k = (I9 (C2 v d) v (Fld.mk av aK aL (-1) (-1) aM av aH) l4).length:=by rw [Cc]; omega
  have hT':=(hT.move ee.step immM ee.to')
  rw [show (I9 (C2 v d) v (Fld.mk av aK aL (-1) (-1) aM av aH) l4).take k = (I9 (C2 v d) v (Fld.mk av aK aL (-1) (-1) aM av aH) l4) by rw [hk0,List.take_length]] at hT'
  exact X9 cY rfl (Octs.nil _ _) hk0 (Cb cY (k:=0) rfl hT' hk0 (by rw [Cc]; omega)) rfl (TagsR.nil _ _) (FE aY (by simp only [cd]; try simp))
 let bX:Nat × SV:=(40,.v (.bool false))
 have gS:=fV.cast (env':=[af,au,ap,ae,bX]) (by simp only [aJ,cd]; try rfl)
 refine B3 [2,3,4,5] [6,7,8,9,10,11,12,13,14] [af,au,ap,ae,bX,(44,.v (.bool (decide (dW ≥ 0))))] ay gS fun nS ef=>?_
 refine (Bool.eq_false_or_eq_true (decide (dW ≥ 0))).elim (fun aP=>?_) (fun aP=>?_)
 ·
  have lC:=of_decide_eq_true aP
  have gT:=ef
  rw [aP] at gT
  refine B3 [6,7,8,9,10,11,12] [13,14] [af,au,ap,ae,(51,.v (.agg #[ac,ab,.bool (((l4.length:Nat):Int) == 0),ab,ab]))] ay gT fun nT gU=>?_
  refine B1 (D7 ay gU (d:=9) (cs:=[ac,ab,ar,ab,ab]) kz fun fi nU nV lD lE lF gV gW=>?_)
  refine B1 (C7 gV gW (oi:=3) (cs:=[ac,ab,.bool (((l4.length:Nat):Int) == 0),ab,ab]) kz fun nW lG eg gX=>?_)
  refine B4 (A7 ?_)
  refine B8 [0,1,2] kz ?_
  refine B3 [0] [1,2] ce eg gX fun nX gY=>?_
  refine B1 (D7 eg gY (d:=10) (cs:=[ac,ac,ac,ac,ac,ac,ac,ab]) kz fun ko nY nZ lH lI lJ gZ g9=>?_)
  refine B1 (C7 gZ g9 (oi:=4) (cs:=[aI,aj,ak,ax,aw,al,ag,am]) kz fun n0 lK eh hC=>?_)
  refine B4 (A7 ?_)
  refine B8 [0,1,2,3,4,5,6,7] kz ?_
  refine B3 [0,1,2] [3,4,5,6,7] cg eh hC fun n4 hJ=>?_
  refine B1 (C7 eh hJ (oi:=4) (cs:=[ag,aj,ak,ax,aw,al,ag,am]) kz fun n5 lL ei hK=>?_)
  refine B3 [4] [5,6,7] cm ei hK fun n8 hY=>?_
  refine B1 (C7 ei hY (oi:=4) (cs:=[ag,aj,ak,ao,aw,al,ag,am]) kz fun n9 lM ej hZ=>?_)
  refine B3 [6] [7] cn ej hZ fun oa ia=>?_
  refine B1 (C7 ej ia (oi:=4) (cs:=[ag,aj,ak,ao,ao,al,ag,am]) kz fun od lN bn ib=>?_)
  refine B4 (A7 ?_)
  refine wp_seq (B8 [0,1,2,3,4] kz ?_)
  refine B3 [0,1] [2,3,4] cq bn ib fun oe ic=>?_
  refine B1 (C3 ic (f:=78) (vs:=[aN]) (d:=60) kz Tryz.call78 (Gm _ _ l4 (eQ.move bn.step B0 bn.imm).le _) ?_)
  rintro e_ og ⟨rfl,ek⟩
  refine ⟨_,rfl,fun oh ig=>?_⟩
  have cZ:=bn.next_nil ek
  have lO:=bn.frN ek
  refine B3 [3,4] [] [af,ae,ah,ai,(60,.v (.slice A8 ((E3 l4).length) c9)),(61,.v (.int .i64 (((E3 l4).length:Nat):Int))),cr] cZ ig fun ol ii=>?_
  refine B4 (A7 ?_)
  refine wp_block ?_
  have em:=cZ.addNil 34 5
  have lP:=cZ.frNil 34 5
  have hsm3:(E3 l4).length ≤ 32767:=Fa _
  let da:Ob:=⟨ko,0,[ag,aj,ak,ao,ao,al,ag,am],true⟩
  refine wp_loop_ghost (fun n_ a_ w_=>∃ (k:Nat) (A_:Option Addr) (c_:Nat) (xs:List Value) (css:List (List Value)),n_ = (E3 l4).length - k ∧ k ≤ (E3 l4).length ∧ (Trees w_ (D4 F w w_ [aA,aB,aC,⟨fi,0,[ac,ab,.bool (((l4.length:Nat):Int) == 0),.slice A_ k c_,ab],true⟩,da] [⟨A_,c_,34,5,k,xs⟩]) xs ((I9 (C2 v d) v (Fld.mk av aK aL (-1) (-1) aM av aH) l4).take k) css) ∧ F1 em 82 [aA,aB,aC,⟨fi,0,[ac,ab,.bool (((l4.length:Nat):Int) == 0),.slice A_ k c_,ab],true⟩,da] [⟨A_,c_,34,5,k,xs⟩] [af,ae,ah,ai,(60,.v (.slice A8 ((E3 l4).length) c9)),(61,.v (.int .i64 (((E3 l4).length:Nat):Int))),(62,.v (.int .i64 ((k:Nat):Int)))] a_ w_) ((E3 l4).length) ⟨0,none,0,[],[],by omega,by omega,Trees.nil _ _,ii.pk,em,Fr.refl _ _ _⟩ ?_
  rintro om oq ot ⟨k,A_,c_,xs,css,lQ,lR,hT,ij,bp,ik⟩
  let db:Nat × SV:=(62,.v (.int .i64 ((k:Nat):Int)))
  refine C1 [af,ae,ah,ai,(60,.v (.slice A8 ((E3 l4).length) c9)),(61,.v (.int .i64 (((E3 l4).length:Nat):Int))),db,(63,.v (.bool (decide (((k:Nat):Int) < (((E3 l4).length:Nat):Int)))))] bp ij fun ou dc=>?_
  refine wp_seq (D8 dc (b:=decide (((k:Nat):Int) < (((E3 l4).length:Nat):Int))) kz (fun de=>?_) (fun de=>?_))
  ·
   have lS:=of_decide_eq_true de
   refine wp_skip (A7 (wp_seq (wp_block (B8 [0,1,2,3] kz ?_))))
   obtain ⟨kp,kq,il,lT,df⟩:=Slots.get (ES eQ) (i:=k) (by omega)
   obtain ⟨ku,eo⟩:∃ x,(E3 l4)[k]? = some x:=⟨_,List.getElem?_eq_getElem (by omega)⟩
   have dg:=(ET jN) k ku eo
   obtain ⟨fj,fk,bR,fl,fm,im,io,ip,iq,ir,iu,lU,rfl,dh,kv,kw,ov,ow⟩:=dg.open_
   rw [dh] at dg
   have ky:=kv.small
   have kA:=kw.small
   rw [dh] at df
   refine B1 (F2 dc (t:=31) (A:=A8) (m:=((E3 l4).length)) (q:=((k:Nat):Int)) (d:=64) kz (e:=34) (size:=5) (bytes:=88) kz il rfl (by omega) fun ox iv=>?_)
   let bq:Value:=.int .i64 fj
   let bt:Value:=.slice im fk.length io
   let bu:Value:=.slice ip fl.length iq
   let bw:Value:=.slice ir fm.length iu
   let lV:Value:=.agg #[.int .i64 fj,.slice im fk.length io,.bool bR,.slice ip fl.length iq,.slice ir fm.length iu]
   refine B1 (G7 iv (t:=34) (b:=kp) (o:=kq + k * 5) (d:=65) kz (cs:=[bq,bt,.bool bR,bu,bw]) (v:=.agg #[bq,bt,.bool bR,bu,bw]) kz (AtF.move df bp.step B0 E6).at_ fun oy iw=>?_)
   refine B1 (D7 bp iw (d:=12) (cs:=[ac,ab,ar,ab,ab]) kz fun oz oA oB lW lX di ix iy=>?_)
   refine B1 (C7 ix iy (oi:=5) (cs:=[bq,bt,.bool bR,bu,bw]) kz fun oC dj iz iA=>?_)
   refine B4 (A7 ?_)
   refine P5 9 kz iz fun oD dl aF iB=>?_
   refine D6 [0,1,2,3,4] [af,ae,ah,ai,(60,.v (.slice A8 ((E3 l4).length) c9)),(61,.v (.int .i64 (((E3 l4).length:Nat):Int))),db,(67,.v (.slice A_ k c_)),cu,cw,(70,.v (.agg #[bq,bt,.bool bR,bu,bw]))] 5 (C0 (B2 (B2 (C0 (B2 (C0 (B2 C6))))))) (fun _ h=>h.cells) iB iA fun oE iC=>?_
   refine C9 (i:=5) kz (C3 iC (f:=37) (vs:=[.agg #[ag,aj,ak,ao,ao,al,ag,am],.int .i64 v,.agg #[bq,bt,.bool bR,bu,bw]]) (d:=71) kz Tryz.call37 ( Eg hfit _ (Fld.mk av aK aL (-1) (-1) aM av aH) v _ (Tree.mk fj fk bR fl fm) _ _ (FldR.mk (l:=aH) eR (jM.move aF.step B0 aF.imm) (fun i_ x_ h_=>((jQ i_ x_ h_).move aF.step B0 aF.imm))) hpl.2 hd hof (dg.move aF.step B0 aF.imm)) ?_)
   rintro e_ oF ⟨lY,rfl,iD,dm⟩
   have dn:=iD.move (Step.refl _ B5) B0 (aF.laid (G:=F) dm)
   obtain ⟨dp,fo,dq,fq,fr,ft,fu,fv,fw,fx,fy,lZ,l3,dr,kB,kC,oG,oH⟩:=dn.open_
   rw [dr] at dn
   have kD:=kB.small
   have kE:=kC.small
   rw [dr]
   refine ⟨_,rfl,fun oI iE=>?_⟩
   have eu:=aF.next_nil dm
   have aU:=aF.frN dm
   have iF:=TT.ofW aU eu
   refine ⟨fun _=>iF,?_⟩
   let dt:Value:=.slice ft fo.length fu
   let du:Value:=.slice fv fq.length fw
   let dv:Value:=.slice fx fr.length fy
   refine C9 (i:=6) kz (G4 eu iE (e:=34) (size:=5) (len:=1) (cs:=[.int .i64 dp,dt,.bool dq,du,dv]) (d:=72) kz kz fun kF oJ oK l5 l6 aQ bY iG=>?_)
   have iH:=TT.ofW (aU.trans aQ) bY
   refine ⟨fun _=>iH,?_⟩
   refine C9 (i:=7) kz (I7 bY iG (k:=0) (d:=73) (t:=31) (e:=34) (size:=5) (bytes:=88) (A:=A_) (As:=(some ⟨kF,0,none⟩)) (m0:=k) (c:=c_) (m:=1) (cs:=1) (xs:=xs) (news:=[.int .i64 dp,dt,.bool dq,du,dv]) kz kz rfl (M5 (bY.own 1 _ rfl) (K6 kz)) (N7 (bY.own 1 _ rfl)) (by omega) fun dw dx oL oM aV ev iI=>?_)
   have ew:=TT.ofW ((aU.trans aQ).trans aV) ev
   refine ⟨fun _=>ew,?_⟩
   refine D6 [8] [af,ae,ah,ai,(60,.v (.slice A8 ((E3 l4).length) c9)),(61,.v (.int .i64 (((E3 l4).length:Nat):Int))),db,(73,.v (.slice dw (k + 1) dx)),(74,.p 3 3)] 1 (C0 (B2 (B2 (C0 (B2 (C0 (B2 C6))))))) (fun _ h=>h.cells) ew iI fun oN iJ=>?_
   refine C9 (i:=9) kz (C7 ev iJ (oi:=3) (cs:=[ac,ab,.bool (((l4.length:Nat):Int) == 0),.slice dw (k + 1) dx,ab]) kz fun oO bz ey iK=>?_)
   refine ⟨fun h=>absurd rfl h,?_⟩
   refine F3 kz ?_ _
   refine G2 (A7 (D9 [0,1] kz ?_))
   refine B3 [0,1] [] [af,ae,ah,ai,(60,.v (.slice A8 ((E3 l4).length) c9)),(61,.v (.int .i64 (((E3 l4).length:Nat):Int))),(62,.v (.int .i64 (IntKind.i64.wrap (((k:Nat):Int) + 1))))] ey iK fun oP iL=>?_
   refine B4 (A7 ?_)
   obtain ⟨ez,iM,bD⟩:=ey.cutB iL 5 [aA,aB,aC,⟨fi,0,[ac,ab,.bool (((l4.length:Nat):Int) == 0),.slice dw (k + 1) dx,ab],true⟩,da] [af,ae,ah,ai,(60,.v (.slice A8 ((E3 l4).length) c9)),(61,.v (.int .i64 (((E3 l4).length:Nat):Int))),(62,.v (.int .i64 (IntKind.i64.wrap (((k:Nat):Int) + 1))))]
   obtain ⟨iN,bE⟩:=iM.cutR 1 [⟨dw,dx,34,5,k + 1,xs ++ [.int .i64 dp,dt,.bool dq,du,dv]⟩]
   have iO:IntKind.i64.wrap (((k:Nat):Int) + 1) = ((k + 1:Nat):Int):=H1 (by omega)
   rw [iO] at ez
   exact ⟨(E3 l4).length - (k + 1),by omega,k + 1,dw,dx,xs ++ [Value.int .i64 dp,.slice ft fo.length fu,.bool dq,.slice fv fq.length fw,.slice fx fr.length fy],(css ++ [[Value.int .i64 dp,.slice ft fo.length fu,.bool dq,.slice fv fq.length fw,.slice fx fr.length fy]]),rfl,by omega,by rw [V0 (FD (p:=C2 v d) (v:=v) (f:=(Fld.mk av aK aL (-1) (-1) aM av aH)) eo)]; exact (hT.move ((((((((di.trans dj).trans dl).trans aU).trans aQ).trans aV).trans bz).trans bD).trans bE).step immM ((((((((di.trans dj).trans dl).trans aU).trans aQ).trans aV).trans bz).trans bD).trans bE).to').snoc (dn.move ((((aQ.trans aV).trans bz).trans bD).trans bE).step immM ((((aQ.trans aV).trans bz).trans bD).trans bE).to'),ez.pk,iN,(((((((((ik.trans di).trans dj).trans dl).trans aU).trans aQ).trans aV).trans bz).trans bD).trans bE)⟩
  have l7:=of_decide_eq_false de
  refine wp_exit (E2 (E2 (G3 (A7 (B8 [0,1] kz ?_)))))
  refine B3 [0] [1] [ae,(76,.v (.agg #[ac,ab,.bool (((l4.length:Nat):Int) == 0),.slice A_ k c_,ab]))] bp dc fun oQ iP=>?_
  refine B1 (C7 bp iP (oi:=2) (cs:=[ac,ab,.bool (((l4.length:Nat):Int) == 0),.slice A_ k c_,ab]) kz fun oR eB dy iQ=>?_)
  refine B4 (A7 ?_)
  refine wp_ret (N1 (F5 (D5 iQ dy.cells (v:=.agg #[ac,ab,.bool (((l4.length:Nat):Int) == 0),.slice A_ k c_,ab]) kz ?_)))
  have hk0:k = (I9 (C2 v d) v (Fld.mk av aK aL (-1) (-1) aM av aH) l4).length:=by rw [Cc]; omega
  have hT':=(hT.move eB.step immM eB.to')
  rw [show (I9 (C2 v d) v (Fld.mk av aK aL (-1) (-1) aM av aH) l4).take k = (I9 (C2 v d) v (Fld.mk av aK aL (-1) (-1) aM av aH) l4) by rw [hk0,List.take_length]] at hT'
  exact X9 dy rfl (Octs.nil _ _) hk0 (Cb dy (k:=0) rfl hT' hk0 (by rw [Cc]; omega)) rfl (TagsR.nil _ _) (FE aY (by simp only [cd,aP]; try simp))
 have l8:=of_decide_eq_false aP
 have iR:=ef.cast (env':=[af,au,ap,ae,bX,(44,.v (.bool false))]) (by rw [aP])
 refine B3 [6,7,8,9,10,11,12] [13,14] [af,au,ap,ae,(51,.v (.agg #[ac,ab,ar,ab,ab]))] ay iR fun oS iS=>?_
 refine B1 (D7 ay iS (d:=9) (cs:=[ac,ab,ar,ab,ab]) kz fun fA oT oU l9 ma mc iT iU=>?_)
 refine B1 (C7 iT iU (oi:=3) (cs:=[ac,ab,ar,ab,ab]) kz fun oV md eC iV=>?_)
 refine B4 (A7 ?_)
 refine B8 [0,1,2] kz ?_
 refine B3 [0] [1,2] ce eC iV fun oW iW=>?_
 refine B1 (D7 eC iW (d:=10) (cs:=[ac,ac,ac,ac,ac,ac,ac,ab]) kz fun kG oX oY me mf mg iX iY=>?_)
 refine B1 (C7 iX iY (oi:=4) (cs:=[aI,aj,ak,ax,aw,al,ag,am]) kz fun oZ mh eD iZ=>?_)
 refine B4 (A7 ?_)
 refine B8 [0,1,2,3,4,5,6,7] kz ?_
 refine B3 [0,1,2] [3,4,5,6,7] cg eD iZ fun o5 i6=>?_
 refine B1 (C7 eD i6 (oi:=4) (cs:=[ag,aj,ak,ax,aw,al,ag,am]) kz fun o6 mi eE i7=>?_)
 refine B3 [4] [5,6,7] cm eE i7 fun o7 ja=>?_
 refine B1 (C7 eE ja (oi:=4) (cs:=[ag,aj,ak,ao,aw,al,ag,am]) kz fun o8 mj eF jb=>?_)
 refine B3 [6] [7] cn eF jb fun o9 jc=>?_
 refine B1 (C7 eF jc (oi:=4) (cs:=[ag,aj,ak,ao,ao,al,ag,am]) kz fun pa ml bF jd=>?_)
 refine B4 (A7 ?_)
 refine wp_seq (B8 [0,1,2,3,4] kz ?_)
 refine B3 [0,1] [2,3,4] cq bF jd fun pb je=>?_
 refine B1 (C3 je (f:=78) (vs:=[aN]) (d:=60) kz Tryz.call78 (Gm _ _ l4 (eQ.move bF.step B0 bF.imm).le _) ?_)
 rintro e_ pc ⟨rfl,eG⟩
 refine ⟨_,rfl,fun pd jf=>?_⟩
 have dA:=bF.next_nil eG
 have mn:=bF.frN eG
 refine B3 [3,4] [] [af,ae,ah,ai,(60,.v (.slice A8 ((E3 l4).length) c9)),(61,.v (.int .i64 (((E3 l4).length:Nat):Int))),cr] dA jf fun pe jg=>?_
 refine B4 (A7 ?_)
 refine wp_block ?_
 have eH:=dA.addNil 34 5
 have mo:=dA.frNil 34 5
 have hsm3:(E3 l4).length ≤ 32767:=Fa _
 let dB:Ob:=⟨kG,0,[ag,aj,ak,ao,ao,al,ag,am],true⟩
 refine wp_loop_ghost (fun n_ a_ w_=>∃ (k:Nat) (A_:Option Addr) (c_:Nat) (xs:List Value) (css:List (List Value)),n_ = (E3 l4).length - k ∧ k ≤ (E3 l4).length ∧ (Trees w_ (D4 F w w_ [aA,aB,aC,⟨fA,0,[ac,ab,ar,.slice A_ k c_,ab],true⟩,dB] [⟨A_,c_,34,5,k,xs⟩]) xs ((I9 (C2 v d) v (Fld.mk av aK aL (-1) (-1) aM av aH) l4).take k) css) ∧ F1 eH 82 [aA,aB,aC,⟨fA,0,[ac,ab,ar,.slice A_ k c_,ab],true⟩,dB] [⟨A_,c_,34,5,k,xs⟩] [af,ae,ah,ai,(60,.v (.slice A8 ((E3 l4).length) c9)),(61,.v (.int .i64 (((E3 l4).length:Nat):Int))),(62,.v (.int .i64 ((k:Nat):Int)))] a_ w_) ((E3 l4).length) ⟨0,none,0,[],[],by omega,by omega,Trees.nil _ _,jg.pk,eH,Fr.refl _ _ _⟩ ?_
 rintro pf pg ph ⟨k,A_,c_,xs,css,mp,mq,hT,jh,bG,ji⟩
 let dC:Nat × SV:=(62,.v (.int .i64 ((k:Nat):Int)))
 refine C1 [af,ae,ah,ai,(60,.v (.slice A8 ((E3 l4).length) c9)),(61,.v (.int .i64 (((E3 l4).length:Nat):Int))),dC,(63,.v (.bool (decide (((k:Nat):Int) < (((E3 l4).length:Nat):Int)))))] bG jh fun pi dD=>?_
 refine wp_seq (D8 dD (b:=decide (((k:Nat):Int) < (((E3 l4).length:Nat):Int))) kz (fun dE=>?_) (fun dE=>?_))
 ·
  have mr:=of_decide_eq_true dE
  refine wp_skip (A7 (wp_seq (wp_block (B8 [0,1,2,3] kz ?_))))
  obtain ⟨kH,kI,jj,mt,dF⟩:=Slots.get (ES eQ) (i:=k) (by omega)
  obtain ⟨kJ,eI⟩:∃ x,(E3 l4)[k]? = some x:=⟨_,List.getElem?_eq_getElem (by omega)⟩
  have dG:=(ET jN) k kJ eI
  obtain ⟨fB,fC,bS,fD,fE,jk,jl,jm,jn,jo,jp,mu,rfl,dH,kK,kM,pj,pl⟩:=dG.open_
  rw [dH] at dG
  have kN:=kK.small
  have kP:=kM.small
  rw [dH] at dF
  refine B1 (F2 dD (t:=31) (A:=A8) (m:=((E3 l4).length)) (q:=((k:Nat):Int)) (d:=64) kz (e:=34) (size:=5) (bytes:=88) kz jj rfl (by omega) fun pm jq=>?_)
  let bH:Value:=.int .i64 fB
  let bI:Value:=.slice jk fC.length jl
  let bJ:Value:=.slice jm fD.length jn
  let bK:Value:=.slice jo fE.length jp
  let mw:Value:=.agg #[.int .i64 fB,.slice jk fC.length jl,.bool bS,.slice jm fD.length jn,.slice jo fE.length jp]
  refine B1 (G7 jq (t:=34) (b:=kH) (o:=kI + k * 5) (d:=65) kz (cs:=[bH,bI,.bool bS,bJ,bK]) (v:=.agg #[bH,bI,.bool bS,bJ,bK]) kz (AtF.move dF bG.step B0 E6).at_ fun pn jr=>?_)
  refine B1 (D7 bG jr (d:=12) (cs:=[ac,ab,ar,ab,ab]) kz fun po pp pq mx my dI js jt=>?_)
  refine B1 (C7 js jt (oi:=5) (cs:=[bH,bI,.bool bS,bJ,bK]) kz fun pr dJ ju jv=>?_)
  refine B4 (A7 ?_)
  refine P5 9 kz ju fun pt dK aG jw=>?_
  refine D6 [0,1,2,3,4] [af,ae,ah,ai,(60,.v (.slice A8 ((E3 l4).length) c9)),(61,.v (.int .i64 (((E3 l4).length:Nat):Int))),dC,(67,.v (.slice A_ k c_)),cu,cw,(70,.v (.agg #[bH,bI,.bool bS,bJ,bK]))] 5 (C0 (B2 (B2 (C0 (B2 (C0 (B2 C6))))))) (fun _ h=>h.cells) jw jv fun pu jx=>?_
  refine C9 (i:=5) kz (C3 jx (f:=37) (vs:=[.agg #[ag,aj,ak,ao,ao,al,ag,am],.int .i64 v,.agg #[bH,bI,.bool bS,bJ,bK]]) (d:=71) kz Tryz.call37 ( Eg hfit _ (Fld.mk av aK aL (-1) (-1) aM av aH) v _ (Tree.mk fB fC bS fD fE) _ _ (FldR.mk (l:=aH) eR (jM.move aG.step B0 aG.imm) (fun i_ x_ h_=>((jQ i_ x_ h_).move aG.step B0 aG.imm))) hpl.2 hd hof (dG.move aG.step B0 aG.imm)) ?_)
  rintro e_ pv ⟨mz,rfl,jy,dL⟩
  have dM:=jy.move (Step.refl _ B5) B0 (aG.laid (G:=F) dL)
  obtain ⟨dN,fF,dO,fG,fH,fI,fJ,fK,fL,fM,fN,mA,mB,dP,kQ,kR,pw,px⟩:=dM.open_
  rw [dP] at dM
  have kS:=kQ.small
  have kU:=kR.small
  rw [dP]
  refine ⟨_,rfl,fun pz jz=>?_⟩
  have eJ:=aG.next_nil dL
  have aW:=aG.frN dL
  have jA:=TT.ofW aW eJ
  refine ⟨fun _=>jA,?_⟩
  let dQ:Value:=.slice fI fF.length fJ
  let dR:Value:=.slice fK fG.length fL
  let dS:Value:=.slice fM fH.length fN
  refine C9 (i:=6) kz (G4 eJ jz (e:=34) (size:=5) (len:=1) (cs:=[.int .i64 dN,dQ,.bool dO,dR,dS]) (d:=72) kz kz fun kV pA pB mC mD aR bZ jB=>?_)
  have jC:=TT.ofW (aW.trans aR) bZ
  refine ⟨fun _=>jC,?_⟩
  refine C9 (i:=7) kz (I7 bZ jB (k:=0) (d:=73) (t:=31) (e:=34) (size:=5) (bytes:=88) (A:=A_) (As:=(some ⟨kV,0,none⟩)) (m0:=k) (c:=c_) (m:=1) (cs:=1) (xs:=xs) (news:=[.int .i64 dN,dQ,.bool dO,dR,dS]) kz kz rfl (M5 (bZ.own 1 _ rfl) (K6 kz)) (N7 (bZ.own 1 _ rfl)) (by omega) fun dT dU pC pD aX eK jD=>?_)
  have eM:=TT.ofW ((aW.trans aR).trans aX) eK
  refine ⟨fun _=>eM,?_⟩
  refine D6 [8] [af,ae,ah,ai,(60,.v (.slice A8 ((E3 l4).length) c9)),(61,.v (.int .i64 (((E3 l4).length:Nat):Int))),dC,(73,.v (.slice dT (k + 1) dU)),(74,.p 3 3)] 1 (C0 (B2 (B2 (C0 (B2 (C0 (B2 C6))))))) (fun _ h=>h.cells) eM jD fun pE jE=>?_
  refine C9 (i:=9) kz (C7 eK jE (oi:=3) (cs:=[ac,ab,ar,.slice dT (k + 1) dU,ab]) kz fun pF bM eN jF=>?_)
  refine ⟨fun h=>absurd rfl h,?_⟩
  refine F3 kz ?_ _
  refine G2 (A7 (D9 [0,1] kz ?_))
  refine B3 [0,1] [] [af,ae,ah,ai,(60,.v (.slice A8 ((E3 l4).length) c9)),(61,.v (.int .i64 (((E3 l4).length:Nat):Int))),(62,.v (.int .i64 (IntKind.i64.wrap (((k:Nat):Int) + 1))))] eN jF fun pG jG=>?_
  refine B4 (A7 ?_)
  obtain ⟨eO,jH,bN⟩:=eN.cutB jG 5 [aA,aB,aC,⟨fA,0,[ac,ab,ar,.slice dT (k + 1) dU,ab],true⟩,dB] [af,ae,ah,ai,(60,.v (.slice A8 ((E3 l4).length) c9)),(61,.v (.int .i64 (((E3 l4).length:Nat):Int))),(62,.v (.int .i64 (IntKind.i64.wrap (((k:Nat):Int) + 1))))]
  obtain ⟨jI,bO⟩:=jH.cutR 1 [⟨dT,dU,34,5,k + 1,xs ++ [.int .i64 dN,dQ,.bool dO,dR,dS]⟩]
  have jJ:IntKind.i64.wrap (((k:Nat):Int) + 1) = ((k + 1:Nat):Int):=H1 (by omega)
  rw [jJ] at eO
  exact ⟨(E3 l4).length - (k + 1),by omega,k + 1,dT,dU,xs ++ [Value.int .i64 dN,.slice fI fF.length fJ,.bool dO,.slice fK fG.length fL,.slice fM fH.length fN],(css ++ [[Value.int .i64 dN,.slice fI fF.length fJ,.bool dO,.slice fK fG.length fL,.slice fM fH.length fN]]),rfl,by omega,by rw [V0 (FD (p:=C2 v d) (v:=v) (f:=(Fld.mk av aK aL (-1) (-1) aM av aH)) eI)]; exact (hT.move ((((((((dI.trans dJ).trans dK).trans aW).trans aR).trans aX).trans bM).trans bN).trans bO).step immM ((((((((dI.trans dJ).trans dK).trans aW).trans aR).trans aX).trans bM).trans bN).trans bO).to').snoc (dM.move ((((aR.trans aX).trans bM).trans bN).trans bO).step immM ((((aR.trans aX).trans bM).trans bN).trans bO).to'),eO.pk,jI,(((((((((ji.trans dI).trans dJ).trans dK).trans aW).trans aR).trans aX).trans bM).trans bN).trans bO)⟩
 have mF:=of_decide_eq_false dE
 refine wp_exit (E2 (E2 (G3 (A7 (B8 [0,1] kz ?_)))))
 refine B3 [0] [1] [ae,(76,.v (.agg #[ac,ab,ar,.slice A_ k c_,ab]))] bG dD fun pH jK=>?_
 refine B1 (C7 bG jK (oi:=2) (cs:=[ac,ab,ar,.slice A_ k c_,ab]) kz fun pI eP dV jL=>?_)
 refine B4 (A7 ?_)
 refine wp_ret (N1 (F5 (D5 jL dV.cells (v:=.agg #[ac,ab,ar,.slice A_ k c_,ab]) kz ?_)))
 have hk0:k = (I9 (C2 v d) v (Fld.mk av aK aL (-1) (-1) aM av aH) l4).length:=by rw [Cc]; omega
 have hT':=(hT.move eP.step immM eP.to')
 rw [show (I9 (C2 v d) v (Fld.mk av aK aL (-1) (-1) aM av aH) l4).take k = (I9 (C2 v d) v (Fld.mk av aK aL (-1) (-1) aM av aH) l4) by rw [hk0,List.take_length]] at hT'
 exact X9 dV rfl (Octs.nil _ _) hk0 (Cb dV (k:=0) rfl hT' hk0 (by rw [Cc]; omega)) rfl (TagsR.nil _ _) (FE aY (by simp only [cd,aP]; try simp))
theorem Mk {d:Nat} (hfit:Ef d) (cf:List Value) (f:Fld) (v:Int) (ct:List Value) (t:Tree) (w:World) (F:Nat → Nat → Prop) (hf:FldR w F cf f) (hpl:f.plain) (hd:depths f.sub ≤ d) (ht:TreeR w F ct t) :
  Calls Tryz.prog 37 #[.agg cf.toArray,.int .i64 v,.agg ct.toArray] w (O9 w F (P6 (C2 v d) v f t)):=by
 by_cases h:f.kind = 11
 ·exact Mj hfit cf f v ct t w F hf hpl hd h ht
 obtain ⟨k,x1,x2,x3,x4,x5,x6,l,A,c,xs,rfl,hcs,h1,h2⟩:=hf.open_
 rw [Lv (k:=k) h]
 exact Eg hfit cf _ v ct t w F hf hpl.2 hd h ht
theorem CY (W:Fld → Tree → Tree) (A:Option Addr) (c:Nat) (l:List Fld) (v:Int) (ct:List Value) (t:Tree) (w:World) (F:Nat → Nat → Prop) (hW_:∀ cf f ct t w F,f ∈ l → FldR w F cf f → TreeR w F ct t → Calls Tryz.prog 37 #[.agg cf.toArray,.int .i64 v,.agg ct.toArray] w (O9 w F (W f t))) (hl:FldsR w F A c l) (ht:TreeR w F ct t) :
  Calls Tryz.prog 18 #[.slice A l.length c,.int .i64 v,.agg ct.toArray] w (O9 w F (W7 W l t)):=by
 obtain ⟨xfs,h1,h2⟩:=hl.ex
 have hsm:=h1.small
 obtain ⟨n1,s2,b3,l4,u5,A6,c7,A8,c9,fv,fw,fY,rfl,rfl,fZ,f5,iy,f7⟩:=ht.open_
 have fx:=fZ.small
 have fy:=f5.small
 refine enter (n:=54) Tryz.func18 rfl Tryz.ntmps18 kz fun a hE=>?_
 have hW:=WOk.start w B5
 refine B8 [0,1] kz ?_
 let bj:Value:=.slice A6 s2.length c7
 let bk:Value:=.slice A8 l4.length c9
 let aV:Value:=.slice fv u5.length fw
 refine B1 (J1 hW hE (d:=5) (cs:=[.int .i64 n1,bj,.bool b3,bk,aV]) kz fun f8 iz iA f9 ga gb eg eh=>?_)
 let ac:Value:=.int .i64 0
 let ab:Value:=.slice none 0 0
 let ag:Value:=.bool false
 refine B1 (D7 eg eh (d:=6) (cs:=[ac,ab,ag,ab,ab]) kz fun gc iB iC gd ge gg dg ei=>?_)
 refine B4 (A7 ?_)
 refine B8 [0,1,2] kz ?_
 let ah:Nat × SV:=(0,.v (.slice A l.length c))
 let ai:Nat × SV:=(1,.v (.int .i64 v))
 let aj:Nat × SV:=(5,.p 0 0)
 let ae:Nat × SV:=(6,.p 1 0)
 refine B3 [0] [1,2] [ah,ai,aj,ae,(12,.v (.agg #[ac,ab,ag,ab,ab]))] dg ei fun iD ej=>?_
 refine B1 (D7 dg ej (d:=7) (cs:=[ac,ab,ag,ab,ab]) kz fun df iE iF gh gi gj ek em=>?_)
 refine B1 (C7 ek em (oi:=2) (cs:=[ac,ab,ag,ab,ab]) kz fun iG gk cN eo=>?_)
 refine B4 (A7 ?_)
 refine wp_seq ?_
 let af:Nat × SV:=(7,.p 2 0)
 let ak:Nat × SV:=(13,.v (.slice A l.length c))
 let al:Nat × SV:=(14,.v (.int .i64 ((l.length:Nat):Int)))
 refine C1 [ah,ai,aj,ae,af,ak,al,(15,.v (.int .i64 0))] cN eo fun iH eu=>?_
 refine wp_block ?_
 have dh:=cN.addNil 34 5
 have gm:=cN.frNil 34 5
 let aE:Ob:=⟨f8,0,[.int .i64 n1,bj,.bool b3,bk,aV],true⟩
 let aF:Ob:=⟨gc,0,[ac,ab,ag,ab,ab],true⟩
 refine wp_loop_ghost (fun n_ a_ w_=>∃ (k:Nat) (A_:Option Addr) (c_:Nat) (xs:List Value) (css:List (List Value)),n_ = l.length - k ∧ k ≤ l.length ∧ (Trees w_ (D4 F w w_ [aE,aF,⟨df,0,[ac,ab,ag,.slice A_ k c_,ab],true⟩] [⟨A_,c_,34,5,k,xs⟩]) xs ((R8 W l (Tree.mk n1 s2 b3 l4 u5) 0).take k) css) ∧ F1 dh 54 [aE,aF,⟨df,0,[ac,ab,ag,.slice A_ k c_,ab],true⟩] [⟨A_,c_,34,5,k,xs⟩] [ah,ai,aj,ae,af,ak,al,(15,.v (.int .i64 ((k:Nat):Int)))] a_ w_) (l.length) ⟨0,none,0,[],[],by omega,by omega,Trees.nil _ _,eu.pk,dh,Fr.refl _ _ _⟩ ?_
 rintro iI iJ iK ⟨k,A_,c_,xs,css,gn,gp,hT,ev,am,ew⟩
 let aW:Nat × SV:=(15,.v (.int .i64 ((k:Nat):Int)))
 refine C1 [ah,ai,aj,ae,af,ak,al,aW,(16,.v (.bool (decide (((k:Nat):Int) < ((l.length:Nat):Int)))))] am ev fun iL cO=>?_
 refine wp_seq (D8 cO (b:=decide (((k:Nat):Int) < ((l.length:Nat):Int))) kz (fun cP=>?_) (fun cP=>?_))
 ·
  have gq:=of_decide_eq_true cP
  refine wp_skip (A7 (wp_seq (wp_block (B8 [0,1,2,3,4,5] kz ?_))))
  refine B3 [0] [1,2,3,4,5] [ah,ai,aj,ae,af,ak,al,aW,(17,.v (.int .i64 ((k:Nat):Int)))] am cO fun iM ey=>?_
  obtain ⟨gt,gv,ez,gw,ce⟩:=Slots.get h1 (i:=k) (by omega)
  obtain ⟨gy,cQ⟩:∃ x,l[k]? = some x:=⟨_,List.getElem?_eq_getElem (by omega)⟩
  have cR:=h2 k gy cQ
  obtain ⟨eB,eC,eD,eE,eF,eG,eH,eI,eJ,eK,gz,rfl,cg,gA,iN⟩:=cR.open_
  rw [cg] at cR
  have fA:=gA.small
  rw [cg] at ce
  refine B1 (F2 ey (t:=25) (A:=A) (m:=l.length) (q:=((k:Nat):Int)) (d:=18) kz (e:=66) (size:=8) (bytes:=80) kz ez rfl (by omega) fun iO eM=>?_)
  let aG:Value:=.int .i64 eB
  let aH:Value:=.int .i64 eC
  let aI:Value:=.int .i64 eD
  let aJ:Value:=.int .i64 eE
  let aK:Value:=.int .i64 eF
  let aL:Value:=.int .i64 eG
  let aM:Value:=.int .i64 eH
  let aN:Value:=.slice eJ eI.length eK
  let fB:Value:=.agg #[.int .i64 eB,.int .i64 eC,.int .i64 eD,.int .i64 eE,.int .i64 eF,.int .i64 eG,.int .i64 eH,.slice eJ eI.length eK]
  refine B1 (G7 eM (t:=66) (b:=gt) (o:=gv + k * 8) (d:=19) kz (cs:=[aG,aH,aI,aJ,aK,aL,aM,aN]) (v:=.agg #[aG,aH,aI,aJ,aK,aL,aM,aN]) kz (AtF.move ce am.step B0 E6).at_ fun iP eN=>?_)
  refine B1 (D7 am eN (d:=9) (cs:=[ac,ac,ac,ac,ac,ac,ac,ab]) kz fun iQ iR iS gB fC bE cm di=>?_)
  let fD:Value:=(.agg #[.int .i64 eB,.int .i64 eC,.int .i64 eD,.int .i64 eE,.int .i64 eF,.int .i64 eG,.int .i64 eH,.slice eJ eI.length eK])
  refine B3 [4] [5] [ah,ai,aj,ae,af,(8,.v (.int .i64 ((k:Nat):Int))),(9,.p 3 0),ak,al,aW,(19,.v (.agg #[aG,aH,aI,aJ,aK,aL,aM,aN]))] cm di fun gC dj=>?_
  refine B1 (C7 cm dj (oi:=3) (cs:=[aG,aH,aI,aJ,aK,aL,aM,aN]) kz fun gD bF dl dm=>?_)
  refine B4 (A7 ?_)
  refine P5 11 kz dl fun gE bG aX dn=>?_
  refine D6 [0,1,2,3,4,5] [ah,ai,aj,ae,af,ak,al,aW,(21,.v (.slice A_ k c_)),(22,.v (.agg #[aG,aH,aI,aJ,aK,aL,aM,aN])),(23,.v (.int .i64 v)),(24,.v (.agg #[.int .i64 n1,bj,.bool b3,bk,aV])),(25,.v (.int .i64 ((k:Nat):Int)))] 6 (C0 (B2 (B2 (C0 (B2 C6))))) (fun _ h=>h.cells) dn dm fun gF dp=>?_
  refine C9 (i:=6) kz (C3 dp (f:=38) (vs:=[.agg #[.int .i64 n1,bj,.bool b3,bk,aV],.int .i64 ((k:Nat):Int)]) (d:=26) kz Tryz.call38 (Mf _ _ k _ _ (ht.move aX.step B0 aX.imm)) ?_)
  rintro e_ gG ⟨fE,rfl,dq,aY⟩
  have bH:=dq.move aY B0 (fun b o h_ hb_=>aX.laid (G:=F) aY b o (.inl h_) (Nat.lt_of_lt_of_le hb_ aY.size))
  obtain ⟨eO,eP,eQ,eR,eS,eU,eV,eW,eX,eY,eZ,fF,fG,bI,e9,fa,gH,gI⟩:=bH.open_
  rw [bI] at bH
  have fb:=e9.small
  have fe:=fa.small
  rw [bI]
  refine ⟨_,rfl,fun gJ dr=>?_⟩
  have aO:=aX.next_nil aY
  have aw:=aX.frN aY
  have dt:=TT.ofW aw aO
  refine ⟨fun _=>dt,?_⟩
  refine C9 (i:=7) kz (C3 dr (f:=37) (vs:=[.agg #[aG,aH,aI,aJ,aK,aL,aM,aN],.int .i64 v,.agg #[.int .i64 eO,.slice eU eP.length eV,.bool eQ,.slice eW eR.length eX,.slice eY eS.length eZ]]) (d:=27) kz Tryz.call37 ( hW_ _ _ _ _ _ _ (List.mem_of_getElem? cQ) (cR.move aO.step B0 aO.imm) bH) ?_)
  rintro e_ gK ⟨fH,rfl,du,bJ⟩
  have bK:=du.move (Step.refl _ B5) B0 (aO.laid (G:=F) bJ)
  obtain ⟨bM,cS,bN,cV,cW,cX,cY,cZ,da,db,dc,fI,fJ,bO,ff,fg,gL,gM⟩:=bK.open_
  rw [bO] at bK
  have fh:=ff.small
  have fi:=fg.small
  rw [bO]
  refine ⟨_,rfl,fun gN dv=>?_⟩
  have cn:=aO.next_nil bJ
  have aP:=aO.frN bJ
  have dw:=TT.ofW (aw.trans aP) cn
  refine ⟨fun _=>dw,?_⟩
  let bP:Value:=.slice cX cS.length cY
  let bQ:Value:=.slice cZ cV.length da
  let bR:Value:=.slice db cW.length dc
  refine C9 (i:=8) kz (G4 cn dv (e:=34) (size:=5) (len:=1) (cs:=[.int .i64 bM,bP,.bool bN,bQ,bR]) (d:=28) kz kz fun fj gO gP fK fL ax bn dx=>?_)
  have dy:=TT.ofW ((aw.trans aP).trans ax) bn
  refine ⟨fun _=>dy,?_⟩
  refine C9 (i:=9) kz (I7 bn dx (k:=0) (d:=29) (t:=31) (e:=34) (size:=5) (bytes:=88) (A:=A_) (As:=(some ⟨fj,0,none⟩)) (m0:=k) (c:=c_) (m:=1) (cs:=1) (xs:=xs) (news:=[.int .i64 bM,bP,.bool bN,bQ,bR]) kz kz rfl (M5 (bn.own 1 _ rfl) (K6 kz)) (N7 (bn.own 1 _ rfl)) (by omega) fun bS bT gQ gR aQ cq dA=>?_)
  have cr:=TT.ofW (((aw.trans aP).trans ax).trans aQ) cq
  refine ⟨fun _=>cr,?_⟩
  refine D6 [10] [ah,ai,aj,ae,af,ak,al,aW,(29,.v (.slice bS (k + 1) bT)),(30,.p 2 3)] 1 (C0 (B2 (B2 (C0 (B2 C6))))) (fun _ h=>h.cells) cr dA fun gS dB=>?_
  refine C9 (i:=11) kz (C7 cq dB (oi:=2) (cs:=[ac,ab,ag,.slice bS (k + 1) bT,ab]) kz fun gT aZ cu dC=>?_)
  refine ⟨fun h=>absurd rfl h,?_⟩
  refine F3 kz ?_ _
  refine G2 (A7 (D9 [0,1] kz ?_))
  refine B3 [0,1] [] [ah,ai,aj,ae,af,ak,al,(15,.v (.int .i64 (IntKind.i64.wrap (((k:Nat):Int) + 1))))] cu dC fun gU dD=>?_
  refine B4 (A7 ?_)
  obtain ⟨cw,dE,ba⟩:=cu.cutB dD 3 [aE,aF,⟨df,0,[ac,ab,ag,.slice bS (k + 1) bT,ab],true⟩] [ah,ai,aj,ae,af,ak,al,(15,.v (.int .i64 (IntKind.i64.wrap (((k:Nat):Int) + 1))))]
  obtain ⟨dF,bd⟩:=dE.cutR 1 [⟨bS,bT,34,5,k + 1,xs ++ [.int .i64 bM,bP,.bool bN,bQ,bR]⟩]
  have dG:IntKind.i64.wrap (((k:Nat):Int) + 1) = ((k + 1:Nat):Int):=H1 (by omega)
  rw [dG] at cw
  exact ⟨l.length - (k + 1),by omega,k + 1,bS,bT,xs ++ [Value.int .i64 bM,.slice cX cS.length cY,.bool bN,.slice cZ cV.length da,.slice db cW.length dc],(css ++ [[Value.int .i64 bM,.slice cX cS.length cY,.bool bN,.slice cZ cV.length da,.slice db cW.length dc]]),rfl,by omega,by rw [V0 (Iv cQ)]; exact (hT.move (((((((((bE.trans bF).trans bG).trans aw).trans aP).trans ax).trans aQ).trans aZ).trans ba).trans bd).step immM (((((((((bE.trans bF).trans bG).trans aw).trans aP).trans ax).trans aQ).trans aZ).trans ba).trans bd).to').snoc (bK.move ((((ax.trans aQ).trans aZ).trans ba).trans bd).step immM ((((ax.trans aQ).trans aZ).trans ba).trans bd).to'),cw.pk,dF,((((((((((ew.trans bE).trans bF).trans bG).trans aw).trans aP).trans ax).trans aQ).trans aZ).trans ba).trans bd)⟩
 have fM:=of_decide_eq_false cP
 refine wp_exit (E2 (E2 (G3 (A7 (wp_seq (B8 [0,1,2,3,4,5] kz ?_))))))
 refine B3 [0,1,2] [3,4,5] [ae,af,(32,.v (.slice A l.length c)),(34,.v (.slice fv u5.length fw))] am cO fun gV dH=>?_
 refine B1 (C3 dH (f:=39) (vs:=[.slice A l.length c,aV]) (d:=35) kz Tryz.call39 (Mh _ _ l _ _ u5 _ _ ⟨xfs,(h1.move am.step B0 am.imm),(fun i_ x_ h_=>((h2 i_ x_ h_).move am.step B0 am.imm))⟩ (f7.move am.step B0 am.imm)) ?_)
 rintro e_ gW ⟨aS,bf,rfl,dI,bU⟩
 have dJ:=dI.move (Step.refl _ B5) B0 (am.laid (G:=F) bU)
 refine ⟨_,rfl,fun gX dK=>?_⟩
 have bV:=am.next_nil bU
 have cz:=am.frN bU
 refine B3 [4,5] [] [ae,af,(35,.v (.slice aS ((I6 l u5).length) bf)),(36,.v (.int .i64 (((I6 l u5).length:Nat):Int))),(37,.v (.int .i64 0))] bV dK fun gY dL=>?_
 refine B4 (A7 ?_)
 refine wp_block ?_
 obtain ⟨fN,dM,fk⟩:=dJ.ex
 have fl:=dM.small
 have hk0:k = (R8 W l (Tree.mk n1 s2 b3 l4 u5) 0).length:=by rw [FB]; omega
 have cA:=bV.addNil 87 2
 have ar:=bV.frNil 87 2
 let ay:Value:=.slice A_ k c_
 refine wp_loop_ghost (fun n_ a_ w_=>∃ (q:Nat) (A5_:Option Addr) (c5_:Nat) (ys:List Value) (dss:List (List Value)),n_ = (I6 l u5).length - q ∧ q ≤ (I6 l u5).length ∧ (Tags w_ (D4 F w w_ [aE,aF,⟨df,0,[ac,ab,ag,ay,.slice A5_ q c5_],true⟩] [⟨A_,c_,34,5,k,xs⟩,⟨A5_,c5_,87,2,q,ys⟩]) ys ((V1 (I6 l u5)).take q) dss) ∧ F1 cA 54 [aE,aF,⟨df,0,[ac,ab,ag,ay,.slice A5_ q c5_],true⟩] [⟨A_,c_,34,5,k,xs⟩,⟨A5_,c5_,87,2,q,ys⟩] [ae,af,(35,.v (.slice aS ((I6 l u5).length) bf)),(36,.v (.int .i64 (((I6 l u5).length:Nat):Int))),(37,.v (.int .i64 ((q:Nat):Int)))] a_ w_) ((I6 l u5).length) ⟨0,none,0,[],[],by omega,by omega,Tags.nil _ _,dL.pk,cA,Fr.refl _ _ _⟩ ?_
 rintro gZ g9 hC ⟨q,A5_,c5_,ys,dss,fO,fP,hU,dN,bp,ao⟩
 let bq:Nat × SV:=(37,.v (.int .i64 ((q:Nat):Int)))
 refine C1 [ae,af,(35,.v (.slice aS ((I6 l u5).length) bf)),(36,.v (.int .i64 (((I6 l u5).length:Nat):Int))),bq,(38,.v (.bool (decide (((q:Nat):Int) < (((I6 l u5).length:Nat):Int)))))] bp dN fun hJ bW=>?_
 refine wp_seq (D8 bW (b:=decide (((q:Nat):Int) < (((I6 l u5).length:Nat):Int))) kz (fun bX=>?_) (fun bX=>?_))
 ·
  have fQ:=of_decide_eq_true bX
  refine wp_skip (A7 (wp_seq (wp_block (B8 [0,1,2,3] kz ?_))))
  obtain ⟨fm,fo,dO,fR,bY⟩:=Slots.get dM (i:=q) (by omega)
  obtain ⟨⟨bD,ap⟩,cB⟩:∃ x,(I6 l u5)[q]? = some x:=⟨_,List.getElem?_eq_getElem (by omega)⟩
  obtain ⟨⟨aT,aU,de,cC⟩,fq,fr⟩:=fk q bD ap cB
  rw [de] at bY
  refine B1 (F2 bW (t:=32) (A:=aS) (m:=((I6 l u5).length)) (q:=((q:Nat):Int)) (d:=39) kz (e:=87) (size:=2) (bytes:=32) kz dO rfl (by omega) fun hK dP=>?_)
  let au:Value:=.int .u32 bD
  let bt:Value:=.slice aT ap.length aU
  refine B1 (G7 dP (t:=87) (b:=fm) (o:=fo + q * 2) (d:=40) kz (cs:=[au,bt]) (v:=.agg #[au,bt]) kz (AtF.move bY (ar.trans ao).step immM (ar.trans ao).to').at_ fun hY dQ=>?_)
  refine B1 (D7 bp dQ (d:=11) (cs:=[.int .u32 0,ab]) kz fun hZ ia ib fS fT aA dR dS=>?_)
  refine B1 (C7 dR dS (oi:=3) (cs:=[au,bt]) kz fun ic aB dT dU=>?_)
  refine B4 (A7 ?_)
  refine P5 11 kz dT fun ig aC cE dV=>?_
  refine D6 [0,1,2,3,4,5] [ae,af,(35,.v (.slice aS ((I6 l u5).length) bf)),(36,.v (.int .i64 (((I6 l u5).length:Nat):Int))),bq,(42,.v (.slice A5_ q c5_)),(44,.v (.int .u32 bD)),(46,.v (.slice aT ap.length aU))] 6 (C0 (B2 (B2 (C0 (B2 C6))))) (fun _ h=>h.cells) dV dU fun ii dW=>?_
  have ft:=X4 ap
  refine C9 (i:=6) kz (C3 dW (f:=40) (vs:=[bt]) (d:=47) kz Tryz.call40 (Gl _ _ ap (cC.move ((((ar.trans ao).trans aA).trans aB).trans aC).step immM ((((ar.trans ao).trans aA).trans aB).trans aC).to').le _) ?_)
  rintro e_ ij ⟨rfl,cG⟩
  refine ⟨_,rfl,fun ik dX=>?_⟩
  have cH:=cE.next_nil cG
  have av:=cE.frN cG
  have cI:=TT.ofW av cH
  refine ⟨fun _=>cI,?_⟩
  refine D6 [7] [ae,af,(35,.v (.slice aS ((I6 l u5).length) bf)),(36,.v (.int .i64 (((I6 l u5).length:Nat):Int))),bq,(42,.v (.slice A5_ q c5_)),(48,.v (.agg #[au,.slice aT ((J6 ap).length) aU]))] 4 (C0 (B2 (B2 (C0 (B2 C6))))) (fun _ h=>h.cells) cI dX fun il dY=>?_
  refine C9 (i:=8) kz (G4 cH dY (e:=87) (size:=2) (len:=1) (cs:=[au,.slice aT ((J6 ap).length) aU]) (d:=49) kz kz fun fu im io fV fW aD bu dZ=>?_)
  have d5:=TT.ofW (av.trans aD) bu
  refine ⟨fun _=>d5,?_⟩
  refine C9 (i:=9) kz (I7 bu dZ (k:=1) (d:=50) (t:=32) (e:=87) (size:=2) (bytes:=32) (A:=A5_) (As:=(some ⟨fu,0,none⟩)) (m0:=q) (c:=c5_) (m:=1) (cs:=1) (xs:=ys) (news:=[au,.slice aT ((J6 ap).length) aU]) kz kz rfl (M5 (bu.own 2 _ rfl) (K6 kz)) (N7 (bu.own 2 _ rfl)) (by omega) fun bZ cd ip iq aR cJ d6=>?_)
  have cK:=TT.ofW ((av.trans aD).trans aR) cJ
  refine ⟨fun _=>cK,?_⟩
  refine D6 [10] [ae,af,(35,.v (.slice aS ((I6 l u5).length) bf)),(36,.v (.int .i64 (((I6 l u5).length:Nat):Int))),bq,(50,.v (.slice bZ (q + 1) cd)),(51,.p 2 4)] 1 (C0 (B2 (B2 (C0 (B2 C6))))) (fun _ h=>h.cells) cK d6 fun ir d7=>?_
  refine C9 (i:=11) kz (C7 cJ d7 (oi:=2) (cs:=[ac,ab,ag,ay,.slice bZ (q + 1) cd]) kz fun iu bg cL d8=>?_)
  refine ⟨fun h=>absurd rfl h,?_⟩
  refine F3 kz ?_ _
  refine G2 (A7 (D9 [0,1] kz ?_))
  refine B3 [0,1] [] [ae,af,(35,.v (.slice aS ((I6 l u5).length) bf)),(36,.v (.int .i64 (((I6 l u5).length:Nat):Int))),(37,.v (.int .i64 (IntKind.i64.wrap (((q:Nat):Int) + 1))))] cL d8 fun iv d9=>?_
  refine B4 (A7 ?_)
  obtain ⟨cM,ea,bh⟩:=cL.cutB d9 3 [aE,aF,⟨df,0,[ac,ab,ag,ay,.slice bZ (q + 1) cd],true⟩] [ae,af,(35,.v (.slice aS ((I6 l u5).length) bf)),(36,.v (.int .i64 (((I6 l u5).length:Nat):Int))),(37,.v (.int .i64 (IntKind.i64.wrap (((q:Nat):Int) + 1))))]
  obtain ⟨eb,bi⟩:=ea.cutR 2 [⟨A_,c_,34,5,k,xs⟩,⟨bZ,cd,87,2,q + 1,ys ++ [au,.slice aT ((J6 ap).length) aU]⟩]
  have ec:IntKind.i64.wrap (((q:Nat):Int) + 1) = ((q + 1:Nat):Int):=H1 (by omega)
  rw [ec] at cM
  exact ⟨(I6 l u5).length - (q + 1),by omega,q + 1,bZ,cd,ys ++ [Value.int .u32 bD,.slice aT ((J6 ap).length) aU],(dss ++ [[Value.int .u32 bD,.slice aT ((J6 ap).length) aU]]),rfl,by omega,by rw [V0 (Ls cB)]; exact (hU.move ((((((((aA.trans aB).trans aC).trans av).trans aD).trans aR).trans bg).trans bh).trans bi).step immM ((((((((aA.trans aB).trans aC).trans av).trans aD).trans aR).trans bg).trans bh).trans bi).to').snoc (c:=[au,.slice aT ((J6 ap).length) aU]) (x:=(bD,J6 ap)) ⟨⟨_,_,rfl,((cC.move ((((((((((ar.trans ao).trans aA).trans aB).trans aC).trans av).trans aD).trans aR).trans bg).trans bh).trans bi).step immM ((((((((((ar.trans ao).trans aA).trans aB).trans aC).trans av).trans aD).trans aR).trans bg).trans bh).trans bi).to').take 32767)⟩,fq,fr⟩,cM.pk,eb,(((((((((ao.trans aA).trans aB).trans aC).trans av).trans aD).trans aR).trans bg).trans bh).trans bi)⟩
 have fX:=of_decide_eq_false bX
 refine wp_exit (E2 (E2 (G3 (A7 (B8 [0,1] kz ?_)))))
 refine B3 [0] [1] [ae,(53,.v (.agg #[ac,ab,ag,ay,.slice A5_ q c5_]))] bp bW fun iw ee=>?_
 refine B1 (C7 bp ee (oi:=1) (cs:=[ac,ab,ag,ay,.slice A5_ q c5_]) kz fun ix bw bz ef=>?_)
 refine B4 (A7 ?_)
 refine wp_ret (D5 ef bz.cells (v:=.agg #[ac,ab,ag,ay,.slice A5_ q c5_]) kz ?_)
 have hq0:q = (V1 (I6 l u5)).length:=by rw [FC]; omega
 have hT':=(hT.move (((cz.trans ar).trans ao).trans bw).step immM (((cz.trans ar).trans ao).trans bw).to')
 have hU':=(hU.move bw.step immM bw.to')
 rw [show (R8 W l (Tree.mk n1 s2 b3 l4 u5) 0).take k = (R8 W l (Tree.mk n1 s2 b3 l4 u5) 0) by rw [hk0,List.take_length]] at hT'
 rw [show (V1 (I6 l u5)).take q = (V1 (I6 l u5)) by rw [hq0,List.take_length]] at hU'
 exact X9 bz rfl (Octs.nil _ _) hk0 (Cb bz (k:=0) rfl hT' hk0 (by rw [FB]; omega)) hq0 (It bz (k:=1) rfl hU' hq0 (by rw [FC]; omega)) rfl
theorem Eh:∀ d,Ef d
 | 0=>fun A c l v ct t w F hl hpl hd ht=>CY (fun _ _=>.zero) A c l v ct t w F (fun cf f ct t w F hm hf ht=>by
   obtain ⟨i,hi⟩:=List.mem_iff_getElem?.1 hm
   have h:=Fz hi
   obtain ⟨k,x1,x2,x3,x4,x5,x6,l,A,c,xs,rfl,_⟩:=hf.open_
   rw [Iq] at h; omega) hl ht
 | d + 1=>fun A c l v ct t w F hl hpl hd ht=>CY (P6 (C2 v d) v) A c l v ct t w F (fun cf f ct t w F hm hf ht=>Mk (Eh d) cf f v ct t w F hf (Ix hpl hm) (by
   obtain ⟨i,hi⟩:=List.mem_iff_getElem?.1 hm
   have h:=Fz hi
   obtain ⟨k,x1,x2,x3,x4,x5,x6,l,A,c,xs,rfl,_⟩:=hf.open_
   rw [Iq] at h
   show depths l ≤ d
   omega) ht) hl ht
theorem Jg (x m:Int) (hx:0 ≤ x) (hx':x < 256) (hm:0 ≤ m) (hm':m < 32768) (w:World):Calls Tryz.prog 9 #[.int .u8 x,.int .i64 m] w (N5 w (.int .i64 (Int.tmod x (m + 1)))):=by
 refine enter (n:=10) Tryz.func9 rfl Tryz.ntmps9 kz fun a hE=>?_
 have hW:=WOk.start w B5
 refine C1 [(0,.v (.int .u8 x)),(1,.v (.int .i64 m))] hW hE fun a1 hE2=>?_
 refine B8 [0,1,2,3,4,5] kz ?_
 refine B3 [0,1,2,3] [4,5] [(6,.v (.int .i64 (IntKind.i64.wrap x))),(8,.v (.int .i64 (IntKind.i64.wrap (m + 1))))] hW hE2 fun a3 hE4=>?_
 refine B1 (Ks hE4 (k:=.i64) (p:=(IntKind.i64.wrap x)) (q:=(IntKind.i64.wrap (m + 1))) (d:=9) kz (by simp only [IntKind.wrap_i64]; omega) fun a5 hE6=>?_)
 refine B3 [5] [] [(4,.v (.int .i64 (Int.tmod (IntKind.i64.wrap x) (IntKind.i64.wrap (m + 1)))))] hW hE6 fun a7 hE8=>?_
 refine B4 (A7 ?_)
 refine wp_ret (D5 hE8 hW.cells (v:=.int .i64 (Int.tmod (IntKind.i64.wrap x) (IntKind.i64.wrap (m + 1)))) kz ?_)
 exact ⟨by rw [wrap_i64 (by omega) (by omega),wrap_i64 (by omega) (by omega)],hW.step⟩
def T0 (w:World) (F:Nat → Nat → Prop) (D:DV):Prop:=((D.f 0).s.size ≤ 1048576) ∧ (Slots w F 1 (D.f 1).A (D.f 1).c (D.f 1).l (fun i=>[.int .i32 (((D.f 1).f i).n)]) ∧ (D.f 1).l ≤ 1048576 ∧ ∀ i,i < (D.f 1).l → True) ∧ True
def V4 (w:World) (F:Nat → Nat → Prop) (D:DV):Prop:=(Slots w F 2 (D.f 0).A (D.f 0).c (D.f 0).l (fun i=>[.string ((((D.f 0).f i).f 0).s),.slice ((((D.f 0).f i).f 1).A) ((((D.f 0).f i).f 1).l) ((((D.f 0).f i).f 1).c)]) ∧ (D.f 0).l ≤ 1048576 ∧ ∀ i,i < (D.f 0).l → T0 w F ((D.f 0).f i)) ∧ (True) ∧ True
def R0 (w:World) (F:Nat → Nat → Prop) (D:DV):Prop:=(Octs w F (D.f 0).A (D.f 0).c (D.f 0).o ∧ (D.f 0).o.length ≤ 1048576) ∧ (V4 w F (D.f 1)) ∧ (Slots w F 1 (D.f 2).A (D.f 2).c (D.f 2).l (fun i=>[.slice (((D.f 2).f i).A) (((D.f 2).f i).o.length) (((D.f 2).f i).c)]) ∧ (D.f 2).l ≤ 1048576 ∧ ∀ i,i < (D.f 2).l → Octs w F ((D.f 2).f i).A ((D.f 2).f i).c ((D.f 2).f i).o ∧ ((D.f 2).f i).o.length ≤ 1048576) ∧ (Slots w F 2 (D.f 3).A (D.f 3).c (D.f 3).l (fun i=>[.string ((((D.f 3).f i).f 0).s),.slice ((((D.f 3).f i).f 1).A) ((((D.f 3).f i).f 1).l) ((((D.f 3).f i).f 1).c)]) ∧ (D.f 3).l ≤ 1048576 ∧ ∀ i,i < (D.f 3).l → T0 w F ((D.f 3).f i)) ∧ (Octs w F (D.f 4).A (D.f 4).c (D.f 4).o ∧ (D.f 4).o.length ≤ 1048576) ∧ True
def Ba (d:DV):List Value:=[.string ((d.f 0).s),.slice ((d.f 1).A) ((d.f 1).l) ((d.f 1).c)]
theorem Gn:∀ d,∀ u ∈ Ba d,u.oneCell' = true:=fun d=>K6 kz
theorem Ei:O1 T0:=by
 intro w w' F F' M d hs hM hF h
 unfold T0 at h ⊢
 obtain ⟨g0,⟨g1,g1l,g1e⟩,_⟩:=h
 exact ⟨g0,⟨g1.move hs hM hF,g1l,g1e⟩,trivial⟩
theorem Jh:O1 V4:=by
 intro w w' F F' M d hs hM hF h
 unfold V4 at h ⊢
 obtain ⟨⟨g0,g0l,g0e⟩,g1,_⟩:=h
 exact ⟨⟨g0.move hs hM hF,g0l,fun i hi=>Ei _ hs hM hF (g0e i hi)⟩,g1,trivial⟩
def Ji (d:DV):List Value:=[.slice ((d.f 0).A) ((d.f 0).o.length) ((d.f 0).c),.slice (((d.f 1).f 0).A) (((d.f 1).f 0).l) (((d.f 1).f 0).c),.int .i32 (((d.f 1).f 1).n),.slice ((d.f 2).A) ((d.f 2).l) ((d.f 2).c),.slice ((d.f 3).A) ((d.f 3).l) ((d.f 3).c),.slice ((d.f 4).A) ((d.f 4).o.length) ((d.f 4).c)]
theorem Cj:O1 R0:=by
 intro w w' F F' M d hs hM hF h
 unfold R0 at h ⊢
 obtain ⟨⟨g0,g0l⟩,g1,⟨g2,g2l,g2e⟩,⟨g3,g3l,g3e⟩,⟨g4,g4l⟩,_⟩:=h
 exact ⟨⟨Octs.move g0 hs hM hF,g0l⟩,Jh _ hs hM hF g1,⟨g2.move hs hM hF,g2l,fun i hi=>⟨Octs.move (g2e i hi).1 hs hM hF,(g2e i hi).2⟩⟩,⟨g3.move hs hM hF,g3l,fun i hi=>Ei _ hs hM hF (g3e i hi)⟩,⟨Octs.move g4 hs hM hF,g4l⟩,trivial⟩
def Jj (w:World) (F:Nat → Nat → Prop) (D:DV):Prop:=Slots w F 2 D.A D.c D.l (fun i=>[.string (((D.f i).f 0).s),.slice (((D.f i).f 1).A) (((D.f i).f 1).l) (((D.f i).f 1).c)]) ∧ D.l ≤ 1048576 ∧ ∀ i,i < D.l → T0 w F (D.f i)
theorem Jk:O1 Jj:=by
 intro w w' F F' M d hs hM hF h
 obtain ⟨h,hl,he⟩:=h
 exact ⟨h.move hs hM hF,hl,fun i hi=>Ei _ hs hM hF (he i hi)⟩
def Jl (w:World) (F:Nat → Nat → Prop) (D:DV):Prop:=Slots w F 1 D.A D.c D.l (fun i=>[.slice ((D.f i).A) ((D.f i).o.length) ((D.f i).c)]) ∧ D.l ≤ 1048576 ∧ ∀ i,i < D.l → Octs w F (D.f i).A (D.f i).c (D.f i).o ∧ (D.f i).o.length ≤ 1048576
theorem Ml:O1 Jl:=by
 intro w w' F F' M d hs hM hF h
 obtain ⟨h,hl,he⟩:=h
 exact ⟨h.move hs hM hF,hl,fun i hi=>⟨Octs.move (he i hi).1 hs hM hF,(he i hi).2⟩⟩
abbrev z4 :=([.int .i64 0,.slice none 0 0,.bool false,.slice none 0 0,.slice none 0 0]:List Value)
theorem S3 (A:Option Addr) (l c:Nat) (w:World):Calls Tryz.prog 12 #[.slice A l c] w (N5 w (.agg #[.int .i64 0,.slice A l c,.bool false,.slice none 0 0,.slice none 0 0])):=by
 refine enter (n:=5) Tryz.func12 rfl Tryz.ntmps12 kz fun a hE=>?_
 have hW:=WOk.start w B5
 refine B8 [0] kz ?_
 refine B1 (D7 hW hE (d:=2) (cs:=z4) kz fun b1 a2 w3 hb4 hz5 hF6 hW7 hE8=>?_)
 refine B4 (A7 ?_)
 refine B8 [0,1,2] kz ?_
 refine B3 [0,1] [2] [(2,.p 0 0),(4,.v (.agg #[.int .i64 0,.slice A l c,.bool false,.slice none 0 0,.slice none 0 0]))] hW7 hE8 fun a9 hE10=>?_
 refine B1 (C7 hW7 hE10 (oi:=0) (cs:=[.int .i64 0,.slice A l c,.bool false,.slice none 0 0,.slice none 0 0]) kz fun w11 hF12 hW13 hE14=>?_)
 refine B4 (A7 ?_)
 refine wp_ret (D5 hE14 hW13.cells (v:=.agg #[.int .i64 0,.slice A l c,.bool false,.slice none 0 0,.slice none 0 0]) kz ?_)
 exact ⟨rfl,hW13.step⟩
theorem Bw (n:Int) (w:World):Calls Tryz.prog 14 #[.int .i64 n] w (N5 w (.agg #[.int .i64 n,.slice none 0 0,.bool false,.slice none 0 0,.slice none 0 0])):=by
 refine enter (n:=5) Tryz.func14 rfl Tryz.ntmps14 kz fun a hE=>?_
 have hW:=WOk.start w B5
 refine B8 [0] kz ?_
 refine B1 (D7 hW hE (d:=2) (cs:=z4) kz fun b1 a2 w3 hb4 hz5 hF6 hW7 hE8=>?_)
 refine B4 (A7 ?_)
 refine B8 [0,1,2] kz ?_
 refine B3 [0,1] [2] [(2,.p 0 0),(4,.v (.agg #[.int .i64 n,.slice none 0 0,.bool false,.slice none 0 0,.slice none 0 0]))] hW7 hE8 fun a9 hE10=>?_
 refine B1 (C7 hW7 hE10 (oi:=0) (cs:=[.int .i64 n,.slice none 0 0,.bool false,.slice none 0 0,.slice none 0 0]) kz fun w11 hF12 hW13 hE14=>?_)
 refine B4 (A7 ?_)
 refine wp_ret (D5 hE14 hW13.cells (v:=.agg #[.int .i64 n,.slice none 0 0,.bool false,.slice none 0 0,.slice none 0 0]) kz ?_)
 exact ⟨rfl,hW13.step⟩
theorem Ck (A:Option Addr) (l c:Nat) (w:World):Calls Tryz.prog 11 #[.slice A l c] w (N5 w (.agg #[.int .i64 0,.slice none 0 0,.bool false,.slice A l c,.slice none 0 0])):=by
 refine enter (n:=5) Tryz.func11 rfl Tryz.ntmps11 kz fun a hE=>?_
 have hW:=WOk.start w B5
 refine B8 [0] kz ?_
 refine B1 (D7 hW hE (d:=2) (cs:=z4) kz fun b1 a2 w3 hb4 hz5 hF6 hW7 hE8=>?_)
 refine B4 (A7 ?_)
 refine B8 [0,1,2] kz ?_
 refine B3 [0,1] [2] [(2,.p 0 0),(4,.v (.agg #[.int .i64 0,.slice none 0 0,.bool false,.slice A l c,.slice none 0 0]))] hW7 hE8 fun a9 hE10=>?_
 refine B1 (C7 hW7 hE10 (oi:=0) (cs:=[.int .i64 0,.slice none 0 0,.bool false,.slice A l c,.slice none 0 0]) kz fun w11 hF12 hW13 hE14=>?_)
 refine B4 (A7 ?_)
 refine wp_ret (D5 hE14 hW13.cells (v:=.agg #[.int .i64 0,.slice none 0 0,.bool false,.slice A l c,.slice none 0 0]) kz ?_)
 exact ⟨rfl,hW13.step⟩
theorem Bb (ct:List Value) (t:Tree) (i:Nat) (w:World) (F:Nat → Nat → Prop) (ht:TreeR w F ct t) :
  Calls Tryz.prog 19 #[.agg ct.toArray,.int .i64 (i:Int)] w (EO w F (t.at_ i)):=by
 obtain ⟨n1,s2,b3,l4,u5,A6,c7,A8,c9,A10,c11,xs12,rfl,rfl,h14,h15,h16,h17⟩:=ht.open_
 have hsm19:=h14.small
 have hsm20:=h15.small
 refine enter (n:=16) Tryz.func19 rfl Tryz.ntmps19 kz fun a hE=>?_
 have hW:=WOk.start w B5
 refine B8 [0,1] kz ?_
 refine B1 (J1 hW hE (d:=2) (cs:=[.int .i64 n1,.slice A6 s2.length c7,.bool b3,.slice A8 l4.length c9,.slice A10 u5.length c11]) kz fun b21 a22 w23 hb24 hz25 hF26 hW27 hE28=>?_)
 let lc101:Value:=.slice none 0 0
 refine B1 (D7 hW27 hE28 (d:=4) (cs:=[.int .i64 0,lc101,.bool false,lc101,lc101]) kz fun b29 a30 w31 hb32 hz33 hF34 hW35 hE36=>?_)
 refine B4 (A7 ?_)
 refine wp_seq (C1 [(1,.v (.int .i64 ((i:Nat):Int))),(2,.p 0 0),(4,.p 1 0),(9,.v (.bool (decide (((i:Nat):Int) < ((l4.length:Nat):Int)))))] hW35 hE36 fun a37 hE38=>?_)
 refine D8 hE38 (b:=decide (((i:Nat):Int) < ((l4.length:Nat):Int))) kz (fun hc39=>?_) (fun hc39=>?_)
 ·
  have hf40:=of_decide_eq_true hc39
  refine B8 [0,1,2,3,4,5] kz ?_
  refine B3 [0,1,2] [3,4,5] [(4,.p 1 0),(11,.v (.slice A8 l4.length c9)),(12,.v (.int .i64 ((i:Nat):Int)))] hW35 hE38 fun a41 hE42=>?_
  obtain ⟨b43,o44,hA45,hl46,hat47⟩:=Slots.get h15 (i:=i) (by omega)
  obtain ⟨x48,he49⟩:∃ x,l4[i]? = some x:=⟨_,List.getElem?_eq_getElem (by omega)⟩
  have hr50:=h16 i x48 he49
  obtain ⟨n51,s52,b53,l54,u55,A56,c57,A58,c59,A60,c61,xs62,rfl,hcs63,h64,h65,h66,h67⟩:=hr50.open_
  rw [hcs63] at hr50
  have hsm69:=h64.small
  have hsm70:=h65.small
  rw [hcs63] at hat47
  refine B1 (F2 hE42 (t:=46) (A:=A8) (m:=l4.length) (q:=((i:Nat):Int)) (d:=13) kz (e:=49) (size:=5) (bytes:=88) kz hA45 rfl (by omega) fun a71 hE72=>?_)
  let lc102:Value:=.slice A56 s52.length c57
  let lc103:Value:=.slice A58 l54.length c59
  let lc104:Value:=.slice A60 u55.length c61
  let lc105:Value:=.agg #[.int .i64 n51,.slice A56 s52.length c57,.bool b53,.slice A58 l54.length c59,.slice A60 u55.length c61]
  refine B1 (G7 hE72 (t:=49) (b:=b43) (o:=o44 + i * 5) (d:=14) kz (cs:=[.int .i64 n51,lc102,.bool b53,lc103,lc104]) (v:=.agg #[.int .i64 n51,lc102,.bool b53,lc103,lc104]) kz (AtF.move hat47 hW35.step B0 E6).at_ fun a73 hE74=>?_)
  refine B1 (C7 hW35 hE74 (oi:=1) (cs:=[.int .i64 n51,lc102,.bool b53,lc103,lc104]) kz fun w75 hF76 hW77 hE78=>?_)
  refine B4 (A7 ?_)
  refine wp_ret (F5 (D5 hE78 hW77.cells (v:=.agg #[.int .i64 n51,lc102,.bool b53,lc103,lc104]) kz ?_))
  exact ⟨_,rfl,by rw [EP he49]; exact hr50,hW77.step⟩
 have hf79:=of_decide_eq_false hc39
 refine wp_skip (A7 (B8 [0,1] kz ?_))
 refine B3 [0] [1] [(4,.p 1 0),(15,.v (.agg #[.int .i64 0,lc101,.bool false,lc101,lc101]))] hW35 hE38 fun a80 hE81=>?_
 refine B1 (C7 hW35 hE81 (oi:=1) (cs:=[.int .i64 0,lc101,.bool false,lc101,lc101]) kz fun w82 hF83 hW84 hE85=>?_)
 refine B4 (A7 ?_)
 refine wp_ret (D5 hE85 hW84.cells (v:=.agg #[.int .i64 0,lc101,.bool false,lc101,lc101]) kz ?_)
 exact ⟨_,rfl,by rw [EQ (by omega)]; exact TreeR.zero _ _,hW84.step⟩
theorem Mm (D:DV) (w:World) (F:Nat → Nat → Prop) (hok:T0 w F D):Calls Tryz.prog 88 #[.agg #[.string ((D.f 0).s),.slice ((D.f 1).A) ((D.f 1).l) ((D.f 1).c)]] w (fun e w'=>∃ b,e = .returned (.bool b) ∧ Step w w' B5):=by
 refine enter (n:=11) Tryz.func88 rfl Tryz.ntmps88 kz fun a hE=>?_
 have hW:=WOk.start w B5
 unfold T0 at hok
 obtain ⟨g1,⟨g2,g2l,g2e⟩,_⟩:=hok
 refine B8 [0,1] kz ?_
 refine B1 (J1 hW hE (d:=1) (cs:=[.string ((D.f 0).s),.slice ((D.f 1).A) ((D.f 1).l) ((D.f 1).c)]) kz fun b3 a4 w5 hb6 hz7 hF8 hW9 hE10=>?_)
 refine B3 [1] [] [(1,.p 0 0)] hW9 hE10 fun a11 hE12=>?_
 refine B4 (A7 ?_)
 refine wp_seq (C1 [(1,.p 0 0),(6,.v (.bool (decide ((((D.f 0).s).size:Int) > 2147483647))))] hW9 hE12 fun a13 hE14=>?_)
 refine D8 hE14 (b:=decide ((((D.f 0).s).size:Int) > 2147483647)) kz (fun hc15=>?_) (fun hc15=>?_)
 ·
  have hf16:=of_decide_eq_true hc15
  refine C1 [(2,.v (.bool false))] hW9 hE14 fun a17 hE18=>?_
  refine wp_ret (F5 (D5 hE18 hW9.cells (v:=.bool false) kz ?_))
  exact ⟨_,rfl,hW9.step⟩
 have hf19:=of_decide_eq_false hc15
 refine wp_skip (A7 (wp_seq (C1 [(10,.v (.bool (decide ((((D.f 1).l:Nat):Int) > 2147483647))))] hW9 hE14 fun a20 hE21=>?_)))
 refine D8 hE21 (b:=decide ((((D.f 1).l:Nat):Int) > 2147483647)) kz (fun hc22=>?_) (fun hc22=>?_)
 ·
  have hf23:=of_decide_eq_true hc22
  refine C1 [(2,.v (.bool false))] hW9 hE21 fun a24 hE25=>?_
  refine wp_ret (F5 (D5 hE25 hW9.cells (v:=.bool false) kz ?_))
  exact ⟨_,rfl,hW9.step⟩
 have hf26:=of_decide_eq_false hc22
 refine wp_skip (A7 (C1 [(2,.v (.bool true))] hW9 hE21 fun a27 hE28=>?_))
 refine wp_ret (D5 hE28 hW9.cells (v:=.bool true) kz ?_)
 exact ⟨_,rfl,hW9.step⟩
theorem Jm (D:DV) (w:World) (F:Nat → Nat → Prop) (hok:Jj w F D):Calls Tryz.prog 49 #[.slice D.A D.l D.c] w (fun e w'=>∃ b,e = .returned (.bool b) ∧ Step w w' B5):=by
 refine enter (n:=18) Tryz.func49 rfl Tryz.ntmps49 kz fun a hE=>?_
 have hW:=WOk.start w B5
 obtain ⟨g_,gl_,ge_⟩:=hok
 refine C1 [(0,.v (.slice D.A D.l D.c))] hW hE fun a1 hE2=>?_
 refine wp_seq (C1 [(0,.v (.slice D.A D.l D.c)),(7,.v (.bool (decide (((D.l:Nat):Int) > 2147483647))))] hW hE2 fun a3 hE4=>?_)
 refine D8 hE4 (b:=decide (((D.l:Nat):Int) > 2147483647)) kz (fun hc5=>?_) (fun hc5=>?_)
 ·
  have hf6:=of_decide_eq_true hc5
  refine C1 [(2,.v (.bool false))] hW hE4 fun a7 hE8=>?_
  refine wp_ret (F5 (D5 hE8 hW.cells (v:=.bool false) kz ?_))
  exact ⟨_,rfl,hW.step⟩
 have hf9:=of_decide_eq_false hc5
 refine wp_skip (A7 (wp_seq ?_))
 let le101:Nat × SV:=(8,.v (.slice D.A D.l D.c))
 let le102:Nat × SV:=(9,.v (.int .i64 ((D.l:Nat):Int)))
 refine C1 [le101,le102,(10,.v (.int .i64 0))] hW hE4 fun a10 hE11=>?_
 refine wp_block (wp_loop_ghost (fun n_ a_ w_=>∃ (k:Nat),n_ = D.l - k ∧ k ≤ D.l ∧ F1 hW 18 [] [] [le101,le102,(10,.v (.int .i64 ((k:Nat):Int)))] a_ w_) (D.l) ⟨0,by omega,by omega,hE11.pk,hW,Fr.refl _ _ _⟩ ?_)
 rintro n12 a13 w14 ⟨k,hn17,hk18,hE15,hW16,hF19⟩
 let le103:Nat × SV:=(10,.v (.int .i64 ((k:Nat):Int)))
 refine C1 [le101,le102,le103,(11,.v (.bool (decide (((k:Nat):Int) < ((D.l:Nat):Int)))))] hW16 hE15 fun a20 hE21=>?_
 refine wp_seq (D8 hE21 (b:=decide (((k:Nat):Int) < ((D.l:Nat):Int))) kz (fun hc22=>?_) (fun hc22=>?_))
 ·
  have hf23:=of_decide_eq_true hc22
  refine wp_skip (A7 (wp_seq (wp_block (B8 [0,1,2,3] kz ?_))))
  obtain ⟨b24,o25,hA26,hl27,hat28⟩:=Slots.get g_ (i:=k) (by omega)
  refine B1 (F2 hE21 (t:=35) (A:=D.A) (m:=D.l) (q:=((k:Nat):Int)) (d:=12) kz (e:=70) (size:=2) (bytes:=40) kz hA26 rfl (by omega) fun a29 hE30=>?_)
  let lc104:Value:=.string (((D.f k).f 0).s)
  let lc105:Value:=.slice (((D.f k).f 1).A) (((D.f k).f 1).l) (((D.f k).f 1).c)
  let lc106:Value:=.agg #[.string (((D.f k).f 0).s),.slice (((D.f k).f 1).A) (((D.f k).f 1).l) (((D.f k).f 1).c)]
  refine B1 (G7 hE30 (t:=70) (b:=b24) (o:=o25 + k * 2) (d:=13) kz (cs:=[lc104,lc105]) (v:=.agg #[lc104,lc105]) kz (AtF.move hat28 hW16.step B0 E6).at_ fun a31 hE32=>?_)
  refine B1 (D7 hW16 hE32 (d:=4) (cs:=[.string ByteArray.empty,.slice none 0 0]) kz fun b33 a34 w35 hb36 hz37 hF38 hW39 hE40=>?_)
  refine B1 (C7 hW39 hE40 (oi:=0) (cs:=[lc104,lc105]) kz fun w41 hF42 hW43 hE44=>?_)
  refine B4 (A7 ?_)
  refine B8 [0,1,2] kz ?_
  refine B3 [0] [1,2] [le101,le102,le103,(14,.v (.agg #[lc104,lc105]))] hW43 hE44 fun a45 hE46=>?_
  refine B1 (C3 hE46 (f:=88) (vs:=[.agg #[lc104,lc105]]) (d:=15) kz Tryz.call88 (Mm (D.f k) _ (D4 F w w41 [⟨b33,0,[lc104,lc105],true⟩] []) (Ei _ hW43.step B0 hW43.imm (ge_ k (by omega)))) ?_)
  rintro e_ w49 ⟨b47,rfl,hs48⟩
  refine ⟨_,rfl,fun a50 hE51=>?_⟩
  have hW52:=hW43.next_nil hs48
  have hF53:=hW43.frN hs48
  refine B3 [2] [] [le101,le102,le103,(16,.v (.bool (!b47)))] hW52 hE51 fun a54 hE55=>?_
  refine B4 (A7 ?_)
  refine D8 hE55 (b:=!b47) kz (fun hc56=>?_) (fun hc56=>?_)
  ·
   refine C1 [(2,.v (.bool false))] hW52 hE55 fun a58 hE59=>?_
   refine wp_ret (N1 (F5 (F5 (N1 (F5 (D5 hE59 hW52.cells (v:=.bool false) kz ?_))))))
   exact ⟨_,rfl,hW52.step⟩
  refine wp_skip (G2 (A7 (D9 [0,1] kz ?_)))
  refine B3 [0,1] [] [le101,le102,(10,.v (.int .i64 (IntKind.i64.wrap (((k:Nat):Int) + 1))))] hW52 hE55 fun a61 hE62=>?_
  refine B4 (A7 ?_)
  obtain ⟨hE63,hW64,hF65⟩:=hW52.cutB hE62 0 [] [le101,le102,(10,.v (.int .i64 (IntKind.i64.wrap (((k:Nat):Int) + 1))))]
  have he66:IntKind.i64.wrap (((k:Nat):Int) + 1) = ((k + 1:Nat):Int):=H1 (by omega)
  rw [he66] at hE63
  exact ⟨D.l - (k + 1),by omega,k + 1,rfl,by omega,hE63.pk,hW64,((((hF19.trans hF38).trans hF42).trans hF53).trans hF65)⟩
 have hf67:=of_decide_eq_false hc22
 refine wp_exit (E2 (E2 (G3 (A7 (C1 [(2,.v (.bool true))] hW16 hE21 fun a68 hE69=>?_)))))
 refine wp_ret (D5 hE69 hW16.cells (v:=.bool true) kz ?_)
 exact ⟨_,rfl,hW16.step⟩
theorem Mn (D:DV) (w:World) (F:Nat → Nat → Prop) (hok:V4 w F D):Calls Tryz.prog 47 #[.agg #[.slice ((D.f 0).A) ((D.f 0).l) ((D.f 0).c),.int .i32 ((D.f 1).n)]] w (fun e w'=>∃ b,e = .returned (.bool b) ∧ Step w w' B5):=by
 refine enter (n:=7) Tryz.func47 rfl Tryz.ntmps47 kz fun a hE=>?_
 have hW:=WOk.start w B5
 unfold V4 at hok
 obtain ⟨⟨g1,g1l,g1e⟩,g2,_⟩:=hok
 refine B8 [0,1] kz ?_
 refine B1 (J1 hW hE (d:=1) (cs:=[.slice ((D.f 0).A) ((D.f 0).l) ((D.f 0).c),.int .i32 ((D.f 1).n)]) kz fun b3 a4 w5 hb6 hz7 hF8 hW9 hE10=>?_)
 refine B3 [1] [] [(1,.p 0 0)] hW9 hE10 fun a11 hE12=>?_
 refine B4 (A7 ?_)
 refine wp_seq (B8 [0,1,2,3] kz ?_)
 refine B3 [0,1] [2,3] [(4,.v (.slice ((D.f 0).A) ((D.f 0).l) ((D.f 0).c)))] hW9 hE12 fun a13 hE14=>?_
 refine B1 (C3 hE14 (f:=49) (vs:=[.slice ((D.f 0).A) ((D.f 0).l) ((D.f 0).c)]) (d:=5) kz Tryz.call49 (Jm (D.f 0) _ (D4 F w w5 [⟨b3,0,[.slice ((D.f 0).A) ((D.f 0).l) ((D.f 0).c),.int .i32 ((D.f 1).n)],true⟩] []) (Jk _ hW9.step B0 hW9.imm ⟨g1,g1l,g1e⟩)) ?_)
 rintro e_ w17 ⟨b15,rfl,hs16⟩
 refine ⟨_,rfl,fun a18 hE19=>?_⟩
 have hW20:=hW9.next_nil hs16
 have hF21:=hW9.frN hs16
 refine B3 [3] [] [(6,.v (.bool (!b15)))] hW20 hE19 fun a22 hE23=>?_
 refine B4 (A7 ?_)
 refine D8 hE23 (b:=!b15) kz (fun hc24=>?_) (fun hc24=>?_)
 ·
  refine C1 [(2,.v (.bool false))] hW20 hE23 fun a26 hE27=>?_
  refine wp_ret (F5 (D5 hE27 hW20.cells (v:=.bool false) kz ?_))
  exact ⟨_,rfl,hW20.step⟩
 refine wp_skip (A7 (C1 [(2,.v (.bool true))] hW20 hE23 fun a29 hE30=>?_))
 refine wp_ret (D5 hE30 hW20.cells (v:=.bool true) kz ?_)
 exact ⟨_,rfl,hW20.step⟩
theorem Mo (D:DV) (w:World) (F:Nat → Nat → Prop) (hok:Jl w F D):Calls Tryz.prog 48 #[.slice D.A D.l D.c] w (fun e w'=>∃ b,e = .returned (.bool b) ∧ Step w w' B5):=by
 refine enter (n:=18) Tryz.func48 rfl Tryz.ntmps48 kz fun a hE=>?_
 have hW:=WOk.start w B5
 obtain ⟨g_,gl_,ge_⟩:=hok
 refine C1 [(0,.v (.slice D.A D.l D.c))] hW hE fun a1 hE2=>?_
 refine wp_seq (C1 [(0,.v (.slice D.A D.l D.c)),(7,.v (.bool (decide (((D.l:Nat):Int) > 2147483647))))] hW hE2 fun a3 hE4=>?_)
 refine D8 hE4 (b:=decide (((D.l:Nat):Int) > 2147483647)) kz (fun hc5=>?_) (fun hc5=>?_)
 ·
  have hf6:=of_decide_eq_true hc5
  refine C1 [(2,.v (.bool false))] hW hE4 fun a7 hE8=>?_
  refine wp_ret (F5 (D5 hE8 hW.cells (v:=.bool false) kz ?_))
  exact ⟨_,rfl,hW.step⟩
 have hf9:=of_decide_eq_false hc5
 refine wp_skip (A7 (wp_seq ?_))
 let le101:Nat × SV:=(8,.v (.slice D.A D.l D.c))
 let le102:Nat × SV:=(9,.v (.int .i64 ((D.l:Nat):Int)))
 refine C1 [le101,le102,(10,.v (.int .i64 0))] hW hE4 fun a10 hE11=>?_
 refine wp_block (wp_loop_ghost (fun n_ a_ w_=>∃ (k:Nat),n_ = D.l - k ∧ k ≤ D.l ∧ F1 hW 18 [] [] [le101,le102,(10,.v (.int .i64 ((k:Nat):Int)))] a_ w_) (D.l) ⟨0,by omega,by omega,hE11.pk,hW,Fr.refl _ _ _⟩ ?_)
 rintro n12 a13 w14 ⟨k,hn17,hk18,hE15,hW16,hF19⟩
 let le103:Nat × SV:=(10,.v (.int .i64 ((k:Nat):Int)))
 refine C1 [le101,le102,le103,(11,.v (.bool (decide (((k:Nat):Int) < ((D.l:Nat):Int)))))] hW16 hE15 fun a20 hE21=>?_
 refine wp_seq (D8 hE21 (b:=decide (((k:Nat):Int) < ((D.l:Nat):Int))) kz (fun hc22=>?_) (fun hc22=>?_))
 ·
  have hf23:=of_decide_eq_true hc22
  refine wp_skip (A7 (wp_seq (wp_block (B8 [0,1,2] kz ?_))))
  obtain ⟨b24,o25,hA26,hl27,hat28⟩:=Slots.get g_ (i:=k) (by omega)
  refine B1 (F2 hE21 (t:=38) (A:=D.A) (m:=D.l) (q:=((k:Nat):Int)) (d:=12) kz (e:=30) (size:=1) (bytes:=24) kz hA26 rfl (by omega) fun a29 hE30=>?_)
  refine B1 (G7 hE30 (t:=30) (b:=b24) (o:=o25 + k * 1) (d:=13) kz (cs:=[.slice ((D.f k).A) ((D.f k).o.length) ((D.f k).c)]) (v:=.slice ((D.f k).A) ((D.f k).o.length) ((D.f k).c)) kz (AtF.move hat28 hW16.step B0 E6).at_ fun a31 hE32=>?_)
  refine B3 [2] [] [(4,.v (.slice ((D.f k).A) ((D.f k).o.length) ((D.f k).c))),le101,le102,le103] hW16 hE32 fun a33 hE34=>?_
  refine B4 (A7 ?_)
  refine C1 [le101,le102,le103,(16,.v (.bool (decide ((((D.f k).o.length:Nat):Int) > 2147483647))))] hW16 hE34 fun a35 hE36=>?_
  refine D8 hE36 (b:=decide ((((D.f k).o.length:Nat):Int) > 2147483647)) kz (fun hc37=>?_) (fun hc37=>?_)
  ·
   have hf38:=of_decide_eq_true hc37
   refine C1 [(2,.v (.bool false))] hW16 hE36 fun a39 hE40=>?_
   refine wp_ret (N1 (F5 (F5 (N1 (F5 (D5 hE40 hW16.cells (v:=.bool false) kz ?_))))))
   exact ⟨_,rfl,hW16.step⟩
  have hf41:=of_decide_eq_false hc37
  refine wp_skip (G2 (A7 (D9 [0,1] kz ?_)))
  refine B3 [0,1] [] [le101,le102,(10,.v (.int .i64 (IntKind.i64.wrap (((k:Nat):Int) + 1))))] hW16 hE36 fun a42 hE43=>?_
  refine B4 (A7 ?_)
  have he44:IntKind.i64.wrap (((k:Nat):Int) + 1) = ((k + 1:Nat):Int):=H1 (by omega)
  rw [he44] at hE43
  exact ⟨D.l - (k + 1),by omega,k + 1,rfl,by omega,hE43.pk,hW16,hF19⟩
 have hf45:=of_decide_eq_false hc22
 refine wp_exit (E2 (E2 (G3 (A7 (C1 [(2,.v (.bool true))] hW16 hE21 fun a46 hE47=>?_)))))
 refine wp_ret (D5 hE47 hW16.cells (v:=.bool true) kz ?_)
 exact ⟨_,rfl,hW16.step⟩
theorem Mp (D:DV) (w:World) (F:Nat → Nat → Prop) (hok:R0 w F D):Calls Tryz.prog 24 #[.agg #[.slice ((D.f 0).A) ((D.f 0).o.length) ((D.f 0).c),.slice (((D.f 1).f 0).A) (((D.f 1).f 0).l) (((D.f 1).f 0).c),.int .i32 (((D.f 1).f 1).n),.slice ((D.f 2).A) ((D.f 2).l) ((D.f 2).c),.slice ((D.f 3).A) ((D.f 3).l) ((D.f 3).c),.slice ((D.f 4).A) ((D.f 4).o.length) ((D.f 4).c)]] w (fun e w'=>∃ b,e = .returned (.bool b) ∧ Step w w' B5):=by
 refine enter (n:=23) Tryz.func24 rfl Tryz.ntmps24 kz fun a hE=>?_
 have hW:=WOk.start w B5
 unfold R0 at hok
 obtain ⟨⟨g1,g1l⟩,g2,⟨g3,g3l,g3e⟩,⟨g4,g4l,g4e⟩,⟨g5,g5l⟩,_⟩:=hok
 have g2k:=g2
 unfold V4 at g2
 obtain ⟨⟨g6,g6l,g6e⟩,g7,_⟩:=g2
 refine B8 [0,1] kz ?_
 let lc104:Value:=.slice ((D.f 0).A) ((D.f 0).o.length) ((D.f 0).c)
 let lc105:Value:=.slice (((D.f 1).f 0).A) (((D.f 1).f 0).l) (((D.f 1).f 0).c)
 let lc106:Value:=.int .i32 (((D.f 1).f 1).n)
 let lc107:Value:=.slice ((D.f 2).A) ((D.f 2).l) ((D.f 2).c)
 let lc108:Value:=.slice ((D.f 3).A) ((D.f 3).l) ((D.f 3).c)
 let lc109:Value:=.slice ((D.f 4).A) ((D.f 4).o.length) ((D.f 4).c)
 refine B1 (J1 hW hE (d:=1) (cs:=[lc104,lc105,lc106,lc107,lc108,lc109]) kz fun b8 a9 w10 hb11 hz12 hF13 hW14 hE15=>?_)
 let le102:Nat × SV:=(1,.p 0 0)
 refine B3 [1] [] [le102] hW14 hE15 fun a16 hE17=>?_
 refine B4 (A7 ?_)
 refine wp_seq (C1 [le102,(6,.v (.bool (decide ((((D.f 0).o.length:Nat):Int) > 2147483647))))] hW14 hE17 fun a18 hE19=>?_)
 let le103:Nat × SV:=(2,.v (.bool false))
 refine D8 hE19 (b:=decide ((((D.f 0).o.length:Nat):Int) > 2147483647)) kz (fun hc20=>?_) (fun hc20=>?_)
 ·
  have hf21:=of_decide_eq_true hc20
  refine C1 [le103] hW14 hE19 fun a22 hE23=>?_
  refine wp_ret (F5 (D5 hE23 hW14.cells (v:=.bool false) kz ?_))
  exact ⟨_,rfl,hW14.step⟩
 have hf24:=of_decide_eq_false hc20
 refine wp_skip (A7 (wp_seq (B8 [0,1,2,3] kz ?_)))
 refine B3 [0,1] [2,3] [le102,(8,.v (.agg #[lc105,lc106]))] hW14 hE19 fun a25 hE26=>?_
 let lo101:Ob:=⟨b8,0,[lc104,lc105,lc106,lc107,lc108,lc109],true⟩
 refine B1 (C3 hE26 (f:=47) (vs:=[.agg #[lc105,lc106]]) (d:=9) kz Tryz.call47 (Mn (D.f 1) _ (D4 F w w10 [lo101] []) (Jh _ hW14.step B0 hW14.imm g2k)) ?_)
 rintro e_ w29 ⟨b27,rfl,hs28⟩
 refine ⟨_,rfl,fun a30 hE31=>?_⟩
 have hW32:=hW14.next_nil hs28
 have hF33:=hW14.frN hs28
 refine B3 [3] [] [le102,(10,.v (.bool (!b27)))] hW32 hE31 fun a34 hE35=>?_
 refine B4 (A7 ?_)
 refine D8 hE35 (b:=!b27) kz (fun hc36=>?_) (fun hc36=>?_)
 ·
  refine C1 [le103] hW32 hE35 fun a38 hE39=>?_
  refine wp_ret (F5 (D5 hE39 hW32.cells (v:=.bool false) kz ?_))
  exact ⟨_,rfl,hW32.step⟩
 refine wp_skip (A7 (wp_seq (B8 [0,1,2,3] kz ?_)))
 refine B3 [0,1] [2,3] [le102,(12,.v (.slice ((D.f 2).A) ((D.f 2).l) ((D.f 2).c)))] hW32 hE35 fun a41 hE42=>?_
 refine B1 (C3 hE42 (f:=48) (vs:=[lc107]) (d:=13) kz Tryz.call48 (Mo (D.f 2) _ (D4 F w w29 [lo101] []) (Ml _ hW32.step B0 hW32.imm ⟨g3,g3l,g3e⟩)) ?_)
 rintro e_ w45 ⟨b43,rfl,hs44⟩
 refine ⟨_,rfl,fun a46 hE47=>?_⟩
 have hW48:=hW32.next_nil hs44
 have hF49:=hW32.frN hs44
 refine B3 [3] [] [le102,(14,.v (.bool (!b43)))] hW48 hE47 fun a50 hE51=>?_
 refine B4 (A7 ?_)
 refine D8 hE51 (b:=!b43) kz (fun hc52=>?_) (fun hc52=>?_)
 ·
  refine C1 [le103] hW48 hE51 fun a54 hE55=>?_
  refine wp_ret (F5 (D5 hE55 hW48.cells (v:=.bool false) kz ?_))
  exact ⟨_,rfl,hW48.step⟩
 refine wp_skip (A7 (wp_seq (B8 [0,1,2,3] kz ?_)))
 refine B3 [0,1] [2,3] [le102,(16,.v (.slice ((D.f 3).A) ((D.f 3).l) ((D.f 3).c)))] hW48 hE51 fun a57 hE58=>?_
 refine B1 (C3 hE58 (f:=49) (vs:=[lc108]) (d:=17) kz Tryz.call49 (Jm (D.f 3) _ (D4 F w w45 [lo101] []) (Jk _ hW48.step B0 hW48.imm ⟨g4,g4l,g4e⟩)) ?_)
 rintro e_ w61 ⟨b59,rfl,hs60⟩
 refine ⟨_,rfl,fun a62 hE63=>?_⟩
 have hW64:=hW48.next_nil hs60
 have hF65:=hW48.frN hs60
 refine B3 [3] [] [le102,(18,.v (.bool (!b59)))] hW64 hE63 fun a66 hE67=>?_
 refine B4 (A7 ?_)
 refine D8 hE67 (b:=!b59) kz (fun hc68=>?_) (fun hc68=>?_)
 ·
  refine C1 [le103] hW64 hE67 fun a70 hE71=>?_
  refine wp_ret (F5 (D5 hE71 hW64.cells (v:=.bool false) kz ?_))
  exact ⟨_,rfl,hW64.step⟩
 refine wp_skip (A7 (wp_seq (C1 [(22,.v (.bool (decide ((((D.f 4).o.length:Nat):Int) > 2147483647))))] hW64 hE67 fun a73 hE74=>?_)))
 refine D8 hE74 (b:=decide ((((D.f 4).o.length:Nat):Int) > 2147483647)) kz (fun hc75=>?_) (fun hc75=>?_)
 ·
  have hf76:=of_decide_eq_true hc75
  refine C1 [le103] hW64 hE74 fun a77 hE78=>?_
  refine wp_ret (F5 (D5 hE78 hW64.cells (v:=.bool false) kz ?_))
  exact ⟨_,rfl,hW64.step⟩
 have hf79:=of_decide_eq_false hc75
 refine wp_skip (A7 (C1 [(2,.v (.bool true))] hW64 hE74 fun a80 hE81=>?_))
 refine wp_ret (D5 hE81 hW64.cells (v:=.bool true) kz ?_)
 exact ⟨_,rfl,hW64.step⟩
def Ej (w:World) (F:Nat → Nat → Prop) (D:DV):Prop:=Slots w F 6 D.A D.c D.l (fun i=>[.slice (((D.f i).f 0).A) (((D.f i).f 0).o.length) (((D.f i).f 0).c),.slice ((((D.f i).f 1).f 0).A) ((((D.f i).f 1).f 0).l) ((((D.f i).f 1).f 0).c),.int .i32 ((((D.f i).f 1).f 1).n),.slice (((D.f i).f 2).A) (((D.f i).f 2).l) (((D.f i).f 2).c),.slice (((D.f i).f 3).A) (((D.f i).f 3).l) (((D.f i).f 3).c),.slice (((D.f i).f 4).A) (((D.f i).f 4).o.length) (((D.f i).f 4).c)]) ∧ D.l ≤ 1048576 ∧ ∀ i,i < D.l → R0 w F (D.f i)
theorem Mq:O1 Ej:=by
 intro w w' F F' M d hs hM hF h
 obtain ⟨h,hl,he⟩:=h
 exact ⟨h.move hs hM hF,hl,fun i hi=>Cj _ hs hM hF (he i hi)⟩
theorem Mr (D:DV) (w:World) (F:Nat → Nat → Prop) (hok:Ej w F D):Calls Tryz.prog 4 #[.slice D.A D.l D.c] w (fun e w'=>∃ b,e = .returned (.bool b) ∧ Step w w' B5):=by
 refine enter (n:=18) Tryz.func4 rfl Tryz.ntmps4 kz fun a hE=>?_
 have hW:=WOk.start w B5
 obtain ⟨g_,gl_,ge_⟩:=hok
 refine C1 [(0,.v (.slice D.A D.l D.c))] hW hE fun a1 hE2=>?_
 refine wp_seq (C1 [(0,.v (.slice D.A D.l D.c)),(7,.v (.bool (decide (((D.l:Nat):Int) > 2147483647))))] hW hE2 fun a3 hE4=>?_)
 refine D8 hE4 (b:=decide (((D.l:Nat):Int) > 2147483647)) kz (fun hc5=>?_) (fun hc5=>?_)
 ·
  have hf6:=of_decide_eq_true hc5
  refine C1 [(2,.v (.bool false))] hW hE4 fun a7 hE8=>?_
  refine wp_ret (F5 (D5 hE8 hW.cells (v:=.bool false) kz ?_))
  exact ⟨_,rfl,hW.step⟩
 have hf9:=of_decide_eq_false hc5
 refine wp_skip (A7 (wp_seq ?_))
 let le101:Nat × SV:=(8,.v (.slice D.A D.l D.c))
 let le102:Nat × SV:=(9,.v (.int .i64 ((D.l:Nat):Int)))
 refine C1 [le101,le102,(10,.v (.int .i64 0))] hW hE4 fun a10 hE11=>?_
 refine wp_block (wp_loop_ghost (fun n_ a_ w_=>∃ (k:Nat),n_ = D.l - k ∧ k ≤ D.l ∧ F1 hW 18 [] [] [le101,le102,(10,.v (.int .i64 ((k:Nat):Int)))] a_ w_) (D.l) ⟨0,by omega,by omega,hE11.pk,hW,Fr.refl _ _ _⟩ ?_)
 rintro n12 a13 w14 ⟨k,hn17,hk18,hE15,hW16,hF19⟩
 let le103:Nat × SV:=(10,.v (.int .i64 ((k:Nat):Int)))
 refine C1 [le101,le102,le103,(11,.v (.bool (decide (((k:Nat):Int) < ((D.l:Nat):Int)))))] hW16 hE15 fun a20 hE21=>?_
 refine wp_seq (D8 hE21 (b:=decide (((k:Nat):Int) < ((D.l:Nat):Int))) kz (fun hc22=>?_) (fun hc22=>?_))
 ·
  have hf23:=of_decide_eq_true hc22
  refine wp_skip (A7 (wp_seq (wp_block (B8 [0,1,2,3] kz ?_))))
  obtain ⟨b24,o25,hA26,hl27,hat28⟩:=Slots.get g_ (i:=k) (by omega)
  refine B1 (F2 hE21 (t:=22) (A:=D.A) (m:=D.l) (q:=((k:Nat):Int)) (d:=12) kz (e:=40) (size:=6) (bytes:=128) kz hA26 rfl (by omega) fun a29 hE30=>?_)
  let lc104:Value:=.slice (((D.f k).f 0).A) (((D.f k).f 0).o.length) (((D.f k).f 0).c)
  let lc105:Value:=.slice ((((D.f k).f 1).f 0).A) ((((D.f k).f 1).f 0).l) ((((D.f k).f 1).f 0).c)
  let lc106:Value:=.int .i32 ((((D.f k).f 1).f 1).n)
  let lc107:Value:=.slice (((D.f k).f 2).A) (((D.f k).f 2).l) (((D.f k).f 2).c)
  let lc108:Value:=.slice (((D.f k).f 3).A) (((D.f k).f 3).l) (((D.f k).f 3).c)
  let lc109:Value:=.slice (((D.f k).f 4).A) (((D.f k).f 4).o.length) (((D.f k).f 4).c)
  let lc110:Value:=.agg #[.slice (((D.f k).f 0).A) (((D.f k).f 0).o.length) (((D.f k).f 0).c),.slice ((((D.f k).f 1).f 0).A) ((((D.f k).f 1).f 0).l) ((((D.f k).f 1).f 0).c),.int .i32 ((((D.f k).f 1).f 1).n),.slice (((D.f k).f 2).A) (((D.f k).f 2).l) (((D.f k).f 2).c),.slice (((D.f k).f 3).A) (((D.f k).f 3).l) (((D.f k).f 3).c),.slice (((D.f k).f 4).A) (((D.f k).f 4).o.length) (((D.f k).f 4).c)]
  refine B1 (G7 hE30 (t:=40) (b:=b24) (o:=o25 + k * 6) (d:=13) kz (cs:=[lc104,lc105,lc106,lc107,lc108,lc109]) (v:=.agg #[lc104,lc105,lc106,lc107,lc108,lc109]) kz (AtF.move hat28 hW16.step B0 E6).at_ fun a31 hE32=>?_)
  let lc111:Value:=.slice none 0 0
  refine B1 (D7 hW16 hE32 (d:=4) (cs:=[lc111,lc111,.int .i32 0,lc111,lc111,lc111]) kz fun b33 a34 w35 hb36 hz37 hF38 hW39 hE40=>?_)
  refine B1 (C7 hW39 hE40 (oi:=0) (cs:=[lc104,lc105,lc106,lc107,lc108,lc109]) kz fun w41 hF42 hW43 hE44=>?_)
  refine B4 (A7 ?_)
  refine B8 [0,1,2] kz ?_
  refine B3 [0] [1,2] [le101,le102,le103,(14,.v (.agg #[lc104,lc105,lc106,lc107,lc108,lc109]))] hW43 hE44 fun a45 hE46=>?_
  refine B1 (C3 hE46 (f:=24) (vs:=[.agg #[lc104,lc105,lc106,lc107,lc108,lc109]]) (d:=15) kz Tryz.call24 (Mp (D.f k) _ (D4 F w w41 [⟨b33,0,[lc104,lc105,lc106,lc107,lc108,lc109],true⟩] []) (Cj _ hW43.step B0 hW43.imm (ge_ k (by omega)))) ?_)
  rintro e_ w49 ⟨b47,rfl,hs48⟩
  refine ⟨_,rfl,fun a50 hE51=>?_⟩
  have hW52:=hW43.next_nil hs48
  have hF53:=hW43.frN hs48
  refine B3 [2] [] [le101,le102,le103,(16,.v (.bool (!b47)))] hW52 hE51 fun a54 hE55=>?_
  refine B4 (A7 ?_)
  refine D8 hE55 (b:=!b47) kz (fun hc56=>?_) (fun hc56=>?_)
  ·
   refine C1 [(2,.v (.bool false))] hW52 hE55 fun a58 hE59=>?_
   refine wp_ret (N1 (F5 (F5 (N1 (F5 (D5 hE59 hW52.cells (v:=.bool false) kz ?_))))))
   exact ⟨_,rfl,hW52.step⟩
  refine wp_skip (G2 (A7 (D9 [0,1] kz ?_)))
  refine B3 [0,1] [] [le101,le102,(10,.v (.int .i64 (IntKind.i64.wrap (((k:Nat):Int) + 1))))] hW52 hE55 fun a61 hE62=>?_
  refine B4 (A7 ?_)
  obtain ⟨hE63,hW64,hF65⟩:=hW52.cutB hE62 0 [] [le101,le102,(10,.v (.int .i64 (IntKind.i64.wrap (((k:Nat):Int) + 1))))]
  have he66:IntKind.i64.wrap (((k:Nat):Int) + 1) = ((k + 1:Nat):Int):=H1 (by omega)
  rw [he66] at hE63
  exact ⟨D.l - (k + 1),by omega,k + 1,rfl,by omega,hE63.pk,hW64,((((hF19.trans hF38).trans hF42).trans hF53).trans hF65)⟩
 have hf67:=of_decide_eq_false hc22
 refine wp_exit (E2 (E2 (G3 (A7 (C1 [(2,.v (.bool true))] hW16 hE21 fun a68 hE69=>?_)))))
 refine wp_ret (D5 hE69 hW16.cells (v:=.bool true) kz ?_)
 exact ⟨_,rfl,hW16.step⟩
def V5 (D:DV):Prop:=(D.f 3).l ≤ 20 ∧ (∀ i,i < (D.f 3).l → (((D.f 3).f i).f 0).s.size ≤ 100 ∧ (((D.f 3).f i).f 1).l ≤ 20) ∧ (D.f 0).o.length ≤ 100 ∧ (D.f 4).o.length ≤ 1000
abbrev Jn (x0:DV) (x1):=([.string ((((P9 ((x0.f 1).f 0) (x0.f 3)).f x1).f 0).s),.slice ((((P9 ((x0.f 1).f 0) (x0.f 3)).f x1).f 1).A) ((((P9 ((x0.f 1).f 0) (x0.f 3)).f x1).f 1).l) ((((P9 ((x0.f 1).f 0) (x0.f 3)).f x1).f 1).c)]:List Value)
theorem Ms (D:DV) (w:World) (F:Nat → Nat → Prop) (hok:R0 w F D):Calls Tryz.prog 10 #[.agg #[.slice ((D.f 0).A) ((D.f 0).o.length) ((D.f 0).c),.slice (((D.f 1).f 0).A) (((D.f 1).f 0).l) (((D.f 1).f 0).c),.int .i32 (((D.f 1).f 1).n),.slice ((D.f 2).A) ((D.f 2).l) ((D.f 2).c),.slice ((D.f 3).A) ((D.f 3).l) ((D.f 3).c),.slice ((D.f 4).A) ((D.f 4).o.length) ((D.f 4).c)]] w (fun e w'=>∃ b,e = .returned (.bool b) ∧ (b = true → V5 D) ∧ Step w w' B5):=by
 refine enter (n:=69) Tryz.func10 rfl Tryz.ntmps10 kz fun a hE=>?_
 have hW:=WOk.start w B5
 unfold R0 at hok
 obtain ⟨⟨g1,g1l⟩,g2,⟨g3,g3l,g3e⟩,⟨g4,g4l,g4e⟩,⟨g5,g5l⟩,_⟩:=hok
 have g2k:=g2
 unfold V4 at g2
 obtain ⟨⟨g6,g6l,g6e⟩,g7,_⟩:=g2
 refine B8 [0,1] kz ?_
 let lc110:Value:=.slice ((D.f 0).A) ((D.f 0).o.length) ((D.f 0).c)
 let lc111:Value:=.slice (((D.f 1).f 0).A) (((D.f 1).f 0).l) (((D.f 1).f 0).c)
 let lc112:Value:=.slice ((D.f 2).A) ((D.f 2).l) ((D.f 2).c)
 let lc113:Value:=.slice ((D.f 3).A) ((D.f 3).l) ((D.f 3).c)
 let lc114:Value:=.slice ((D.f 4).A) ((D.f 4).o.length) ((D.f 4).c)
 refine B1 (J1 hW hE (d:=1) (cs:=[lc110,lc111,.int .i32 (((D.f 1).f 1).n),lc112,lc113,lc114]) kz fun b8 a9 w10 hb11 hz12 hF13 hW14 hE15=>?_)
 let le102:Nat × SV:=(1,.p 0 0)
 refine B3 [1] [] [le102] hW14 hE15 fun a16 hE17=>?_
 refine B4 (A7 ?_)
 refine C1 [le102,(3,.v (.int .i64 (IntKind.i64.wrap ((IntKind.i64.wrap (((((D.f 1).f 0).l:Nat):Int) + (((D.f 2).l:Nat):Int))) + (((D.f 3).l:Nat):Int)))))] hW14 hE17 fun a18 hE19=>?_
 refine wp_seq (J2 10 kz hW14 fun w20 hF21 hW22 hT23=>?_)
 refine D6 [1,2,3,5,6,9] [le102,(3,.v (.int .i64 (IntKind.i64.wrap ((IntKind.i64.wrap (((((D.f 1).f 0).l:Nat):Int) + (((D.f 2).l:Nat):Int))) + (((D.f 3).l:Nat):Int))))),(23,.v (.slice (((D.f 1).f 0).A) (((D.f 1).f 0).l) (((D.f 1).f 0).c))),(26,.v (.slice ((D.f 3).A) ((D.f 3).l) ((D.f 3).c))),(29,.v (.int .i64 0))] 4 (B2 (B2 C6)) (fun _ h=>h.cells) hT23 hE19 fun a24 hE25=>?_
 refine C9 (i:=0) kz (G4 hW22 hE25 (e:=70) (size:=2) (len:=0) (cs:=[]) (d:=20) kz kz fun b26 a27 w28 hb29 hz30 hF31 hW32 hE33=>?_)
 have hT34:=TT.ofW hF31 hW32
 refine ⟨fun _=>hT34,?_⟩
 refine C9 (i:=4) kz (I7 hW32 hE33 (k:=0) (d:=24) (t:=35) (e:=70) (size:=2) (bytes:=40) (A:=(some ⟨b26,0,none⟩)) (As:=(((D.f 1).f 0).A)) (m0:=0) (c:=0) (m:=(((D.f 1).f 0).l)) (cs:=(((D.f 1).f 0).c)) (xs:=[]) (news:=((List.range ((D.f 1).f 0).l).map fun i=>Ba (((D.f 1).f 0).f i)).flatten) kz kz rfl (Slots.src (g6.move hW32.step B0 hW32.imm) (by decide) (fun _ _=>rfl) (fun _ _=>Gn _)) (fun h_=>((g6.move hW32.step B0 hW32.imm).none_ h_).2) (by omega) fun A35 c36 a37 w38 hF39 hW40 hE41=>?_)
 have hT42:=TT.ofW (hF31.trans hF39) hW40
 refine ⟨fun _=>hT42,?_⟩
 refine C9 (i:=7) kz (I7 hW40 hE41 (k:=0) (d:=27) (t:=35) (e:=70) (size:=2) (bytes:=40) (A:=A35) (As:=((D.f 3).A)) (m0:=(0 + ((D.f 1).f 0).l)) (c:=c36) (m:=((D.f 3).l)) (cs:=((D.f 3).c)) (xs:=([] ++ ((List.range ((D.f 1).f 0).l).map fun i=>Ba (((D.f 1).f 0).f i)).flatten)) (news:=((List.range (D.f 3).l).map fun i=>Ba ((D.f 3).f i)).flatten) kz kz rfl (Slots.src (g4.move hW40.step B0 hW40.imm) (by decide) (fun _ _=>rfl) (fun _ _=>Gn _)) (fun h_=>((g4.move hW40.step B0 hW40.imm).none_ h_).2) (by omega) fun A43 c44 a45 w46 hF47 hW48 hE49=>?_)
 have hT50:=TT.ofW ((hF31.trans hF39).trans hF47) hW48
 refine ⟨fun _=>hT50,?_⟩
 let le103:Nat × SV:=(27,.v (.slice A43 (0 + ((D.f 1).f 0).l + (D.f 3).l) c44))
 let le104:Nat × SV:=(28,.v (.int .i64 ((0 + ((D.f 1).f 0).l + (D.f 3).l:Nat):Int)))
 refine D6 [8] [le102,(3,.v (.int .i64 (IntKind.i64.wrap ((IntKind.i64.wrap (((((D.f 1).f 0).l:Nat):Int) + (((D.f 2).l:Nat):Int))) + (((D.f 3).l:Nat):Int))))),le103,le104,(29,.v (.int .i64 0))] 0 (B2 (B2 C6)) (fun _ h=>h.cells) hT50 hE49 fun a51 hE52=>?_
 refine F3 kz ?_ _
 refine A7 (wp_block ?_)
 let lo101:Ob:=⟨b8,0,[lc110,lc111,.int .i32 (((D.f 1).f 1).n),lc112,lc113,lc114],true⟩
 have hj53:Slots _ (D4 F w w46 [lo101] []) 2 A43 c44 (0 + ((D.f 1).f 0).l + (D.f 3).l) (fun i=>Ba ((P9 ((D.f 1).f 0) (D.f 3)).f i)):=Me (hW48.own 0 _ rfl) (by omega) (fun _=>rfl) Gn (hW48.giveF 0 [] rfl)
 obtain ⟨hW54,hF55⟩:=hW48.cutR 0 []
 refine wp_loop_ghost (fun n_ a_ w_=>∃ (k:Nat),n_ = (0 + ((D.f 1).f 0).l + (D.f 3).l) - k ∧ k ≤ (0 + ((D.f 1).f 0).l + (D.f 3).l) ∧ (∀ i_,i_ < k → (((P9 ((D.f 1).f 0) (D.f 3)).f i_).f 0).s.size ≤ 100 ∧ (((P9 ((D.f 1).f 0) (D.f 3)).f i_).f 1).l ≤ 20) ∧ F1 hW54 69 [lo101] [] [le102,(3,.v (.int .i64 (IntKind.i64.wrap ((IntKind.i64.wrap (((((D.f 1).f 0).l:Nat):Int) + (((D.f 2).l:Nat):Int))) + (((D.f 3).l:Nat):Int))))),le103,le104,(29,.v (.int .i64 ((k:Nat):Int)))] a_ w_) ((0 + ((D.f 1).f 0).l + (D.f 3).l)) ⟨0,by omega,by omega,fun i_ h_=>absurd h_ (Nat.not_lt_zero _),hE52.pk,hW54,Fr.refl _ _ _⟩ ?_
 rintro n56 a57 w58 ⟨k,hn61,hk62,hG_,hE59,hW60,hF63⟩
 let le105:Nat × SV:=(29,.v (.int .i64 ((k:Nat):Int)))
 refine C1 [le102,(3,.v (.int .i64 (IntKind.i64.wrap ((IntKind.i64.wrap (((((D.f 1).f 0).l:Nat):Int) + (((D.f 2).l:Nat):Int))) + (((D.f 3).l:Nat):Int))))),le103,le104,le105,(30,.v (.bool (decide (((k:Nat):Int) < ((0 + ((D.f 1).f 0).l + (D.f 3).l:Nat):Int)))))] hW60 hE59 fun a64 hE65=>?_
 refine wp_seq ?_
 let le106:Nat × SV:=(2,.v (.bool false))
 refine D8 hE65 (b:=decide (((k:Nat):Int) < ((0 + ((D.f 1).f 0).l + (D.f 3).l:Nat):Int))) kz (fun hc66=>?_) (fun hc66=>?_)
 ·
  have hf67:=of_decide_eq_true hc66
  refine wp_skip (A7 (wp_seq (wp_block (B8 [0,1,2,3] kz ?_))))
  obtain ⟨b68,o69,hA70,hl71,hat72⟩:=Slots.get hj53 (i:=k) (by omega)
  refine B1 (F2 hE65 (t:=35) (A:=A43) (m:=(0 + ((D.f 1).f 0).l + (D.f 3).l)) (q:=((k:Nat):Int)) (d:=31) kz (e:=70) (size:=2) (bytes:=40) kz hA70 rfl (by omega) fun a73 hE74=>?_)
  refine B1 (G7 hE74 (t:=70) (b:=b68) (o:=o69 + k * 2) (d:=32) kz (cs:=(Jn D k)) (v:=.agg #[.string ((((P9 ((D.f 1).f 0) (D.f 3)).f k).f 0).s),.slice ((((P9 ((D.f 1).f 0) (D.f 3)).f k).f 1).A) ((((P9 ((D.f 1).f 0) (D.f 3)).f k).f 1).l) ((((P9 ((D.f 1).f 0) (D.f 3)).f k).f 1).c)]) kz (AtF.move hat72 hF63.step immM hF63.to').at_ fun a75 hE76=>?_)
  refine B1 (D7 hW60 hE76 (d:=5) (cs:=[.string ByteArray.empty,.slice none 0 0]) kz fun b77 a78 w79 hb80 hz81 hF82 hW83 hE84=>?_)
  refine B1 (C7 hW83 hE84 (oi:=1) (cs:=(Jn D k)) kz fun w85 hF86 hW87 hE88=>?_)
  refine B4 (A7 ?_)
  refine B8 [0,1,2,3,4,5,6,7,8,9] kz ?_
  refine B3 [0,1,2,3,4] [5,6,7,8,9] [le102,(3,.v (.int .i64 (IntKind.i64.wrap ((IntKind.i64.wrap (((((D.f 1).f 0).l:Nat):Int) + (((D.f 2).l:Nat):Int))) + (((D.f 3).l:Nat):Int))))),(5,.p 1 0),le103,le104,le105,(37,.v (.bool (decide ((((((P9 ((D.f 1).f 0) (D.f 3)).f k).f 0).s).size:Int) > 100))))] hW87 hE88 fun a89 hE90=>?_
  refine (Bool.eq_false_or_eq_true (decide ((((((P9 ((D.f 1).f 0) (D.f 3)).f k).f 0).s).size:Int) > 100))).elim (fun hc91=>?_) (fun hc91=>?_)
  ·
   have hf92:=of_decide_eq_true hc91
   have hE93:=hE90
   rw [hc91] at hE93
   refine B3 [5,6,7,8,9] [] [le102,(3,.v (.int .i64 (IntKind.i64.wrap ((IntKind.i64.wrap (((((D.f 1).f 0).l:Nat):Int) + (((D.f 2).l:Nat):Int))) + (((D.f 3).l:Nat):Int))))),le103,le104,le105,(42,.v (.bool true))] hW87 hE93 fun a94 hE95=>?_
   refine B4 (A7 ?_)
   refine Q6 hE95 (b:=true) kz rfl ?_
   refine C1 [le106] hW87 hE95 fun a96 hE97=>?_
   refine wp_ret (N1 (F5 (F5 (N1 (F5 (D5 hE97 hW87.cells (v:=.bool false) kz ?_))))))
   exact ⟨false,rfl,fun h_=>(by cases h_),hW87.step⟩
  have hf98:=of_decide_eq_false hc91
  have hE99:=hE90
  rw [hc91] at hE99
  refine B3 [5,6,7,8,9] [] [le102,(3,.v (.int .i64 (IntKind.i64.wrap ((IntKind.i64.wrap (((((D.f 1).f 0).l:Nat):Int) + (((D.f 2).l:Nat):Int))) + (((D.f 3).l:Nat):Int))))),le103,le104,le105,(42,.v (.bool (decide ((((((P9 ((D.f 1).f 0) (D.f 3)).f k).f 1).l:Nat):Int) > 20))))] hW87 hE99 fun a100 hE101=>?_
  refine B4 (A7 ?_)
  refine D8 hE101 (b:=decide ((((((P9 ((D.f 1).f 0) (D.f 3)).f k).f 1).l:Nat):Int) > 20)) kz (fun hc102=>?_) (fun hc102=>?_)
  ·
   have hf103:=of_decide_eq_true hc102
   refine C1 [le106] hW87 hE101 fun a104 hE105=>?_
   refine wp_ret (N1 (F5 (F5 (N1 (F5 (D5 hE105 hW87.cells (v:=.bool false) kz ?_))))))
   exact ⟨false,rfl,fun h_=>(by cases h_),hW87.step⟩
  have hf106:=of_decide_eq_false hc102
  refine wp_skip (G2 (A7 (D9 [0,1] kz ?_)))
  refine B3 [0,1] [] [le102,(3,.v (.int .i64 (IntKind.i64.wrap ((IntKind.i64.wrap (((((D.f 1).f 0).l:Nat):Int) + (((D.f 2).l:Nat):Int))) + (((D.f 3).l:Nat):Int))))),le103,le104,(29,.v (.int .i64 (IntKind.i64.wrap (((k:Nat):Int) + 1))))] hW87 hE101 fun a107 hE108=>?_
  refine B4 (A7 ?_)
  obtain ⟨hE109,hW110,hF111⟩:=hW87.cutB hE108 1 [lo101] [le102,(3,.v (.int .i64 (IntKind.i64.wrap ((IntKind.i64.wrap (((((D.f 1).f 0).l:Nat):Int) + (((D.f 2).l:Nat):Int))) + (((D.f 3).l:Nat):Int))))),le103,le104,(29,.v (.int .i64 (IntKind.i64.wrap (((k:Nat):Int) + 1))))]
  have he112:IntKind.i64.wrap (((k:Nat):Int) + 1) = ((k + 1:Nat):Int):=H1 (by omega)
  rw [he112] at hE109
  exact ⟨(0 + ((D.f 1).f 0).l + (D.f 3).l) - (k + 1),by omega,k + 1,rfl,by omega,fun i_ hi_=>by
   rcases Nat.lt_succ_iff_lt_or_eq.1 hi_ with h_ | rfl
   ·exact hG_ i_ h_
   exact ⟨Int.ofNat_le.1 (Int.not_lt.1 (of_decide_eq_false hc91)),Int.ofNat_le.1 (Int.not_lt.1 (of_decide_eq_false hc102))⟩,hE109.pk,hW110,(((hF63.trans hF82).trans hF86).trans hF111)⟩
 have hf113:=of_decide_eq_false hc66
 refine wp_exit (E2 (E2 (G3 (A7 (wp_seq ?_)))))
 let le107:Nat × SV:=(45,.v (.slice ((D.f 2).A) ((D.f 2).l) ((D.f 2).c)))
 let le108:Nat × SV:=(46,.v (.int .i64 (((D.f 2).l:Nat):Int)))
 refine C1 [le102,(3,.v (.int .i64 (IntKind.i64.wrap ((IntKind.i64.wrap (((((D.f 1).f 0).l:Nat):Int) + (((D.f 2).l:Nat):Int))) + (((D.f 3).l:Nat):Int))))),le107,le108,(47,.v (.int .i64 0))] hW60 hE65 fun a114 hE115=>?_
 refine wp_block (wp_loop_ghost (fun n_ a_ w_=>∃ (k2:Nat),n_ = (D.f 2).l - k2 ∧ k2 ≤ (D.f 2).l ∧ F1 hW60 69 [lo101] [] [le102,(3,.v (.int .i64 (IntKind.i64.wrap ((IntKind.i64.wrap (((((D.f 1).f 0).l:Nat):Int) + (((D.f 2).l:Nat):Int))) + (((D.f 3).l:Nat):Int))))),le107,le108,(47,.v (.int .i64 ((k2:Nat):Int)))] a_ w_) ((D.f 2).l) ⟨0,by omega,by omega,hE115.pk,hW60,Fr.refl _ _ _⟩ ?_)
 rintro n116 a117 w118 ⟨k2,hn121,hk122,hE119,hW120,hF123⟩
 let le109:Nat × SV:=(47,.v (.int .i64 ((k2:Nat):Int)))
 refine C1 [le102,(3,.v (.int .i64 (IntKind.i64.wrap ((IntKind.i64.wrap (((((D.f 1).f 0).l:Nat):Int) + (((D.f 2).l:Nat):Int))) + (((D.f 3).l:Nat):Int))))),le107,le108,le109,(48,.v (.bool (decide (((k2:Nat):Int) < (((D.f 2).l:Nat):Int)))))] hW120 hE119 fun a124 hE125=>?_
 refine wp_seq (D8 hE125 (b:=decide (((k2:Nat):Int) < (((D.f 2).l:Nat):Int))) kz (fun hc126=>?_) (fun hc126=>?_))
 ·
  have hf127:=of_decide_eq_true hc126
  refine wp_skip (A7 (wp_seq (wp_block (B8 [0,1,2] kz ?_))))
  obtain ⟨b128,o129,hA130,hl131,hat132⟩:=Slots.get g3 (i:=k2) (by omega)
  refine B1 (F2 hE125 (t:=38) (A:=(D.f 2).A) (m:=((D.f 2).l)) (q:=((k2:Nat):Int)) (d:=49) kz (e:=30) (size:=1) (bytes:=24) kz hA130 rfl (by omega) fun a133 hE134=>?_)
  refine B1 (G7 hE134 (t:=30) (b:=b128) (o:=o129 + k2 * 1) (d:=50) kz (cs:=[.slice (((D.f 2).f k2).A) (((D.f 2).f k2).o.length) (((D.f 2).f k2).c)]) (v:=.slice (((D.f 2).f k2).A) (((D.f 2).f k2).o.length) (((D.f 2).f k2).c)) kz (AtF.move hat132 hW120.step B0 E6).at_ fun a135 hE136=>?_)
  refine B3 [2] [] [le102,(3,.v (.int .i64 (IntKind.i64.wrap ((IntKind.i64.wrap (((((D.f 1).f 0).l:Nat):Int) + (((D.f 2).l:Nat):Int))) + (((D.f 3).l:Nat):Int))))),(7,.v (.slice (((D.f 2).f k2).A) (((D.f 2).f k2).o.length) (((D.f 2).f k2).c))),le107,le108,le109] hW120 hE136 fun a137 hE138=>?_
  refine B4 (A7 ?_)
  refine C1 [le102,(3,.v (.int .i64 (IntKind.i64.wrap ((IntKind.i64.wrap (((((D.f 1).f 0).l:Nat):Int) + (((D.f 2).l:Nat):Int))) + (((D.f 3).l:Nat):Int))))),le107,le108,le109,(53,.v (.bool (decide (((((D.f 2).f k2).o.length:Nat):Int) > 100))))] hW120 hE138 fun a139 hE140=>?_
  refine D8 hE140 (b:=decide (((((D.f 2).f k2).o.length:Nat):Int) > 100)) kz (fun hc141=>?_) (fun hc141=>?_)
  ·
   have hf142:=of_decide_eq_true hc141
   refine C1 [le106] hW120 hE140 fun a143 hE144=>?_
   refine wp_ret (N1 (F5 (F5 (N1 (F5 (D5 hE144 hW120.cells (v:=.bool false) kz ?_))))))
   exact ⟨false,rfl,fun h_=>(by cases h_),hW120.step⟩
  have hf145:=of_decide_eq_false hc141
  refine wp_skip (G2 (A7 (D9 [0,1] kz ?_)))
  refine B3 [0,1] [] [le102,(3,.v (.int .i64 (IntKind.i64.wrap ((IntKind.i64.wrap (((((D.f 1).f 0).l:Nat):Int) + (((D.f 2).l:Nat):Int))) + (((D.f 3).l:Nat):Int))))),le107,le108,(47,.v (.int .i64 (IntKind.i64.wrap (((k2:Nat):Int) + 1))))] hW120 hE140 fun a146 hE147=>?_
  refine B4 (A7 ?_)
  have he148:IntKind.i64.wrap (((k2:Nat):Int) + 1) = ((k2 + 1:Nat):Int):=H1 (by omega)
  rw [he148] at hE147
  exact ⟨(D.f 2).l - (k2 + 1),by omega,k2 + 1,rfl,by omega,hE147.pk,hW120,hF123⟩
 have hf149:=of_decide_eq_false hc126
 refine wp_exit (E2 (E2 (G3 (A7 (B8 [0,1,2,3,4,5,6,7,8,9,10,11,12,13,14] kz ?_)))))
 refine B3 [0,1,2] [3,4,5,6,7,8,9,10,11,12,13,14] [le102,(57,.v (.bool (decide ((IntKind.i64.wrap ((IntKind.i64.wrap (((((D.f 1).f 0).l:Nat):Int) + (((D.f 2).l:Nat):Int))) + (((D.f 3).l:Nat):Int))) ≤ 20))))] hW120 hE125 fun a150 hE151=>?_
 refine (Bool.eq_false_or_eq_true (decide ((IntKind.i64.wrap ((IntKind.i64.wrap (((((D.f 1).f 0).l:Nat):Int) + (((D.f 2).l:Nat):Int))) + (((D.f 3).l:Nat):Int))) ≤ 20))).elim (fun hc152=>?_) (fun hc152=>?_)
 ·
  have hf153:=of_decide_eq_true hc152
  have hE154:=hE151
  rw [hc152] at hE154
  refine B3 [3,4,5,6,7,8] [9,10,11,12,13,14] [le102,(63,.v (.bool (decide ((((D.f 0).o.length:Nat):Int) ≤ 100))))] hW120 hE154 fun a155 hE156=>?_
  refine (Bool.eq_false_or_eq_true (decide ((((D.f 0).o.length:Nat):Int) ≤ 100))).elim (fun hc157=>?_) (fun hc157=>?_)
  ·
   have hf158:=of_decide_eq_true hc157
   have hE159:=hE156
   rw [hc157] at hE159
   refine B3 [9,10,11,12,13,14] [] [(2,.v (.bool (decide ((((D.f 4).o.length:Nat):Int) ≤ 1000))))] hW120 hE159 fun a160 hE161=>?_
   refine B4 (A7 ?_)
   refine wp_ret (D5 hE161 hW120.cells (v:=.bool (decide ((((D.f 4).o.length:Nat):Int) ≤ 1000))) kz ?_)
   refine ⟨_,rfl,fun hb_=>?_,hW120.step⟩
   have e1_:=of_decide_eq_true hc152
   have e0_:IntKind.i64.wrap (((((D.f 1).f 0).l:Nat):Int) + (((D.f 2).l:Nat):Int)) = ((((D.f 1).f 0).l + (D.f 2).l:Nat):Int):=wrap_i64 (by omega) (by omega)
   rw [e0_,wrap_i64 (by omega) (by omega)] at e1_
   have e2_:=of_decide_eq_true hc157
   have e3_:=of_decide_eq_true hb_
   have e4_:=of_decide_eq_false hc66
   exact ⟨by omega,fun i_ hi_=>by have h_:=hG_ (((D.f 1).f 0).l + i_) (by omega); rw [Md] at h_; exact h_,by omega,by omega⟩
  have hf162:=of_decide_eq_false hc157
  have hE163:=hE156
  rw [hc157] at hE163
  refine B3 [9,10,11,12,13,14] [] [le106] hW120 hE163 fun a164 hE165=>?_
  refine B4 (A7 ?_)
  refine wp_ret (D5 hE165 hW120.cells (v:=.bool false) kz ?_)
  exact ⟨false,rfl,fun h_=>(by cases h_),hW120.step⟩
 have hf166:=of_decide_eq_false hc152
 have hE167:=hE151
 rw [hc152] at hE167
 refine B3 [3,4,5,6,7,8,9,10,11,12,13,14] [] [le106] hW120 hE167 fun a168 hE169=>?_
 refine B4 (A7 ?_)
 refine wp_ret (D5 hE169 hW120.cells (v:=.bool false) kz ?_)
 exact ⟨false,rfl,fun h_=>(by cases h_),hW120.step⟩
theorem CZ (Ap:Option Addr) (t:ByteArray) (A:Option Addr) (cp:Nat) (s:Bs) (w:World) (ho:w.ownsRow 0 5 1 (.slice A s.length cp) s.length (bc s)) (F:Nat → Nat → Prop) (hF:∀ b o,F b o → ¬ G1 A b o) (hO:∀ ad,Ap = some ad → ∃ b o,ad = ⟨b,o,none⟩ ∧ AtF w F b o [.string t]) (hsm:t.size ≤ 1000000) (hroom:s.length + (if Ap.isNone = true then be 2 (-1) else be 2 t.size ++ sb t).length + 16 ≤ 1099511627776) :
  Calls Tryz.prog 69 (.slice A s.length cp :: [.pointer Ap]).toArray w (K9 w 5 A (s ++ (if Ap.isNone = true then be 2 (-1) else be 2 t.size ++ sb t))):=by
 have h:=KY Ap t A cp s w ho F hF hO hsm (by cases Ap <;> simpa using hroom)
 cases Ap <;> simpa using h
theorem Da (Ap:Option Addr) (t:ByteArray) (A:Option Addr) (cp:Nat) (s:Bs) (w:World) (ho:w.ownsRow 0 5 1 (.slice A s.length cp) s.length (bc s)) (F:Nat → Nat → Prop) (hF:∀ b o,F b o → ¬ G1 A b o) (hO:∀ ad,Ap = some ad → ∃ b o,ad = ⟨b,o,none⟩ ∧ AtF w F b o [.string t]) (hsm:t.size ≤ 1000000) (hroom:s.length + (if Ap.isNone = true then uv 0 else uv (t.size + 1) ++ sb t).length + 16 ≤ 1099511627776) :
  Calls Tryz.prog 68 (.slice A s.length cp :: [.pointer Ap]).toArray w (K9 w 5 A (s ++ (if Ap.isNone = true then uv 0 else uv (t.size + 1) ++ sb t))):=by
 have h:=La Ap t A cp s w ho F hF hO hsm (by cases Ap <;> simpa using hroom)
 cases Ap <;> simpa using h
theorem Mt (t:Bs) (Ap:Option Addr) (co:Nat) (F:Nat → Nat → Prop) (A:Option Addr) (cp:Nat) (s:Bs) (w:World) (ho:w.ownsRow 0 5 1 (.slice A s.length cp) s.length (bc s)) (hF:∀ b o,F b o → ¬ G1 A b o) (hO:Octs w F Ap co t) (hsm:t.length ≤ 1000000) (hroom:s.length + (if Ap.isNone = true then be 4 (-1) else be 4 t.length ++ t).length + 16 ≤ 1099511627776) :
  Calls Tryz.prog 90 (.slice A s.length cp :: [.slice Ap t.length co]).toArray w (K9 w 5 A (s ++ (if Ap.isNone = true then be 4 (-1) else be 4 t.length ++ t))):=by
 have h:=KZ t Ap co F A cp s w ho hF hO hsm (by cases Ap <;> simpa using hroom)
 cases Ap <;> simpa using h
def S4 (w:World) (F:Nat → Nat → Prop) (D:DV):Prop:=((D.f 0).s.size ≤ 1000000) ∧ (Slots w F 1 (D.f 1).A (D.f 1).c (D.f 1).l (fun i=>[.int .i32 (((D.f 1).f i).n)]) ∧ (D.f 1).l ≤ 1000000 ∧ ∀ i,i < (D.f 1).l → True) ∧ True
def V6 (w:World) (F:Nat → Nat → Prop) (D:DV):Prop:=(Slots w F 2 (D.f 0).A (D.f 0).c (D.f 0).l (fun i=>[.string ((((D.f 0).f i).f 0).s),.slice ((((D.f 0).f i).f 1).A) ((((D.f 0).f i).f 1).l) ((((D.f 0).f i).f 1).c)]) ∧ (D.f 0).l ≤ 1000000 ∧ ∀ i,i < (D.f 0).l → S4 w F ((D.f 0).f i)) ∧ (Octs w F (D.f 1).A (D.f 1).c (D.f 1).o ∧ (D.f 1).o.length ≤ 1000000) ∧ True
def Y2 (v:Int) (D:DV):Bs:=(be 2 v) ++ (((be 4 (D.f 0).l) ++ ((List.range (D.f 0).l).flatMap fun ab=>(be 2 (((D.f 0).f ab).f 0).s.size ++ sb (((D.f 0).f ab).f 0).s) ++ ((be 4 (((D.f 0).f ab).f 1).l) ++ ((List.range (((D.f 0).f ab).f 1).l).flatMap fun ac=>be 4 (((((D.f 0).f ab).f 1).f ac).n))))) ++ (((if (D.f 1).A.isNone = true then be 4 (-1) else be 4 (D.f 1).o.length ++ (D.f 1).o)) ++ ([])))
theorem Mu (v:Int) (D:DV) (b o:Nat) (A:Option Addr) (cp:Nat) (s:Bs) (w:World) (F:Nat → Nat → Prop) (hat:AtF w F b o [.int .i16 v,.slice ((D.f 0).A) ((D.f 0).l) ((D.f 0).c),.slice ((D.f 1).A) ((D.f 1).o.length) ((D.f 1).c)]) (hok:V6 w F D) (hF:∀ b o,F b o → ¬ G1 A b o) (ho:w.ownsRow 0 5 1 (.slice A s.length cp) s.length (bc s)) (hroom:s.length + (Y2 v D).length + 16 ≤ 1099511627776) :
  Calls Tryz.prog 54 [.pointer (some ⟨b,o,none⟩),.slice A s.length cp].toArray w (K9 w 5 A (s ++ Y2 v D)):=by
 unfold V6 at hok
 obtain ⟨⟨aw,g39l,g39e⟩,⟨ax,g40l⟩,_⟩:=hok
 refine EZ (n:=80) Tryz.func54 rfl Tryz.ntmps54 kz rfl ho hroom ?_
 unfold Y2
 let ak:Value:=.slice ((D.f 1).A) ((D.f 1).o.length) ((D.f 1).c)
 refine CC b o [.int .i16 v,.slice ((D.f 0).A) ((D.f 0).l) ((D.f 0).c),ak] hat hF kz kz ?_
 refine CD 0 0 0 b o (by simp) rfl rfl rfl ?_
 let ab:Nat × SV:=(0,.p 0 0)
 refine L1 (E7 (env':=[ab]) [0] (fun _ _ _=>by kernel_rfl)) ?_
 refine L1 (E7 (env':=[ab,(5,.v (.int .i16 v))]) [0,5] (fun _ _ _=>by kernel_rfl)) ?_
 refine L1 (E7 (env':=[ab]) [0] (fun _ _ _=>by kernel_rfl)) ?_
 refine N6 (e1:=[ab]) ?_ ?_
 ·
  refine H3 (E7 (env':=[ab,(6,.v (.int .i16 v))]) [0,6] (fun _ _ _=>by kernel_rfl)) ?_
  exact I8 (f:=87) (vs:=[.int .i16 v]) 2 [0] (fun _ _ _ _ _ _=>by kernel_rfl) kz Tryz.call87 (fun A cp s w _ _ ho hr=>DR A cp s v w ho (by omega))
 refine N6 (e1:=[ab]) ?_ ?_
 ·
  let ac:Nat × SV:=(7,.v (.slice ((D.f 0).A) ((D.f 0).l) ((D.f 0).c)))
  let al:C8:=[ab,ac]
  refine H3 (E7 (env':=al) [0,7] (fun _ _ _=>by kernel_rfl)) ?_
  refine U5 (e1:=al) ?_ ?_
  ·
   exact I8 (f:=71) (vs:=[.int .i64 (((D.f 0).l:Nat):Int)]) 3 [0,7] (fun _ _ _ _ _ _=>by kernel_rfl) kz Tryz.call71 (fun A cp s w _ _ ho hr=>Fm (D.f 0).l A cp s w ho hr)
  let ae:Nat × SV:=(36,.v (.int .i64 (((D.f 0).l:Nat):Int)))
  refine H3 (E7 (env':=[(37,.v (.int .i64 0)),ab,ac,ae]) [37,0,7,36] (fun _ _ _=>by kernel_rfl)) ?_
  refine Fq (e1:=[ab,ac,ae]) [0] (fun _ _ _=>by kernel_rfl) ?_
  refine EX (len:=(D.f 0).l) (xs:=fun af=>(be 2 (((D.f 0).f af).f 0).s.size ++ sb (((D.f 0).f af).f 0).s) ++ ((be 4 (((D.f 0).f af).f 1).l) ++ ((List.range (((D.f 0).f af).f 1).l).flatMap fun aj=>be 4 (((((D.f 0).f af).f 1).f aj).n)))) 37 38 [0,7,36] (fun _ _ _ _=>by kernel_rfl) (fun _ _ _ _=>by kernel_rfl) (fun _ _ _ _ _=>by kernel_rfl) (fun _ _ _ _ _=>by kernel_rfl) kz (Nat.le_trans g39l (by decide)) (fun af ar=>?_)
  let ag:Nat × SV:=(37,.v (.int .i64 ((af:Nat):Int)))
  refine H3 (E7 (env':=[ab,ac,(8,.v (.int .i64 ((af:Nat):Int))),ae,ag]) [0,7,8,36,37] (fun _ _ _=>by kernel_rfl)) ?_
  let am:C8:=[ab,ac,(9,.p 1 0),ae,ag]
  refine FO (t:=101) (e:=132) (size:=2) (bytes:=40) (len:=(D.f 0).l) (j:=af) (cs:=fun i=>[.string ((((D.f 0).f i).f 0).s),.slice ((((D.f 0).f i).f 1).A) ((((D.f 0).f i).f 1).l) ((((D.f 0).f i).f 1).c)]) (e1:=am) 2 [0,7,9,36,37] (fun _ _ _ _ _=>by kernel_rfl) kz kz aw ar hF kz kz kz fun bb1 oo1 hat1=>?_
  have av:=g39e af ar
  unfold S4 at av
  obtain ⟨aA,⟨ay,g44l,g44e⟩,_⟩:=av
  refine U5 (e1:=am) ?_ ?_
  ·
   refine H3 (E7 (env':=[ab,ac,(9,.p 1 0),(10,.v (.string ((((D.f 0).f af).f 0).s))),ae,ag]) [0,7,9,10,36,37] (fun _ _ _=>by kernel_rfl)) ?_
   exact I8 (f:=66) (vs:=[.string ((((D.f 0).f af).f 0).s)]) 2 [0,7,9,36,37] (fun _ _ _ _ _ _=>by kernel_rfl) kz Tryz.call66 (fun A cp s w _ _ ho hr=>CN (((D.f 0).f af).f 0).s A cp s w ho hr)
  let ah:Nat × SV:=(11,.v (.slice ((((D.f 0).f af).f 1).A) ((((D.f 0).f af).f 1).l) ((((D.f 0).f af).f 1).c)))
  let ao:C8:=[ab,ac,ah,ae,ag]
  refine H3 (E7 (env':=ao) [0,7,11,36,37] (fun _ _ _=>by kernel_rfl)) ?_
  refine U5 (e1:=ao) ?_ ?_
  ·
   exact I8 (f:=71) (vs:=[.int .i64 (((((D.f 0).f af).f 1).l:Nat):Int)]) 3 [0,7,11,36,37] (fun _ _ _ _ _ _=>by kernel_rfl) kz Tryz.call71 (fun A cp s w _ _ ho hr=>Fm (((D.f 0).f af).f 1).l A cp s w ho hr)
  let ai:Nat × SV:=(59,.v (.int .i64 (((((D.f 0).f af).f 1).l:Nat):Int)))
  refine H3 (E7 (env':=[(60,.v (.int .i64 0)),ab,ac,ah,ae,ag,ai]) [60,0,7,11,36,37,59] (fun _ _ _=>by kernel_rfl)) ?_
  refine Fq (e1:=[ab,ac,ah,ae,ag,ai]) [37,0,7,36] (fun _ _ _=>by kernel_rfl) ?_
  refine EX (len:=(((D.f 0).f af).f 1).l) (xs:=fun aj=>be 4 (((((D.f 0).f af).f 1).f aj).n)) 60 61 [0,7,11,36,37,59] (fun _ _ _ _=>by kernel_rfl) (fun _ _ _ _=>by kernel_rfl) (fun _ _ _ _ _=>by kernel_rfl) (fun _ _ _ _ _=>by kernel_rfl) kz (Nat.le_trans g44l (by decide)) (fun aj au=>?_)
  let ap:Nat × SV:=(60,.v (.int .i64 ((aj:Nat):Int)))
  refine H3 (E7 (env':=[ab,ac,ah,(12,.v (.int .i64 ((aj:Nat):Int))),ae,ag,ai,ap]) [0,7,11,12,36,37,59,60] (fun _ _ _=>by kernel_rfl)) ?_
  refine FO (t:=68) (e:=21) (size:=1) (bytes:=4) (len:=(((D.f 0).f af).f 1).l) (j:=aj) (cs:=fun i=>[.int .i32 (((((D.f 0).f af).f 1).f i).n)]) (e1:=[ab,ac,ah,(13,.v (.int .i32 (((((D.f 0).f af).f 1).f aj).n))),ae,ag,ai,ap]) 2 [0,7,11,13,36,37,59,60] (fun _ _ _ _ _=>by kernel_rfl) kz kz ay au hF kz kz kz fun bb2 oo2 hat2=>?_
  have aB:=g44e aj au
  exact I8 (f:=67) (vs:=[.int .i32 (((((D.f 0).f af).f 1).f aj).n)]) 2 [60,0,7,11,36,37,59] (fun _ _ _ _ _ _=>by kernel_rfl) kz Tryz.call67 (fun A cp s w _ _ ho hr=>BX A cp s (((((D.f 0).f af).f 1).f aj).n) w ho (by omega))
 refine N6 (e1:=[]) ?_ ?_
 ·
  refine H3 (E7 (env':=[(14,.v (.slice ((D.f 1).A) ((D.f 1).o.length) ((D.f 1).c)))]) [14] (fun _ _ _=>by kernel_rfl)) ?_
  exact I8 (f:=90) (vs:=[ak]) 2 [] (fun _ _ _ _ _ _=>by kernel_rfl) kz Tryz.call90 (fun A cp s w hs hA ho hr=>Mt (D.f 1).o (D.f 1).A (D.f 1).c (Lo F _) A cp s w ho (P0 hF hA) (ax.move hs (F8 hF) F9) g40l hr)
 exact EY (fun _ _ _=>by kernel_rfl)
def Cl (D:DV) (T:Tree):Prop:=((D.f 0).s = bs (T.at_ 0).S) ∧ ((D.f 1).A.isNone = (T.at_ 1).null ∧ (D.f 1).l = (lst (T.at_ 1)).length ∧ ∀ i,i < (D.f 1).l → ((D.f 1).f i).n = IntKind.i32.wrap ((lst (T.at_ 1)).getD i .zero).N) ∧ True
def Ek (D:DV) (T:Tree):Prop:=((D.f 0).A.isNone = (T.at_ 0).null ∧ (D.f 0).l = (lst (T.at_ 0)).length ∧ ∀ i,i < (D.f 0).l → Cl ((D.f 0).f i) ((lst (T.at_ 0)).getD i .zero)) ∧ ((D.f 1).o = B9 (T.at_ 1) ∧ (D.f 1).A.isNone = (T.at_ 1).null) ∧ True
def El (v:Int) (T:Tree):Bs:=((be 4 (lst (T.at_ 0)).length) ++ ((lst (T.at_ 0)).flatMap fun ab=>(be 2 (ab.at_ 0).S.length ++ (ab.at_ 0).S) ++ ((be 4 (lst (ab.at_ 1)).length) ++ ((lst (ab.at_ 1)).flatMap fun ac=>be 4 ((IntKind.i32.wrap ac.N)))))) ++ (((if (T.at_ 1).null = true then be 4 (-1) else be 4 (B9 (T.at_ 1)).length ++ (B9 (T.at_ 1)))) ++ ([]))
theorem Mv (v:Int) (D:DV) (T:Tree) (h:Ek D T):Y2 v D = be 2 v ++ El v T:=by
 unfold Ek at h
 obtain ⟨⟨r47n,r47l,r47e⟩,⟨ai,r48n⟩,_⟩:=h
 unfold Y2 El
 have aj:((List.range (D.f 0).l).flatMap fun ac=>(be 2 (((D.f 0).f ac).f 0).s.size ++ sb (((D.f 0).f ac).f 0).s) ++ ((be 4 (((D.f 0).f ac).f 1).l) ++ ((List.range (((D.f 0).f ac).f 1).l).flatMap fun af=>be 4 (((((D.f 0).f ac).f 1).f af).n)))) = ((lst (T.at_ 0)).flatMap fun ab=>(be 2 (ab.at_ 0).S.length ++ (ab.at_ 0).S) ++ ((be 4 (lst (ab.at_ 1)).length) ++ ((lst (ab.at_ 1)).flatMap fun ae=>be 4 ((IntKind.i32.wrap ae.N))))):=FP r47l fun ac hk=>by
  have ag:=r47e ac hk
  generalize (lst (T.at_ 0)).getD ac .zero = ab at ag ⊢
  unfold Cl at ag
  obtain ⟨ak,⟨r52n,r52l,r52e⟩,_⟩:=ag
  have al:((List.range (((D.f 0).f ac).f 1).l).flatMap fun af=>be 4 (((((D.f 0).f ac).f 1).f af).n)) = ((lst (ab.at_ 1)).flatMap fun ae=>be 4 ((IntKind.i32.wrap ae.N))):=FP r52l fun af hk=>by
   have ah:=r52e af hk
   generalize (lst (ab.at_ 1)).getD af .zero = ae at ah ⊢
   simp only [ah,Z7,M6]
  rw [al]
  simp only [ak,r52n,r52l,Z7,M6]
 rw [aj]
 simp only [r47n,r47l,ai,r48n,Z7,M6]
def sConsumerMemberAssignmentF:List Fld:=[(Fld.mk 11 0 (-1) (-1) (-1) 0 10 [(Fld.mk 8 0 (-1) (-1) (-1) 0 0 []),(Fld.mk 11 0 (-1) (-1) (-1) 0 3 [])]),(Fld.mk 9 0 (-1) (-1) (-1) 0 0 [])]
def Gp:Int:=-1
theorem Mw (w:World) (F:Nat → Nat → Prop):Calls Tryz.prog 30 #[] w (FF w F sConsumerMemberAssignmentF Gp):=by
 refine enter (n:=6) Tryz.func30 rfl Tryz.ntmps30 kz fun a hE=>?_
 have hW:=WOk.start w B5
 refine B8 [0] kz ?_
 let ae:Value:=.slice none 0 0
 let ac:Value:=.int .i64 0
 refine B1 (D7 hW hE (d:=0) (cs:=[ae,ac]) kz fun b1 a2 w3 hb4 hz5 hF6 hW7 hE8=>?_)
 refine B4 (A7 ?_)
 refine B8 [0,1,2,3,4,5] kz ?_
 refine B1 (L6 hE8 (f:=52) (vs:=[]) (d:=1) (n':=4) kz Tryz.call52 Tryz.func52 rfl Tryz.ntmps52 kz fun a9 ar=>?_)
 refine C1 [] hW7 ar fun aN au=>?_
 refine B8 [0,1,2,3] kz ?_
 let ab:Value:=.int .i64 (-1)
 let af:Value:=.int .i64 11
 refine B3 [0,1] [2,3] [(1,.v (.agg #[.int .i64 8,ac,ab,ab,ab,ac,ac,ae])),(2,.v (.agg #[af,ac,ab,ab,ab,ac,.int .i64 3,ae]))] hW7 au fun aO av=>?_
 refine B1 (G4 hW7 av (e:=66) (size:=8) (len:=2) (cs:=[.int .i64 8,ac,ab,ab,ab,ac,ac,ae,af,ac,ab,ab,ab,ac,.int .i64 3,ae]) (d:=3) kz kz fun ap aP aQ aF aG aH ai aw=>?_)
 refine B3 [3] [] [(0,.v (.slice (some ⟨ap,0,none⟩) 2 2))] ai aw fun aR ax=>?_
 refine B4 (A7 ?_)
 refine wp_ret (D5 ax ai.cells (v:=.slice (some ⟨ap,0,none⟩) 2 2) kz ?_)
 refine ⟨_,rfl,fun aS ay=>?_⟩
 have aA:EnvOk 6 [⟨b1,0,[ae,ac],true⟩] [(1,.v (.slice (some ⟨ap,0,none⟩) 2 2)),(0,.p 0 0)] _:=ay.places (⟨rfl,rfl,trivial⟩)
 let ag:Value:=.slice (some ⟨ap,0,none⟩) 2 2
 refine B3 [1,2] [3,4,5] [(0,.p 0 0),(2,.v (.agg #[af,ac,ab,ab,ab,ac,.int .i64 10,ag])),(3,.v (.agg #[.int .i64 9,ac,ab,ab,ab,ac,ac,ae]))] ai aA fun aT aB=>?_
 refine B1 (G4 ai aB (e:=66) (size:=8) (len:=2) (cs:=[af,ac,ab,ab,ab,ac,.int .i64 10,ag,.int .i64 9,ac,ab,ab,ab,ac,ac,ae]) (d:=4) kz kz fun aI aU aV aJ aK aL ao aC=>?_)
 let ah:Value:=.slice (some ⟨aI,0,none⟩) 2 2
 refine B3 [4] [5] [(0,.p 0 0),(5,.v (.agg #[ah,ab]))] ao aC fun aW aD=>?_
 refine B1 (C7 ao aD (oi:=0) (cs:=[ah,ab]) kz fun am aM aj aE=>?_)
 refine B4 (A7 ?_)
 refine wp_ret (D5 aE aj.cells (v:=.agg #[ah,ab]) kz ?_)
 have ak:=Flds.slots (F:=F) aj (k:=0) (n:=2) (xs:=[.int .i64 8,ac,ab,ab,ab,ac,ac,ae,af,ac,ab,ab,ab,ac,.int .i64 3,ae]) rfl (Flds.snoc (Flds.snoc (Flds.nil _ _) (c:=[.int .i64 8,ac,ab,ab,ab,ac,ac,ae]) (x:=(Fld.mk 8 0 (-1) (-1) (-1) 0 0 [])) (FldR.mk (l:=[]) _ (J3 am (Fp F w)).1 (J3 am (Fp F w)).2)) (c:=[af,ac,ab,ab,ab,ac,.int .i64 3,ae]) (x:=(Fld.mk 11 0 (-1) (-1) (-1) 0 3 [])) (FldR.mk (l:=[]) _ (J3 am (Fp F w)).1 (J3 am (Fp F w)).2)) rfl (by decide)
 have al:=Flds.slots (F:=F) aj (k:=1) (n:=2) (xs:=[af,ac,ab,ab,ab,ac,.int .i64 10,ag,.int .i64 9,ac,ab,ab,ab,ac,ac,ae]) rfl (Flds.snoc (Flds.snoc (Flds.nil _ _) (c:=[af,ac,ab,ab,ab,ac,.int .i64 10,ag]) (x:=(Fld.mk 11 0 (-1) (-1) (-1) 0 10 [(Fld.mk 8 0 (-1) (-1) (-1) 0 0 []),(Fld.mk 11 0 (-1) (-1) (-1) 0 3 [])])) (FldR.mk (l:=[(Fld.mk 8 0 (-1) (-1) (-1) 0 0 []),(Fld.mk 11 0 (-1) (-1) (-1) 0 3 [])]) _ ak.1 ak.2)) (c:=[.int .i64 9,ac,ab,ab,ab,ac,ac,ae]) (x:=(Fld.mk 9 0 (-1) (-1) (-1) 0 0 [])) (FldR.mk (l:=[]) _ (J3 am (Fp F w)).1 (J3 am (Fp F w)).2)) rfl (by decide)
 exact ⟨_,_,rfl,⟨_,al.1,al.2⟩,aj.step⟩
def sSyncGroupRequestF:List Fld:=[(Fld.mk 8 0 (-1) (-1) (-1) 0 0 []),(Fld.mk 3 0 (-1) (-1) (-1) 0 0 []),(Fld.mk 8 0 (-1) (-1) (-1) 0 0 []),(Fld.mk 8 3 (-1) 3 (-1) 0 0 []),(Fld.mk 8 5 (-1) 5 (-1) 0 0 []),(Fld.mk 8 5 (-1) 5 (-1) 0 0 []),(Fld.mk 11 0 (-1) (-1) (-1) 0 10 [(Fld.mk 8 0 (-1) (-1) (-1) 0 0 []),(Fld.mk 9 0 (-1) (-1) (-1) 0 0 [])])]
def C4:Int:=4
theorem Mx (w:World) (F:Nat → Nat → Prop):Calls Tryz.prog 7 #[] w (FF w F sSyncGroupRequestF C4):=by
 refine enter (n:=11) Tryz.func7 rfl Tryz.ntmps7 kz fun a hE=>?_
 have hW:=WOk.start w B5
 refine B8 [0] kz ?_
 let ae:Value:=.slice none 0 0
 let ac:Value:=.int .i64 0
 refine B1 (D7 hW hE (d:=0) (cs:=[ae,ac]) kz fun b1 a2 w3 hb4 hz5 hF6 hW7 hE8=>?_)
 refine B4 (A7 ?_)
 refine B8 [0,1,2,3,4,5,6,7,8,9,10] kz ?_
 let af:Value:=.int .i64 8
 let ab:Value:=.int .i64 (-1)
 let aO:Value:=(.agg #[.int .i64 8,.int .i64 0,.int .i64 (-1),.int .i64 (-1),.int .i64 (-1),.int .i64 0,.int .i64 0,.slice none 0 0])
 let aj:Nat × SV:=(1,.v (.agg #[af,ac,ab,ab,ab,ac,ac,ae]))
 let ah:Value:=.int .i64 3
 let al:Nat × SV:=(2,.v (.agg #[ah,ac,ab,ab,ab,ac,ac,ae]))
 let am:Nat × SV:=(3,.v (.agg #[af,ac,ab,ab,ab,ac,ac,ae]))
 let ao:Nat × SV:=(4,.v (.agg #[af,ah,ab,ah,ab,ac,ac,ae]))
 let ag:Value:=.int .i64 5
 let aP:Value:=(.agg #[.int .i64 8,.int .i64 5,.int .i64 (-1),.int .i64 5,.int .i64 (-1),.int .i64 0,.int .i64 0,.slice none 0 0])
 let ap:Nat × SV:=(5,.v (.agg #[af,ag,ab,ag,ab,ac,ac,ae]))
 let ar:Nat × SV:=(6,.v (.agg #[af,ag,ab,ag,ab,ac,ac,ae]))
 refine B3 [0,1,2,3,4,5] [6,7,8,9,10] [(0,.p 0 0),aj,al,am,ao,ap,ar] hW7 hE8 fun a9 aC=>?_
 refine B1 (L6 aC (f:=29) (vs:=[]) (d:=7) (n':=4) kz Tryz.call29 Tryz.func29 rfl Tryz.ntmps29 kz fun aY aD=>?_)
 refine C1 [] hW7 aD fun aZ aE=>?_
 refine B8 [0,1,2,3] kz ?_
 refine B3 [0,1] [2,3] [aj,(2,.v (.agg #[.int .i64 9,ac,ab,ab,ab,ac,ac,ae]))] hW7 aE fun ba aF=>?_
 refine B1 (G4 hW7 aF (e:=66) (size:=8) (len:=2) (cs:=[af,ac,ab,ab,ab,ac,ac,ae,.int .i64 9,ac,ab,ab,ab,ac,ac,ae]) (d:=3) kz kz fun aB bd bf aQ aR aS av aG=>?_)
 refine B3 [3] [] [(0,.v (.slice (some ⟨aB,0,none⟩) 2 2))] av aG fun bg aH=>?_
 refine B4 (A7 ?_)
 refine wp_ret (D5 aH av.cells (v:=.slice (some ⟨aB,0,none⟩) 2 2) kz ?_)
 refine ⟨_,rfl,fun bh aI=>?_⟩
 have aJ:EnvOk 11 [⟨b1,0,[ae,ac],true⟩] [(7,.v (.slice (some ⟨aB,0,none⟩) 2 2)),(0,.p 0 0),aj,al,am,ao,ap,ar] _:=aI.places (⟨rfl,rfl,trivial⟩)
 let ak:Value:=.slice (some ⟨aB,0,none⟩) 2 2
 refine B3 [7] [8,9,10] [(0,.p 0 0),aj,al,am,ao,ap,ar,(8,.v (.agg #[.int .i64 11,ac,ab,ab,ab,ac,.int .i64 10,ak]))] av aJ fun bi aK=>?_
 refine B1 (G4 av aK (e:=66) (size:=8) (len:=7) (cs:=[af,ac,ab,ab,ab,ac,ac,ae,ah,ac,ab,ab,ab,ac,ac,ae,af,ac,ab,ab,ab,ac,ac,ae,af,ah,ab,ah,ab,ac,ac,ae,af,ag,ab,ag,ab,ac,ac,ae,af,ag,ab,ag,ab,ac,ac,ae,.int .i64 11,ac,ab,ab,ab,ac,.int .i64 10,ak]) (d:=9) kz kz fun aT bj bk aU aV aW aA aL=>?_)
 let au:Value:=.slice (some ⟨aT,0,none⟩) 7 7
 refine B3 [9] [10] [(0,.p 0 0),(10,.v (.agg #[au,.int .i64 4]))] aA aL fun bn aM=>?_
 refine B1 (C7 aA aM (oi:=0) (cs:=[au,.int .i64 4]) kz fun ai aX aw aN=>?_)
 refine B4 (A7 ?_)
 refine wp_ret (D5 aN aw.cells (v:=.agg #[au,.int .i64 4]) kz ?_)
 have ax:=Flds.slots (F:=F) aw (k:=0) (n:=2) (xs:=[af,ac,ab,ab,ab,ac,ac,ae,.int .i64 9,ac,ab,ab,ab,ac,ac,ae]) rfl (Flds.snoc (Flds.snoc (Flds.nil _ _) (c:=[af,ac,ab,ab,ab,ac,ac,ae]) (x:=(Fld.mk 8 0 (-1) (-1) (-1) 0 0 [])) (FldR.mk (l:=[]) _ (J3 ai (Fp F w)).1 (J3 ai (Fp F w)).2)) (c:=[.int .i64 9,ac,ab,ab,ab,ac,ac,ae]) (x:=(Fld.mk 9 0 (-1) (-1) (-1) 0 0 [])) (FldR.mk (l:=[]) _ (J3 ai (Fp F w)).1 (J3 ai (Fp F w)).2)) rfl (by decide)
 have ay:=Flds.slots (F:=F) aw (k:=1) (n:=7) (xs:=[af,ac,ab,ab,ab,ac,ac,ae,ah,ac,ab,ab,ab,ac,ac,ae,af,ac,ab,ab,ab,ac,ac,ae,af,ah,ab,ah,ab,ac,ac,ae,af,ag,ab,ag,ab,ac,ac,ae,af,ag,ab,ag,ab,ac,ac,ae,.int .i64 11,ac,ab,ab,ab,ac,.int .i64 10,ak]) rfl (Flds.snoc (Flds.snoc (Flds.snoc (Flds.snoc (Flds.snoc (Flds.snoc (Flds.snoc (Flds.nil _ _) (c:=[af,ac,ab,ab,ab,ac,ac,ae]) (x:=(Fld.mk 8 0 (-1) (-1) (-1) 0 0 [])) (FldR.mk (l:=[]) _ (J3 ai (Fp F w)).1 (J3 ai (Fp F w)).2)) (c:=[ah,ac,ab,ab,ab,ac,ac,ae]) (x:=(Fld.mk 3 0 (-1) (-1) (-1) 0 0 [])) (FldR.mk (l:=[]) _ (J3 ai (Fp F w)).1 (J3 ai (Fp F w)).2)) (c:=[af,ac,ab,ab,ab,ac,ac,ae]) (x:=(Fld.mk 8 0 (-1) (-1) (-1) 0 0 [])) (FldR.mk (l:=[]) _ (J3 ai (Fp F w)).1 (J3 ai (Fp F w)).2)) (c:=[af,ah,ab,ah,ab,ac,ac,ae]) (x:=(Fld.mk 8 3 (-1) 3 (-1) 0 0 [])) (FldR.mk (l:=[]) _ (J3 ai (Fp F w)).1 (J3 ai (Fp F w)).2)) (c:=[af,ag,ab,ag,ab,ac,ac,ae]) (x:=(Fld.mk 8 5 (-1) 5 (-1) 0 0 [])) (FldR.mk (l:=[]) _ (J3 ai (Fp F w)).1 (J3 ai (Fp F w)).2)) (c:=[af,ag,ab,ag,ab,ac,ac,ae]) (x:=(Fld.mk 8 5 (-1) 5 (-1) 0 0 [])) (FldR.mk (l:=[]) _ (J3 ai (Fp F w)).1 (J3 ai (Fp F w)).2)) (c:=[.int .i64 11,ac,ab,ab,ab,ac,.int .i64 10,ak]) (x:=(Fld.mk 11 0 (-1) (-1) (-1) 0 10 [(Fld.mk 8 0 (-1) (-1) (-1) 0 0 []),(Fld.mk 9 0 (-1) (-1) (-1) 0 0 [])])) (FldR.mk (l:=[(Fld.mk 8 0 (-1) (-1) (-1) 0 0 []),(Fld.mk 9 0 (-1) (-1) (-1) 0 0 [])]) _ ax.1 ax.2)) rfl (by decide)
 exact ⟨_,_,rfl,⟨_,ay.1,ay.2⟩,aw.step⟩
def sSyncGroupResponseF:List Fld:=[(Fld.mk 3 1 (-1) (-1) (-1) 0 0 []),(Fld.mk 2 0 (-1) (-1) (-1) 0 0 []),(Fld.mk 8 5 (-1) 5 (-1) 0 0 []),(Fld.mk 8 5 (-1) 5 (-1) 0 0 []),(Fld.mk 9 0 (-1) (-1) (-1) 0 0 [])]
def C5:Int:=4
theorem My (w:World) (F:Nat → Nat → Prop):Calls Tryz.prog 8 #[] w (FF w F sSyncGroupResponseF C5):=by
 refine enter (n:=8) Tryz.func8 rfl Tryz.ntmps8 kz fun a hE=>?_
 have hW:=WOk.start w B5
 refine B8 [0] kz ?_
 let ae:Value:=.slice none 0 0
 let ac:Value:=.int .i64 0
 refine B1 (D7 hW hE (d:=0) (cs:=[ae,ac]) kz fun b1 a2 w3 hb4 hz5 hF6 hW7 hE8=>?_)
 refine B4 (A7 ?_)
 refine B8 [0,1,2,3,4,5,6,7] kz ?_
 let ab:Value:=.int .i64 (-1)
 let ag:Value:=.int .i64 8
 let af:Value:=.int .i64 5
 let au:Value:=(.agg #[.int .i64 8,.int .i64 5,.int .i64 (-1),.int .i64 5,.int .i64 (-1),.int .i64 0,.int .i64 0,.slice none 0 0])
 refine B3 [0,1,2,3,4] [5,6,7] [(0,.p 0 0),(1,.v (.agg #[.int .i64 3,.int .i64 1,ab,ab,ab,ac,ac,ae])),(2,.v (.agg #[.int .i64 2,ac,ab,ab,ab,ac,ac,ae])),(3,.v (.agg #[ag,af,ab,af,ab,ac,ac,ae])),(4,.v (.agg #[ag,af,ab,af,ab,ac,ac,ae])),(5,.v (.agg #[.int .i64 9,ac,ab,ab,ab,ac,ac,ae]))] hW7 hE8 fun a9 am=>?_
 refine B1 (G4 hW7 am (e:=66) (size:=8) (len:=5) (cs:=[.int .i64 3,.int .i64 1,ab,ab,ab,ac,ac,ae,.int .i64 2,ac,ab,ab,ab,ac,ac,ae,ag,af,ab,af,ab,ac,ac,ae,ag,af,ab,af,ab,ac,ac,ae,.int .i64 9,ac,ab,ab,ab,ac,ac,ae]) (d:=6) kz kz fun av aB aC aw ax ay al ao=>?_)
 let ah:Value:=.slice (some ⟨av,0,none⟩) 5 5
 refine B3 [6] [7] [(0,.p 0 0),(7,.v (.agg #[ah,.int .i64 4]))] al ao fun aD ap=>?_
 refine B1 (C7 al ap (oi:=0) (cs:=[ah,.int .i64 4]) kz fun ai aA ak ar=>?_)
 refine B4 (A7 ?_)
 refine wp_ret (D5 ar ak.cells (v:=.agg #[ah,.int .i64 4]) kz ?_)
 have aj:=Flds.slots (F:=F) ak (k:=0) (n:=5) (xs:=[.int .i64 3,.int .i64 1,ab,ab,ab,ac,ac,ae,.int .i64 2,ac,ab,ab,ab,ac,ac,ae,ag,af,ab,af,ab,ac,ac,ae,ag,af,ab,af,ab,ac,ac,ae,.int .i64 9,ac,ab,ab,ab,ac,ac,ae]) rfl (Flds.snoc (Flds.snoc (Flds.snoc (Flds.snoc (Flds.snoc (Flds.nil _ _) (c:=[.int .i64 3,.int .i64 1,ab,ab,ab,ac,ac,ae]) (x:=(Fld.mk 3 1 (-1) (-1) (-1) 0 0 [])) (FldR.mk (l:=[]) _ (J3 ai (Fp F w)).1 (J3 ai (Fp F w)).2)) (c:=[.int .i64 2,ac,ab,ab,ab,ac,ac,ae]) (x:=(Fld.mk 2 0 (-1) (-1) (-1) 0 0 [])) (FldR.mk (l:=[]) _ (J3 ai (Fp F w)).1 (J3 ai (Fp F w)).2)) (c:=[ag,af,ab,af,ab,ac,ac,ae]) (x:=(Fld.mk 8 5 (-1) 5 (-1) 0 0 [])) (FldR.mk (l:=[]) _ (J3 ai (Fp F w)).1 (J3 ai (Fp F w)).2)) (c:=[ag,af,ab,af,ab,ac,ac,ae]) (x:=(Fld.mk 8 5 (-1) 5 (-1) 0 0 [])) (FldR.mk (l:=[]) _ (J3 ai (Fp F w)).1 (J3 ai (Fp F w)).2)) (c:=[.int .i64 9,ac,ab,ab,ab,ac,ac,ae]) (x:=(Fld.mk 9 0 (-1) (-1) (-1) 0 0 [])) (FldR.mk (l:=[]) _ (J3 ai (Fp F w)).1 (J3 ai (Fp F w)).2)) rfl (by decide)
 exact ⟨_,_,rfl,⟨_,aj.1,aj.2⟩,ak.step⟩
def Cm (T:Tree):Prop:=((T.at_ 0).S.length ≤ 32767) ∧ ((lst (T.at_ 1)).length ≤ 32767) ∧ True
def Bc (T:Tree):Prop:=((lst (T.at_ 0)).length ≤ 32767 ∧ ∀ x ∈ lst (T.at_ 0),Cm x) ∧ ((B9 (T.at_ 1)).length ≤ 32767) ∧ True
abbrev z7 :=(Fld.mk 10 0 (-1) (-1) (-1) 0 10 [(Fld.mk 8 0 (-1) (-1) (-1) 0 0 []),(Fld.mk 11 0 (-1) (-1) (-1) 0 3 [])])
theorem Jo (v:Int) (t:Tree):Bc (C2 v 8 sConsumerMemberAssignmentF t):=by
 unfold Bc
 exact ⟨(⟨FS (d:=7) (show sConsumerMemberAssignmentF[0]? = _ from rfl),IS (d:=7) (Q:=Cm) (show sConsumerMemberAssignmentF[0]? = _ from rfl) fun y=>by
   have h:=fit_10 (v:=v) (d:=7) (x1:=0) (x2:=-1) (x5:=0) (x6:=10) (s:=[(Fld.mk 8 0 (-1) (-1) (-1) 0 0 []),(Fld.mk 11 0 (-1) (-1) (-1) 0 3 [])]) (b:=Fld.nul z7 v y) (x:=y)
   unfold Cm
   simp only [h.1,h.2]
   exact ⟨(by rw [CQ (d:=6) (show [(Fld.mk 8 0 (-1) (-1) (-1) 0 0 []),(Fld.mk 11 0 (-1) (-1) (-1) 0 3 [])][0]? = _ from rfl) (by decide)]; exact Nat.le_trans (X4 _) (by decide)),(FS (d:=6) (show [(Fld.mk 8 0 (-1) (-1) (-1) 0 0 []),(Fld.mk 11 0 (-1) (-1) (-1) 0 3 [])][1]? = _ from rfl)),(trivial)⟩⟩),(Z8 (d:=7) (show sConsumerMemberAssignmentF[1]? = _ from rfl) (by decide)),(trivial)⟩
theorem Gq (ct:List Value) (t:Tree) (w:World) (F:Nat → Nat → Prop) (ht:TreeR w F ct t):Calls Tryz.prog 86 #[.agg ct.toArray] w (fun e w'=>∃ A c,e = .returned (.slice A (B9 t).length c) ∧ Octs w' (Fp F w) A c (B9 t) ∧ A.isNone = t.null ∧ Step w w' B5):=by
 obtain ⟨n,s,b,l,u,A1,c1,A2,c2,A3,c3,xs,rfl,rfl,h1,h2,h3,h4⟩:=ht.open_
 have hsm:=h1.small
 refine enter (n:=9) (vs:=[.agg #[.int .i64 n,.slice A1 s.length c1,.bool b,.slice A2 l.length c2,.slice A3 u.length c3]]) Tryz.func86 rfl Tryz.ntmps86 kz fun a hE=>?_
 have hW:=WOk.start w B5
 refine B8 [0,1] kz ?_
 refine B1 (J1 hW hE (d:=1) (cs:=[.int .i64 n,.slice A1 s.length c1,.bool b,.slice A2 l.length c2,.slice A3 u.length c3]) kz fun b1 a1 w1 hb hb0 hF1 hW1 hE1=>?_)
 refine F0 [1] [] [1] hW1 hE1 (env':=[(1,.p 0 0)]) kz rfl fun a2 hE2=>B4 (A7 ?_)
 refine wp_seq (wp_seq ?_)
 refine D9 [0,1] kz (F0 [0,1] [] [1,4] hW1 hE2 (env':=[(1,.p 0 0),(4,.v (.bool b))]) kz rfl fun a3 hE3=>B4 (A7 ?_))
 refine D8 hE3 (b:=b) kz (fun hb=>?_) (fun hb=>?_)
 ·subst hb
  refine B8 [0] kz (F0 [0] [] [2] hW1 hE3 (env':=[(2,.v (.slice none 0 0))]) kz rfl fun a4 hE4=>B4 (A7 (wp_ret (F5 ?_))))
  exact D5 hE4 hW1.cells (v:=.slice none 0 0) kz ⟨none,0,rfl,Octs.nil _ _,rfl,hW1.step⟩
 subst hb
 refine wp_skip (A7 ?_)
 refine B8 [0,1,2,3,4] kz ?_
 refine B1 (G4 hW1 hE3 (e:=5) (size:=1) (len:=0) (cs:=[]) (d:=5) kz kz fun g a4 w2 hg hg0 hF2 hW2 hE4=>?_)
 refine F0 [1,2] [3,4] [5,7] hW2 hE4 (env':=[(5,.v (.slice (some ⟨g,0,none⟩) 0 0)),(7,.v (.slice A1 s.length c1))]) kz rfl fun a5 hE5=>?_
 refine B1 (LF hW2 hE5 (k:=0) (t:=30) (bytes:=1) (d:=8) kz kz rfl (h1.move hW2.step B0 E6) (by omega) fun A' c' a6 w3 hne hF3 hW3 hE6=>?_)
 refine F0 [4] [] [2] hW3 hE6 (env':=[(2,.v (.slice A' s.length c'))]) kz rfl fun a7 hE7=>B4 (A7 (wp_ret ?_))
 refine D5 hE7 hW3.cells (v:=.slice A' s.length c') kz ⟨A',c',rfl,?_,?_,hW3.step⟩
 ·refine BT (hW3.own 0 _ rfl) hsm fun g' hg' o=>.inr ?_
  rcases hW3.ownM 0 _ rfl g' hg' with h | h
  ·exact h
  exact (h 0).elim
 cases A' with
 | none=>exact absurd rfl hne
 | some _=>rfl
theorem Db (ct:List Value) (t:Tree) (w:World) (F:Nat → Nat → Prop) (ht:TreeR w F ct t):Calls Tryz.prog 62 #[.agg ct.toArray] w (fun e w'=>∃ A,e = .returned (.pointer A) ∧ (∀ ad,A = some ad → ∃ b o,ad = ⟨b,o,none⟩ ∧ AtF w' (Fp F w) b o [.string (bs (B9 t))]) ∧ A.isNone = t.null ∧ Step w w' B5):=by
 obtain ⟨n,s,b,l,u,A1,c1,A2,c2,A3,c3,xs,rfl,rfl,h1,h2,h3,h4⟩:=ht.open_
 have hsm:=h1.small
 refine enter (n:=9) (vs:=[.agg #[.int .i64 n,.slice A1 s.length c1,.bool b,.slice A2 l.length c2,.slice A3 u.length c3]]) Tryz.func62 rfl Tryz.ntmps62 kz fun a hE=>?_
 have hW:=WOk.start w B5
 refine B8 [0,1] kz ?_
 refine B1 (J1 hW hE (d:=1) (cs:=[.int .i64 n,.slice A1 s.length c1,.bool b,.slice A2 l.length c2,.slice A3 u.length c3]) kz fun b1 a1 w1 hb hb0 hF1 hW1 hE1=>?_)
 refine F0 [1] [] [1] hW1 hE1 (env':=[(1,.p 0 0)]) kz rfl fun a2 hE2=>B4 (A7 ?_)
 refine wp_seq (wp_seq ?_)
 refine D9 [0,1] kz (F0 [0,1] [] [1,5] hW1 hE2 (env':=[(1,.p 0 0),(5,.v (.bool b))]) kz rfl fun a3 hE3=>B4 (A7 ?_))
 refine D8 hE3 (b:=b) kz (fun hb=>?_) (fun hb=>?_)
 ·subst hb
  refine B8 [0] kz (F0 [0] [] [2] hW1 hE3 (env':=[(2,.v (.pointer none))]) kz rfl fun a4 hE4=>B4 (A7 (wp_ret (F5 ?_))))
  exact D5 hE4 hW1.cells (v:=.pointer none) kz ⟨none,rfl,(fun ad h=>by cases h),rfl,hW1.step⟩
 subst hb
 refine wp_skip (A7 ?_)
 refine B8 [0,1,2,3,4] kz ?_
 refine F0 [0,1] [2,3,4] [7] hW1 hE3 (env':=[(7,.v (.slice A1 s.length c1))]) kz rfl fun a4 hE4=>?_
 refine B1 (V2 hE4 (src:=30) (dst:=9) (e:=5) (d:=8) kz kz kz kz (h1.move hW1.step B0 E6) fun a5 hE5=>?_)
 refine B1 (D7 hW1 hE5 (d:=3) (cs:=[.string ByteArray.empty]) kz fun b2 a6 w2 hb2 ab hF2 hW2 hE6=>?_)
 refine B1 (C7 hW2 hE6 (oi:=1) (cs:=[.string (bs s)]) kz fun w3 hF3 hW3 hE7=>B4 (A7 ?_))
 refine B8 [0] kz (F0 [0] [] [2] hW3 hE7 (env':=[(2,.p 1 0)]) kz rfl fun a7 hE8=>B4 (A7 (wp_ret ?_)))
 refine D5 hE8 hW3.cells (v:=.pointer (some ⟨b2,0,none⟩)) kz ⟨some ⟨b2,0,none⟩,rfl,fun ad h=>?_,rfl,hW3.step⟩
 obtain rfl:=Option.some.inj h
 exact ⟨b2,0,rfl,fun j v hj=>⟨.inr ab,hW3.cells 1 _ rfl j v hj⟩⟩
def Dc (d:DV):List Value:=[.string ((d.f 0).s),.slice ((d.f 1).A) ((d.f 1).l) ((d.f 1).c)]
theorem Mz:∀ d,∀ u ∈ Dc d,u.oneCell' = true:=fun d=>K6 kz
theorem U0:O1 S4:=by
 intro w w' F F' M d hs hM hF h
 unfold S4 at h ⊢
 obtain ⟨g0,⟨g1,g1l,g1e⟩,_⟩:=h
 exact ⟨g0,⟨g1.move hs hM hF,g1l,g1e⟩,trivial⟩
set_option maxHeartbeats 4000000 in
theorem MA (ct:List Value) (t:Tree) (w:World) (F:Nat → Nat → Prop) (ht:TreeR w F ct t) (hc:Cm t) :
  Calls Tryz.prog 89 #[.agg ct.toArray] w (fun e w'=>∃ D:DV,e = .returned (.agg #[.string ((D.f 0).s),.slice ((D.f 1).A) ((D.f 1).l) ((D.f 1).c)]) ∧ S4 w' (Fp F w) D ∧ Cl D t ∧ Step w w' B5):=by
 obtain ⟨n1,s2,b3,l4,u5,A6,c7,A8,c9,db,dc,eE,rfl,rfl,eF,eG,gv,gw⟩:=ht.open_
 have dZ:=eF.small
 have d5:=eG.small
 unfold Cm at hc
 obtain ⟨cj0,cj1,_⟩:=hc
 replace cj0:=Nat.le_trans cj0 (show 32767 ≤ 1000000 by decide)
 replace cj1:=Nat.le_trans cj1 (show 32767 ≤ 1000000 by decide)
 refine enter (n:=39) Tryz.func89 rfl Tryz.ntmps89 kz fun a hE=>?_
 have hW:=WOk.start w B5
 refine B8 [0,1] kz ?_
 let ag:Value:=.int .i64 n1
 let ah:Value:=.slice A6 s2.length c7
 let ai:Value:=.bool b3
 let aj:Value:=.slice A8 l4.length c9
 let ak:Value:=.slice db u5.length dc
 refine B1 (J1 hW hE (d:=1) (cs:=[ag,ah,ai,aj,ak]) kz fun eH gy gz eI eJ eK de df=>?_)
 let aG:Value:=.string ByteArray.empty
 let ao:Value:=.slice none 0 0
 refine B1 (D7 de df (d:=2) (cs:=[aG,ao]) kz fun eM gA gB eN eO eP dg dh=>?_)
 refine B4 (A7 ?_)
 refine B8 [0] kz ?_
 refine B1 (D7 dg dh (d:=3) (cs:=[aG,ao]) kz fun bP gC gD eQ eR eS aE di=>?_)
 refine B4 (A7 ?_)
 refine B8 [0,1,2,3,4,5] kz ?_
 let am:Nat × SV:=(1,.p 0 0)
 let ab:Nat × SV:=(2,.p 1 0)
 let ac:Nat × SV:=(3,.p 2 0)
 let d6:Value:=(.agg #[.int .i64 n1,.slice A6 s2.length c7,.bool b3,.slice A8 l4.length c9,.slice db u5.length dc])
 refine B3 [0] [1,2,3,4,5] [am,ab,ac,(6,.v (.agg #[ag,ah,ai,aj,ak]))] aE di fun gE dj=>?_
 let d7:Value:=.agg #[.int .i64 n1,.slice A6 s2.length c7,.bool b3,.slice A8 l4.length c9,.slice db u5.length dc]
 refine B1 (C3 dj (f:=61) (vs:=[.agg #[ag,ah,ai,aj,ak],.int .i64 0]) (d:=7) kz Tryz.call61 (M8 _ _ 0 _ _ (ht.move aE.step B0 aE.imm)) ?_)
 rintro e_ gF ⟨eU,rfl,dl,aH⟩
 have bQ:=dl.move aH B0 (fun b o h_ hb_=>aE.laid (G:=F) aH b o (.inl h_) (Nat.lt_of_lt_of_le hb_ aH.size))
 obtain ⟨gG,bR,gH,gI,gJ,eV,eW,gK,gL,gM,gN,eX,bS,bj,d8,eY,gO,gP⟩:=bQ.open_
 rw [bj] at bQ
 have d9:=d8.small
 have ea:=eY.small
 rw [bj]
 refine ⟨_,rfl,fun gQ dm=>?_⟩
 have bM:=aE.next_nil aH
 have eZ:=aE.frN aH
 refine B3 [2] [3,4,5] [am,ab,ac,(8,.v (.slice eV bR.length eW))] bM dm fun gR dn=>?_
 refine B1 (V2 dn (src:=30) (dst:=9) (e:=5) (d:=9) kz kz kz kz d8 fun gS dp=>?_)
 refine B3 [4] [5] [am,ab,ac,(9,.v (.string (bs bR))),(10,.p 2 0)] bM dp fun gT dq=>?_
 let af:Value:=.string (bs bR)
 refine B1 (C7 bM dq (oi:=2) (cs:=[af,ao]) kz fun gU e9 aF dr=>?_)
 refine B4 (A7 ?_)
 refine wp_seq (B8 [0,1,2,3] kz ?_)
 refine B3 [0] [1,2,3] [am,ab,ac,(11,.v (.agg #[ag,ah,ai,aj,ak]))] aF dr fun gV dt=>?_
 refine B1 (C3 dt (f:=61) (vs:=[.agg #[ag,ah,ai,aj,ak],.int .i64 1]) (d:=12) kz Tryz.call61 (M8 _ _ 1 _ _ (ht.move aF.step B0 aF.imm)) ?_)
 rintro e_ gW ⟨fa,rfl,du,aI⟩
 have bT:=du.move aI B0 (fun b o h_ hb_=>aF.laid (G:=F) aI b o (.inl h_) (Nat.lt_of_lt_of_le hb_ aI.size))
 obtain ⟨gX,gY,da,gZ,g9,hC,hJ,fb,fe,ff,fg,eb,bk,aJ,dv,dw,fh,fi⟩:=bT.open_
 rw [aJ] at bT
 have dx:=dv.small
 have dy:=dw.small
 rw [aJ]
 refine ⟨_,rfl,fun fj bU=>?_⟩
 have al:=aF.next_nil aI
 have ec:=aF.frN aI
 refine B3 [2,3] [] [am,ab,ac,(14,.v (.bool (!da)))] al bU fun fk aK=>?_
 refine B4 (A7 ?_)
 let ar:Ob:=⟨eH,0,[ag,ah,ai,aj,ak],true⟩
 let au:Ob:=⟨eM,0,[aG,ao],true⟩
 refine CT (Mid:=fun a_ w_=>∃ (A_:Option Addr) (c_:Nat) (f_:Nat → DV),A_.isNone = Tree.null (Tree.at_ (Tree.mk n1 s2 b3 l4 u5) 1) ∧ LstR w_ (D4 F w w_ [ar,au,⟨bP,0,[af,.slice A_ ((lst (Tree.at_ (Tree.mk n1 s2 b3 l4 u5) 1)).length) c_],true⟩] []) 1 (fun d=>[.int .i32 d.n]) CR (fun d t=>d.n = IntKind.i32.wrap t.N) A_ c_ f_ (lst (Tree.at_ (Tree.mk n1 s2 b3 l4 u5) 1)) ∧ F1 al 39 [ar,au,⟨bP,0,[af,.slice A_ ((lst (Tree.at_ (Tree.mk n1 s2 b3 l4 u5) 1)).length) c_],true⟩] [] [ab,ac] a_ w_) ?_ ?_
 ·
  refine D8 aK (b:=!da) kz (fun aL=>?_) (fun aL=>?_)
  ·
   have hnull_:Tree.null (Tree.at_ (Tree.mk n1 s2 b3 l4 u5) 1) = false:=by rw [bk]; show da = false; simpa using aL
   refine B8 [0,1,2,3,4,5,6] kz ?_
   refine B3 [0] [1,2,3,4,5,6] [am,ab,ac,(15,.v (.agg #[ag,ah,ai,aj,ak]))] al aK fun fl bV=>?_
   refine B1 (C3 bV (f:=61) (vs:=[.agg #[ag,ah,ai,aj,ak],.int .i64 1]) (d:=16) kz Tryz.call61 (M8 _ _ 1 _ _ (ht.move al.step B0 al.imm)) ?_)
   rintro e_ fm ⟨ee,rfl,bW,av⟩
   have bn:=bW.move av B0 (fun b o h_ hb_=>al.laid (G:=F) av b o (.inl h_) (Nat.lt_of_lt_of_le hb_ av.size))
   obtain ⟨fo,fq,fr,aA,ft,fu,fv,fw,fx,fy,fA,ef,bX,aM,dA,dB,fB,fC⟩:=bn.open_
   rw [aM] at bn
   have dC:=dA.small
   have dD:=dB.small
   rw [aM]
   refine ⟨_,rfl,fun fD bY=>?_⟩
   have bp:=al.next_nil av
   have bZ:=al.frN av
   have hl3_:lst (Tree.at_ (Tree.mk n1 s2 b3 l4 u5) 1) = aA:=by rw [Ce hnull_,bX]; rfl
   have eg:aA.length ≤ 1000000:=by have h_:=cj1; rw [hl3_] at h_; exact h_
   refine B3 [2,3] [4,5,6] [am,ab,ac,(18,.v (.int .i64 ((aA.length:Nat):Int)))] bp bY fun fE cd=>?_
   refine B1 (CE bp cd (d:=19) (j:=aA.length) (t:=68) (e:=21) (size:=1) (bytes:=4) kz kz rfl (rfl) (by omega) fun bN fF fG eh ei ce bq cg=>?_)
   refine B3 [5] [6] [am,ab,ac,(19,.v (.slice (some ⟨bN,0,none⟩) 0 aA.length)),(20,.p 2 1)] bq cg fun fH cm=>?_
   refine B1 (C7 bq cm (oi:=2) (cs:=[af,.slice (some ⟨bN,0,none⟩) 0 aA.length]) kz fun fI cn ap cq=>?_)
   refine B4 (A7 ?_)
   refine B8 [0,1,2,3,4] kz ?_
   refine B3 [0] [1,2,3,4] [ab,ac,(21,.v (.agg #[ag,ah,ai,aj,ak]))] ap cq fun fJ cr=>?_
   refine B1 (C3 cr (f:=61) (vs:=[.agg #[ag,ah,ai,aj,ak],.int .i64 1]) (d:=22) kz Tryz.call61 (M8 _ _ 1 _ _ (ht.move ap.step B0 ap.imm)) ?_)
   rintro e_ fK ⟨ej,rfl,cu,aw⟩
   have bt:=cu.move aw B0 (fun b o h_ hb_=>ap.laid (G:=F) aw b o (.inl h_) (Nat.lt_of_lt_of_le hb_ aw.size))
   obtain ⟨fL,fM,fN,ae,fO,fP,fQ,ax,aB,fR,fS,ek,cw,aN,dE,cz,dF,fT⟩:=bt.open_
   rw [aN] at bt
   have dG:=dE.small
   have dH:=cz.small
   rw [aN]
   refine ⟨_,rfl,fun fV cA=>?_⟩
   have aO:=ap.next_nil aw
   have cB:=ap.frN aw
   have hl3_:lst (Tree.at_ (Tree.mk n1 s2 b3 l4 u5) 1) = ae:=by rw [Ce hnull_,cw]; rfl
   have em:ae.length ≤ 1000000:=by have h_:=cj1; rw [hl3_] at h_; exact h_
   refine B3 [2,3,4] [] [ab,ac,(23,.v (.slice ax ae.length aB)),(24,.v (.int .i64 ((ae.length:Nat):Int))),(25,.v (.int .i64 0))] aO cA fun fW cC=>?_
   refine B4 (A7 ?_)
   refine wp_block (wp_loop_ghost (fun n_ a_ w_=>∃ (k:Nat) (A_:Option Addr) (c_:Nat) (xs_:List Value) (ds_:List DV),n_ = ae.length - k ∧ k ≤ ae.length ∧ (A_.isNone = false) ∧ (RowL w_ (D4 F w w_ [ar,au,⟨bP,0,[af,.slice A_ k c_],true⟩] [⟨A_,c_,21,1,k,xs_⟩]) 1 (fun d=>[.int .i32 d.n]) CR (fun d t=>d.n = IntKind.i32.wrap t.N) xs_ ds_ (ae.take k)) ∧ F1 aO 39 [ar,au,⟨bP,0,[af,.slice A_ k c_],true⟩] [⟨A_,c_,21,1,k,xs_⟩] [ab,ac,(23,.v (.slice ax ae.length aB)),(24,.v (.int .i64 ((ae.length:Nat):Int))),(25,.v (.int .i64 ((k:Nat):Int)))] a_ w_) (ae.length) ⟨0,(some ⟨bN,0,none⟩),aA.length,[],[],by omega,by omega,rfl,RowL.nil CS,cC.pk,aO,Fr.refl _ _ _⟩ ?_)
   rintro fX fY fZ ⟨k,A_,c_,xs_,ds_,eo,eu,hA,hR,cE,aC,aD⟩
   let aP:Nat × SV:=(25,.v (.int .i64 ((k:Nat):Int)))
   refine C1 [ab,ac,(23,.v (.slice ax ae.length aB)),(24,.v (.int .i64 ((ae.length:Nat):Int))),aP,(26,.v (.bool (decide (((k:Nat):Int) < ((ae.length:Nat):Int)))))] aC cE fun f5 aQ=>?_
   refine wp_seq (D8 aQ (b:=decide (((k:Nat):Int) < ((ae.length:Nat):Int))) kz (fun aR=>?_) (fun aR=>?_))
   ·
    have ev:=of_decide_eq_true aR
    refine wp_skip (A7 (wp_seq (wp_block (B8 [0,1,2,3] kz ?_))))
    obtain ⟨dI,dJ,cG,ew,aS⟩:=Slots.get cz (i:=k) (by omega)
    obtain ⟨dK,bu⟩:∃ x,ae[k]? = some x:=⟨_,List.getElem?_eq_getElem (by omega)⟩
    have bw:=dF k dK bu
    obtain ⟨ay,dL,bO,dM,dN,dO,dP,dQ,dR,dS,dT,ey,rfl,aT,dU,dV,f7,f8⟩:=bw.open_
    rw [aT] at bw
    have dW:=dU.small
    have dX:=dV.small
    rw [aT] at aS
    refine B1 (F2 aQ (t:=46) (A:=ax) (m:=ae.length) (q:=((k:Nat):Int)) (d:=27) kz (e:=49) (size:=5) (bytes:=88) kz cG rfl (by omega) fun f9 cH=>?_)
    let aU:Value:=.slice dO dL.length dP
    let aV:Value:=.slice dQ dM.length dR
    let aW:Value:=.slice dS dN.length dT
    refine B1 (G7 cH (t:=49) (b:=dI) (o:=dJ + k * 5) (d:=28) kz (cs:=[.int .i64 ay,aU,.bool bO,aV,aW]) (v:=.agg #[.int .i64 ay,aU,.bool bO,aV,aW]) kz (AtF.move aS aD.step immM aD.to').at_ fun ga cI=>?_)
    refine B1 (D7 aC cI (d:=5) (cs:=[.int .i64 0,ao,.bool false,ao,ao]) kz fun gb gc gd ez eB aX cJ cK=>?_)
    refine B1 (C7 cJ cK (oi:=3) (cs:=[.int .i64 ay,aU,.bool bO,aV,aW]) kz fun ge aY bz cL=>?_)
    refine B4 (A7 ?_)
    refine D9 [0,1,2,3,4,5,6,7,8] kz ?_
    refine B3 [0,1,2,3,4] [5,6,7,8] [ab,ac,(23,.v (.slice ax ae.length aB)),(24,.v (.int .i64 ((ae.length:Nat):Int))),aP,(30,.v (.slice A_ k c_)),(33,.v (.int .i32 (IntKind.i32.wrap ay)))] bz cL fun gg cM=>?_
    refine W5 bz cM (k:=0) (e:=21) (size:=1) (len:=1) (cs:=[.int .i32 (IntKind.i32.wrap ay)]) (d1:=34) (d:=35) kz (t:=68) (bytes:=4) kz (fun _=>by kernel_rfl) rfl kz (by omega) fun bf bg gh gi aZ bD ⟨_,cN⟩=>?_
    refine B3 [7] [8] [ab,ac,(23,.v (.slice ax ae.length aB)),(24,.v (.int .i64 ((ae.length:Nat):Int))),aP,(35,.v (.slice bf (k + 1) bg)),(36,.p 2 1)] bD cN fun gj cO=>?_
    refine B1 (C7 bD cO (oi:=2) (cs:=[af,.slice bf (k + 1) bg]) kz fun gk ba bE cP=>?_)
    refine B4 (G2 (A7 (D9 [0,1] kz ?_)))
    refine B3 [0,1] [] [ab,ac,(23,.v (.slice ax ae.length aB)),(24,.v (.int .i64 ((ae.length:Nat):Int))),(25,.v (.int .i64 (IntKind.i64.wrap (((k:Nat):Int) + 1))))] bE cP fun gm cQ=>?_
    refine B4 (A7 ?_)
    obtain ⟨bF,bG,bd⟩:=bE.cutB cQ 3 [ar,au,⟨bP,0,[af,.slice bf (k + 1) bg],true⟩] [ab,ac,(23,.v (.slice ax ae.length aB)),(24,.v (.int .i64 ((ae.length:Nat):Int))),(25,.v (.int .i64 (IntKind.i64.wrap (((k:Nat):Int) + 1))))]
    have cR:IntKind.i64.wrap (((k:Nat):Int) + 1) = ((k + 1:Nat):Int):=H1 (by omega)
    rw [cR] at bF
    exact ⟨ae.length - (k + 1),by omega,k + 1,bf,bg,xs_ ++ [Value.int .i32 (IntKind.i32.wrap ay)],(ds_ ++ [(K7 (IntKind.i32.wrap ay))]),rfl,by omega,FX bG (k:=0) rfl (by omega),RowL.snoc (d:=(K7 (IntKind.i32.wrap ay))) (hR.move ((((aX.trans aY).trans aZ).trans ba).trans bd).step immM ((((aX.trans aY).trans aZ).trans ba).trans bd).to') bu rfl trivial rfl,bF.pk,bG,(((((aD.trans aX).trans aY).trans aZ).trans ba).trans bd)⟩
   have eC:=of_decide_eq_false aR
   refine wp_exit (E2 (E2 (G3 (A7 ?_))))
   have hk_:k = (lst (Tree.at_ (Tree.mk n1 s2 b3 l4 u5) 1)).length:=by rw [hl3_]; omega
   subst k
   have hL_:=LstR.of aC (k:=0) (rs':=[]) rfl hR (by rw [hl3_]) (fun d=>K6 kz) (by omega)
   rw [← hl3_] at hL_
   obtain ⟨cS,cV⟩:=aC.cutR 0 []
   exact ⟨_,_,_,by rw [hnull_]; exact hA,hL_,aQ.pk,cS,(((((bZ.trans ce).trans cn).trans cB).trans aD).trans cV)⟩
  refine wp_skip (A7 ?_)
  have hn_:Tree.null (Tree.at_ (Tree.mk n1 s2 b3 l4 u5) 1) = true:=by rw [bk]; show da = true; simpa using aL
  have hl_:=FW hn_
  exact ⟨none,0,fun _=>S2,by rw [hn_]; rfl,by rw [hl_]; exact LstR.nil CS,by rw [hl_]; exact ⟨aK.pk,al,Fr.refl _ _ _⟩⟩
 rintro gn gp ⟨bh,bi,dY,cW,bH,cX,bI,eD⟩
 refine B8 [0,1] kz ?_
 refine B3 [0] [1] [ab,(38,.v (.agg #[af,.slice bh ((lst (Tree.at_ (Tree.mk n1 s2 b3 l4 u5) 1)).length) bi]))] bI cX fun gq cY=>?_
 refine B1 (C7 bI cY (oi:=1) (cs:=[af,.slice bh ((lst (Tree.at_ (Tree.mk n1 s2 b3 l4 u5) 1)).length) bi]) kz fun gt bJ bK cZ=>?_)
 refine B4 (A7 ?_)
 refine wp_ret (D5 cZ bK.cells (v:=.agg #[af,.slice bh ((lst (Tree.at_ (Tree.mk n1 s2 b3 l4 u5) 1)).length) bi]) kz ?_)
 refine ⟨J8 none [] [O2 (bs bR),M7 bh (lst (Tree.at_ (Tree.mk n1 s2 b3 l4 u5) 1)).length bi dY],rfl,?_,?_,bK.step⟩
 ·unfold S4
  exact ⟨by show ByteArray.size (bs bR) ≤ 1000000; rw [M6]; have h_:=cj0; rw [bS] at h_; exact h_,⟨((bH.move bJ.step immM bJ.to').move (Step.refl _ B5) B0 G0).slots,cj1,fun _ _=>trivial⟩,trivial⟩
 unfold Cl
 exact ⟨by rw [bS]; rfl,⟨cW,rfl,bH.rel_⟩,trivial⟩
def Bd (v:Int) (T:Tree):Bs:=be 2 (IntKind.i16.wrap v) ++ El (IntKind.i16.wrap v) T
set_option maxHeartbeats 4000000 in
theorem MB (v:Int) (ct:List Value) (t:Tree) (w:World) (F:Nat → Nat → Prop) (ht:TreeR w F ct t) (hc:Bc t) (hroom:(Bd v t).length + 16 ≤ 1099511627776) :
  Calls Tryz.prog 31 #[.int .i64 v,.agg ct.toArray] w (BU w 5 (Bd v t)):=by
 obtain ⟨n1,s2,b3,l4,u5,A6,c7,A8,c9,d6,d7,fL,rfl,rfl,fM,fN,iy,iz⟩:=ht.open_
 have ff:=fM.small
 have fg:=fN.small
 unfold Bc at hc
 obtain ⟨⟨cj0,cj0e⟩,cj1,_⟩:=hc
 replace cj0:=Nat.le_trans cj0 (show 32767 ≤ 1000000 by decide)
 replace cj1:=Nat.le_trans cj1 (show 32767 ≤ 1000000 by decide)
 refine enter (n:=15) Tryz.func31 rfl Tryz.ntmps31 kz fun a hE=>?_
 have hW:=WOk.start w B5
 refine B8 [0,1] kz ?_
 let ag:Value:=.int .i64 n1
 let ah:Value:=.slice A6 s2.length c7
 let ai:Value:=.bool b3
 let aj:Value:=.slice A8 l4.length c9
 let ak:Value:=.slice d6 u5.length d7
 refine B1 (J1 hW hE (d:=3) (cs:=[ag,ah,ai,aj,ak]) kz fun fO iA iB fP fQ fR cn d8=>?_)
 refine B3 [1] [] [(0,.v (.int .i64 v)),(3,.p 0 0)] cn d8 fun iC d9=>?_
 refine B4 (A7 ?_)
 refine B8 [0,1,2,3,4] kz ?_
 let al:Value:=.int .i16 (IntKind.i16.wrap v)
 let ac:Value:=.slice none 0 0
 refine B3 [0,1,2] [3,4] [(3,.p 0 0),(8,.v (.agg #[al,ac,ac]))] cn d9 fun iD ea=>?_
 refine B1 (J1 cn ea (d:=9) (cs:=[al,ac,ac]) kz fun bR iE iF fS fT fV cq eb=>?_)
 refine B3 [4] [] [(3,.p 0 0),(5,.p 1 0)] cq eb fun iG ec=>?_
 refine B4 (A7 ?_)
 refine B8 [0,1,2] kz ?_
 let fh:Value:=(.agg #[.int .i64 n1,.slice A6 s2.length c7,.bool b3,.slice A8 l4.length c9,.slice d6 u5.length d7])
 let bk:Nat × SV:=(11,.v (.agg #[ag,ah,ai,aj,ak]))
 refine B3 [0,1] [2] [(5,.p 1 0),(10,.p 1 0),bk] cq ec fun iH ee=>?_
 let fi:Value:=.agg #[.int .i64 n1,.slice A6 s2.length c7,.bool b3,.slice A8 l4.length c9,.slice d6 u5.length d7]
 refine B1 (L6 ee (f:=53) (vs:=[.pointer (some ⟨bR,0,none⟩),.agg #[ag,ah,ai,aj,ak]]) (d:=12) (n':=44) kz Tryz.call53 Tryz.func53 rfl Tryz.ntmps53 kz fun iI ef=>?_)
 have eg:=ef.recast 0 (.v (.pointer (some ⟨bR,0,none⟩))) (.p 1 0) rfl rfl (Nat.le_of_ble_eq_true (n:=2) rfl)
 refine B8 [0] kz ?_
 refine B1 (J1 cq eg (d:=3) (cs:=[ag,ah,ai,aj,ak]) kz fun fW iJ iK fX fY fZ bg eh=>?_)
 refine B4 (A7 ?_)
 refine wp_seq (B8 [0,1,2,3] kz ?_)
 let ae:Nat × SV:=(0,.p 1 0)
 let af:Nat × SV:=(3,.p 2 0)
 refine B3 [0] [1,2,3] [ae,af,(6,.v (.agg #[ag,ah,ai,aj,ak]))] bg eh fun iL ei=>?_
 refine B1 (C3 ei (f:=61) (vs:=[.agg #[ag,ah,ai,aj,ak],.int .i64 0]) (d:=7) kz Tryz.call61 (M8 _ _ 0 _ _ (ht.move bg.step B0 bg.imm)) ?_)
 rintro e_ iM ⟨f5,rfl,ej,bn⟩
 have cz:=ej.move bn B0 (fun b o h_ hb_=>bg.laid (G:=F) bn b o (.inl h_) (Nat.lt_of_lt_of_le hb_ bn.size))
 obtain ⟨iN,iO,d5,iP,iQ,iR,iS,iT,iU,iV,iW,f7,cA,bT,f8,f9,iX,iY⟩:=cz.open_
 rw [bT] at cz
 have fj:=f8.small
 have fk:=f9.small
 rw [bT]
 refine ⟨_,rfl,fun iZ ek=>?_⟩
 have aB:=bg.next_nil bn
 have ga:=bg.frN bn
 refine B3 [2,3] [] [ae,af,(9,.v (.bool (!d5)))] aB ek fun i6 cr=>?_
 refine B4 (A7 ?_)
 let au:Ob:=⟨fO,0,[ag,ah,ai,aj,ak],true⟩
 let av:Ob:=⟨fW,0,[ag,ah,ai,aj,ak],true⟩
 refine CT (Mid:=fun a_ w_=>∃ (A_:Option Addr) (c_:Nat) (f_:Nat → DV),A_.isNone = Tree.null (Tree.at_ (Tree.mk n1 s2 b3 l4 u5) 0) ∧ LstR w_ (D4 F w w_ [au,⟨bR,0,[al,.slice A_ ((lst (Tree.at_ (Tree.mk n1 s2 b3 l4 u5) 0)).length) c_,ac],true⟩,av] []) 2 Dc S4 Cl A_ c_ f_ (lst (Tree.at_ (Tree.mk n1 s2 b3 l4 u5) 0)) ∧ F1 aB 44 [au,⟨bR,0,[al,.slice A_ ((lst (Tree.at_ (Tree.mk n1 s2 b3 l4 u5) 0)).length) c_,ac],true⟩,av] [] [ae,af] a_ w_) ?_ ?_
 ·
  refine D8 cr (b:=!d5) kz (fun cu=>?_) (fun cu=>?_)
  ·
   have hnull_:Tree.null (Tree.at_ (Tree.mk n1 s2 b3 l4 u5) 0) = false:=by rw [cA]; show d5 = false; simpa using cu
   refine B8 [0,1,2,3,4,5,6,7,8] kz ?_
   refine B3 [0,1] [2,3,4,5,6,7,8] [ae,af,(10,.p 1 0),bk] aB cr fun i7 em=>?_
   refine B1 (C3 em (f:=61) (vs:=[.agg #[ag,ah,ai,aj,ak],.int .i64 0]) (d:=12) kz Tryz.call61 (M8 _ _ 0 _ _ (ht.move aB.step B0 aB.imm)) ?_)
   rintro e_ ja ⟨gb,rfl,eo,bp⟩
   have cB:=eo.move bp B0 (fun b o h_ hb_=>aB.laid (G:=F) bp b o (.inl h_) (Nat.lt_of_lt_of_le hb_ bp.size))
   obtain ⟨jb,jc,gc,aU,gd,ge,gg,gh,gi,gj,gk,fl,cC,bq,eu,ev,gm,gn⟩:=cB.open_
   rw [bq] at cB
   have ew:=eu.small
   have ey:=ev.small
   rw [bq]
   refine ⟨_,rfl,fun gp cE=>?_⟩
   have bU:=aB.next_nil bp
   have cG:=aB.frN bp
   have hl3_:lst (Tree.at_ (Tree.mk n1 s2 b3 l4 u5) 0) = aU:=by rw [Ce hnull_,cC]; rfl
   have fm:aU.length ≤ 1000000:=by have h_:=cj0; rw [hl3_] at h_; exact h_
   refine B3 [3,4] [5,6,7,8] [ae,af,(10,.p 1 0),(14,.v (.int .i64 ((aU.length:Nat):Int)))] bU cE fun gq cH=>?_
   refine B1 (CE bU cH (d:=15) (j:=aU.length) (t:=101) (e:=132) (size:=2) (bytes:=40) kz kz rfl (rfl) (by omega) fun cw gt gv fo fq cI bV cJ=>?_)
   refine B3 [6,7] [8] [ae,af,(15,.v (.slice (some ⟨cw,0,none⟩) 0 aU.length)),(17,.p 1 1)] bV cJ fun gw cK=>?_
   refine B1 (C7 bV cK (oi:=1) (cs:=[al,.slice (some ⟨cw,0,none⟩) 0 aU.length,ac]) kz fun gy cL aw cM=>?_)
   refine B4 (A7 ?_)
   refine B8 [0,1,2,3,4] kz ?_
   refine B3 [0] [1,2,3,4] [ae,af,(18,.v (.agg #[ag,ah,ai,aj,ak]))] aw cM fun gz cN=>?_
   refine B1 (C3 cN (f:=61) (vs:=[.agg #[ag,ah,ai,aj,ak],.int .i64 0]) (d:=19) kz Tryz.call61 (M8 _ _ 0 _ _ (ht.move aw.step B0 aw.imm)) ?_)
   rintro e_ gA ⟨fr,rfl,cO,aH⟩
   have bW:=cO.move aH B0 (fun b o h_ hb_=>aw.laid (G:=F) aH b o (.inl h_) (Nat.lt_of_lt_of_le hb_ aH.size))
   obtain ⟨gB,gC,gD,ab,gE,gF,gG,aC,aI,gH,gI,ft,cP,bt,ez,cQ,eB,gJ⟩:=bW.open_
   rw [bt] at bW
   have eC:=ez.small
   have eD:=cQ.small
   rw [bt]
   refine ⟨_,rfl,fun gK cR=>?_⟩
   have bu:=aw.next_nil aH
   have cS:=aw.frN aH
   have hl3_:lst (Tree.at_ (Tree.mk n1 s2 b3 l4 u5) 0) = ab:=by rw [Ce hnull_,cP]; rfl
   have fu:ab.length ≤ 1000000:=by have h_:=cj0; rw [hl3_] at h_; exact h_
   refine B3 [2,3,4] [] [ae,af,(20,.v (.slice aC ab.length aI)),(21,.v (.int .i64 ((ab.length:Nat):Int))),(22,.v (.int .i64 0))] bu cR fun gL cV=>?_
   refine B4 (A7 ?_)
   refine wp_block (wp_loop_ghost (fun n_ a_ w_=>∃ (k:Nat) (A_:Option Addr) (c_:Nat) (xs_:List Value) (ds_:List DV),n_ = ab.length - k ∧ k ≤ ab.length ∧ (A_.isNone = false) ∧ (RowL w_ (D4 F w w_ [au,⟨bR,0,[al,.slice A_ k c_,ac],true⟩,av] [⟨A_,c_,132,2,k,xs_⟩]) 2 Dc S4 Cl xs_ ds_ (ab.take k)) ∧ F1 bu 44 [au,⟨bR,0,[al,.slice A_ k c_,ac],true⟩,av] [⟨A_,c_,132,2,k,xs_⟩] [ae,af,(20,.v (.slice aC ab.length aI)),(21,.v (.int .i64 ((ab.length:Nat):Int))),(22,.v (.int .i64 ((k:Nat):Int)))] a_ w_) (ab.length) ⟨0,(some ⟨cw,0,none⟩),aU.length,[],[],by omega,by omega,rfl,RowL.nil U0,cV.pk,bu,Fr.refl _ _ _⟩ ?_)
   rintro gM gN gO ⟨k,A_,c_,xs_,ds_,fv,fw,hA,hR,cW,aW,ax⟩
   let aX:Nat × SV:=(22,.v (.int .i64 ((k:Nat):Int)))
   refine C1 [ae,af,(20,.v (.slice aC ab.length aI)),(21,.v (.int .i64 ((ab.length:Nat):Int))),aX,(23,.v (.bool (decide (((k:Nat):Int) < ((ab.length:Nat):Int)))))] aW cW fun gP bw=>?_
   refine wp_seq (D8 bw (b:=decide (((k:Nat):Int) < ((ab.length:Nat):Int))) kz (fun bz=>?_) (fun bz=>?_))
   ·
    have fx:=of_decide_eq_true bz
    refine wp_skip (A7 (wp_seq (wp_block (B8 [0,1,2,3] kz ?_))))
    obtain ⟨eE,eF,cX,fy,bD⟩:=Slots.get cQ (i:=k) (by omega)
    obtain ⟨eG,bE⟩:∃ x,ab[k]? = some x:=⟨_,List.getElem?_eq_getElem (by omega)⟩
    have bF:=eB k eG bE
    obtain ⟨cY,cZ,bh,da,db,dc,de,df,dg,dh,di,fA,rfl,bG,eH,eI,gQ,gR⟩:=bF.open_
    rw [bG] at bF
    have eJ:=eH.small
    have eK:=eI.small
    rw [bG] at bD
    refine B1 (F2 bw (t:=46) (A:=aC) (m:=ab.length) (q:=((k:Nat):Int)) (d:=24) kz (e:=49) (size:=5) (bytes:=88) kz cX rfl (by omega) fun gS dj=>?_)
    let aJ:Value:=.int .i64 cY
    let aK:Value:=.slice dc cZ.length de
    let aL:Value:=.slice df da.length dg
    let aM:Value:=.slice dh db.length di
    let fB:Value:=.agg #[.int .i64 cY,.slice dc cZ.length de,.bool bh,.slice df da.length dg,.slice dh db.length di]
    refine B1 (G7 dj (t:=49) (b:=eE) (o:=eF + k * 5) (d:=25) kz (cs:=[aJ,aK,.bool bh,aL,aM]) (v:=.agg #[aJ,aK,.bool bh,aL,aM]) kz (AtF.move bD ax.step immM ax.to').at_ fun gT dl=>?_)
    refine B1 (D7 aW dl (d:=5) (cs:=[.int .i64 0,ac,.bool false,ac,ac]) kz fun gU gV gW fC fD aN dm dn=>?_)
    refine B1 (C7 dm dn (oi:=3) (cs:=[aJ,aK,.bool bh,aL,aM]) kz fun gX aO dp dq=>?_)
    refine B4 (A7 ?_)
    refine P5 11 kz dp fun gY aP bH dr=>?_
    refine D6 [0,1,2,3,4,5] [ae,af,(20,.v (.slice aC ab.length aI)),(21,.v (.int .i64 ((ab.length:Nat):Int))),aX,(26,.p 1 0),(30,.v (.slice A_ k c_)),(31,.v (.agg #[aJ,aK,.bool bh,aL,aM]))] 6 (C0 (B2 (B2 (C0 (B2 C6))))) (fun _ h=>h.cells) dr dq fun gZ dt=>?_
    refine C9 (i:=6) kz (C3 dt (f:=89) (vs:=[.agg #[aJ,aK,.bool bh,aL,aM]]) (d:=32) kz Tryz.call89 (MA _ _ _ _ (bF.move (((ax.trans aN).trans aO).trans aP).step immM (((ax.trans aN).trans aO).trans aP).to') (cj0e _ (by rw [hl3_]; exact List.mem_of_getElem? bE))) ?_)
    rintro e_ g9 ⟨ar,rfl,du,bS,bI⟩
    have dv:=U0 _ (Step.refl _ B5) B0 (bH.laid (G:=F) bI) du
    refine ⟨_,rfl,fun hC dw=>?_⟩
    have bX:=bH.next_nil bI
    have ao:=bH.frN bI
    have dx:=TT.ofW ao bX
    refine ⟨fun _=>dx,?_⟩
    let bJ:Value:=.string ((ar.f 0).s)
    let bK:Value:=.slice ((ar.f 1).A) ((ar.f 1).l) ((ar.f 1).c)
    refine C9 (i:=7) kz (G4 bX dw (e:=132) (size:=2) (len:=1) (cs:=[bJ,bK]) (d:=33) kz kz fun eM hJ hK fE fF am aY dy=>?_)
    have dA:=TT.ofW (ao.trans am) aY
    refine ⟨fun _=>dA,?_⟩
    refine C9 (i:=8) kz (I7 aY dy (k:=0) (d:=34) (t:=101) (e:=132) (size:=2) (bytes:=40) (A:=A_) (As:=(some ⟨eM,0,none⟩)) (m0:=k) (c:=c_) (m:=1) (cs:=1) (xs:=xs_) (news:=[bJ,bK]) kz kz rfl (M5 (aY.own 1 _ rfl) (K6 kz)) (N7 (aY.own 1 _ rfl)) (by omega) fun bi bj hY hZ ap aZ dB=>?_)
    have dC:=TT.ofW ((ao.trans am).trans ap) aZ
    refine ⟨fun _=>dC,?_⟩
    refine C9 (i:=9) kz (T5 [0,3,20,21,22,34,35] aZ.cells dB (env':=[ae,af,(20,.v (.slice aC ab.length aI)),(21,.v (.int .i64 ((ab.length:Nat):Int))),aX,(34,.v (.slice bi (k + 1) bj)),(35,.p 1 0)]) kz fun ia dD=>?_)
    have bY:=TT.ofW ((ao.trans am).trans ap) aZ
    refine ⟨fun _=>bY,?_⟩
    refine D6 [10] [ae,af,(20,.v (.slice aC ab.length aI)),(21,.v (.int .i64 ((ab.length:Nat):Int))),aX,(34,.v (.slice bi (k + 1) bj)),(36,.p 1 1)] 1 (C0 (B2 (B2 (C0 (B2 C6))))) (fun _ h=>h.cells) bY dD fun ib dE=>?_
    refine C9 (i:=11) kz (C7 aZ dE (oi:=1) (cs:=[al,.slice bi (k + 1) bj,ac]) kz fun ic aQ bZ dF=>?_)
    refine ⟨fun h=>absurd rfl h,?_⟩
    refine F3 kz ?_ _
    refine G2 (A7 (D9 [0,1] kz ?_))
    refine B3 [0,1] [] [ae,af,(20,.v (.slice aC ab.length aI)),(21,.v (.int .i64 ((ab.length:Nat):Int))),(22,.v (.int .i64 (IntKind.i64.wrap (((k:Nat):Int) + 1))))] bZ dF fun ig dG=>?_
    refine B4 (A7 ?_)
    obtain ⟨cd,dH,aR⟩:=bZ.cutB dG 3 [au,⟨bR,0,[al,.slice bi (k + 1) bj,ac],true⟩,av] [ae,af,(20,.v (.slice aC ab.length aI)),(21,.v (.int .i64 ((ab.length:Nat):Int))),(22,.v (.int .i64 (IntKind.i64.wrap (((k:Nat):Int) + 1))))]
    obtain ⟨ce,aS⟩:=dH.cutR 1 [⟨bi,bj,132,2,k + 1,xs_ ++ [bJ,bK]⟩]
    have dI:IntKind.i64.wrap (((k:Nat):Int) + 1) = ((k + 1:Nat):Int):=H1 (by omega)
    rw [dI] at cd
    exact ⟨ab.length - (k + 1),by omega,k + 1,bi,bj,xs_ ++ [Value.string ((ar.f 0).s),.slice ((ar.f 1).A) ((ar.f 1).l) ((ar.f 1).c)],(ds_ ++ [ar]),rfl,by omega,FX ce (k:=0) rfl (by omega),RowL.snoc (d:=ar) (hR.move ((((((((aN.trans aO).trans aP).trans ao).trans am).trans ap).trans aQ).trans aR).trans aS).step immM ((((((((aN.trans aO).trans aP).trans ao).trans am).trans ap).trans aQ).trans aR).trans aS).to') bE rfl (U0 _ ((((am.trans ap).trans aQ).trans aR).trans aS).step immM ((((am.trans ap).trans aQ).trans aR).trans aS).to' dv) bS,cd.pk,ce,(((((((((ax.trans aN).trans aO).trans aP).trans ao).trans am).trans ap).trans aQ).trans aR).trans aS)⟩
   have fG:=of_decide_eq_false bz
   refine wp_exit (E2 (E2 (G3 (A7 ?_))))
   have hk_:k = (lst (Tree.at_ (Tree.mk n1 s2 b3 l4 u5) 0)).length:=by rw [hl3_]; omega
   subst k
   have hL_:=LstR.of aW (k:=0) (rs':=[]) rfl hR (by rw [hl3_]) Mz (by omega)
   rw [← hl3_] at hL_
   obtain ⟨dJ,dK⟩:=aW.cutR 0 []
   exact ⟨_,_,_,by rw [hnull_]; exact hA,hL_,bw.pk,dJ,(((((cG.trans cI).trans cL).trans cS).trans ax).trans dK)⟩
  refine wp_skip (A7 ?_)
  have hn_:Tree.null (Tree.at_ (Tree.mk n1 s2 b3 l4 u5) 0) = true:=by rw [cA]; show d5 = true; simpa using cu
  have hl_:=FW hn_
  exact ⟨none,0,fun _=>S2,by rw [hn_]; rfl,by rw [hl_]; exact LstR.nil U0,by rw [hl_]; exact ⟨cr.pk,aB,Fr.refl _ _ _⟩⟩
 rintro ii ij ⟨aD,aE,aV,dL,bM,dM,ay,fH⟩
 refine D9 [0,1,2,3,4,5,6] kz ?_
 refine B3 [0,1] [2,3,4,5,6] [(38,.p 1 0),(39,.v (.agg #[ag,ah,ai,aj,ak]))] ay dM fun ik dN=>?_
 refine B1 (C3 dN (f:=61) (vs:=[.agg #[ag,ah,ai,aj,ak],.int .i64 1]) (d:=40) kz Tryz.call61 (M8 _ _ 1 _ _ (ht.move ay.step B0 ay.imm)) ?_)
 rintro e_ il ⟨fI,rfl,dO,aT⟩
 have bN:=dO.move aT B0 (fun b o h_ hb_=>ay.laid (G:=F) aT b o (.inl h_) (Nat.lt_of_lt_of_le hb_ aT.size))
 obtain ⟨eN,eO,eP,eQ,eR,eS,eU,eV,eW,eX,eY,fJ,fK,bO,eZ,e9,im,io⟩:=bN.open_
 rw [bO] at bN
 have fa:=eZ.small
 have fb:=e9.small
 rw [bO]
 refine ⟨_,rfl,fun ip dP=>?_⟩
 have bP:=ay.next_nil aT
 have ba:=ay.frN aT
 refine B1 (C3 dP (f:=86) (vs:=[.agg #[.int .i64 eN,.slice eS eO.length eU,.bool eP,.slice eV eQ.length eW,.slice eX eR.length eY]]) (d:=41) kz Tryz.call86 (Gq _ (Tree.at_ (Tree.mk n1 s2 b3 l4 u5) 1) _ _ bN) ?_)
 rintro e_ iq ⟨aF,aG,rfl,dQ,dR,bQ⟩
 have dS:=dQ.move (Step.refl _ B5) B0 (bP.laid (G:=F) bQ)
 refine ⟨_,rfl,fun ir dT=>?_⟩
 have cg:=bP.next_nil bQ
 have bd:=bP.frN bQ
 refine B3 [4,5] [6] [(41,.v (.slice aF ((B9 (Tree.at_ (Tree.mk n1 s2 b3 l4 u5) 1)).length) aG)),(43,.p 1 2)] cg dT fun iu dU=>?_
 let cm:Value:=.slice aF ((B9 (Tree.at_ (Tree.mk n1 s2 b3 l4 u5) 1)).length) aG
 refine B1 (C7 cg dU (oi:=1) (cs:=[al,.slice aD ((lst (Tree.at_ (Tree.mk n1 s2 b3 l4 u5) 0)).length) aE,cm]) kz fun fe aA bf dV=>?_)
 refine B4 (M3 dV bf.cells (v:=.tuple #[]) kz ?_)
 refine ⟨_,rfl,fun iv dW=>?_⟩
 have dX:EnvOk 15 [au,⟨bR,0,[al,.slice aD ((lst (Tree.at_ (Tree.mk n1 s2 b3 l4 u5) 0)).length) aE,cm],true⟩,av] [(12,.v (.tuple #[])),(5,.p 1 0),(10,.p 1 0),bk] _:=dW.places (⟨rfl,rfl,⟨rfl,rfl,trivial⟩⟩)
 refine B4 (A7 ?_)
 refine B8 [0,1,2] kz ?_
 refine B3 [0] [1,2] [(13,.p 1 0)] bf dX fun iw dY=>?_
 have hrel_:Ek (J8 none [] [M7 aD (lst (Tree.at_ (Tree.mk n1 s2 b3 l4 u5) 0)).length aE aV,O3 aF (B9 (Tree.at_ (Tree.mk n1 s2 b3 l4 u5) 1)) aG]) (Tree.mk n1 s2 b3 l4 u5):=by
  unfold Ek
  exact ⟨⟨dL,rfl,bM.rel_⟩,⟨rfl,dR⟩,trivial⟩
 have he_:Y2 (IntKind.i16.wrap v) (J8 none [] [M7 aD (lst (Tree.at_ (Tree.mk n1 s2 b3 l4 u5) 0)).length aE aV,O3 aF (B9 (Tree.at_ (Tree.mk n1 s2 b3 l4 u5) 1)) aG]) = Bd v (Tree.mk n1 s2 b3 l4 u5):=Mv _ _ _ hrel_
 rw [← he_] at hroom ⊢
 have hok_:V6 fe (fun _ _=>True) (J8 none [] [M7 aD (lst (Tree.at_ (Tree.mk n1 s2 b3 l4 u5) 0)).length aE aV,O3 aF (B9 (Tree.at_ (Tree.mk n1 s2 b3 l4 u5) 1)) aG]):=by
  unfold V6
  exact ⟨⟨((bM.move ((ba.trans bd).trans aA).step immM ((ba.trans bd).trans aA).to').move (Step.refl _ B5) B0 (fun _ _ _ _=>trivial)).slots,cj0,((bM.move ((ba.trans bd).trans aA).step immM ((ba.trans bd).trans aA).to').move (Step.refl _ B5) B0 (fun _ _ _ _=>trivial)).each⟩,⟨((dS.move aA.step immM aA.to').move (Step.refl _ B5) B0 (fun _ _ _ _=>trivial)),cj1⟩,trivial⟩
 refine B1 (C3 dY (f:=54) (vs:=[.pointer (some ⟨bR,0,none⟩),ac]) (d:=14) kz Tryz.call54 (Mu (IntKind.i16.wrap v) (J8 none [] [M7 aD (lst (Tree.at_ (Tree.mk n1 s2 b3 l4 u5) 0)).length aE aV,O3 aF (B9 (Tree.at_ (Tree.mk n1 s2 b3 l4 u5) 1)) aG]) bR 0 none 0 [] _ _ (fun j v hj=>⟨trivial,bf.cells 1 _ rfl j v hj⟩) hok_ Fw (World.ownsRow_nil _ 0 _ _) (by simpa using hroom)) ?_)
 rintro e_ wz ⟨A',c',rfl,ho,hs,hn⟩
 refine ⟨_,rfl,fun az hEz=>?_⟩
 have hEy:=(hEz.pick (ks:=[14]) (env':=[(14,.v (.slice A' (([] ++ Y2 (IntKind.i16.wrap v) (J8 none [] [M7 aD (lst (Tree.at_ (Tree.mk n1 s2 b3 l4 u5) 0)).length aE aV,O3 aF (B9 (Tree.at_ (Tree.mk n1 s2 b3 l4 u5) 1)) aG])).length) c'))]) kz).cutTb 0 kz
 have hWz:=WOk.start wz B5
 refine B3 [2] [] [(4,.v (.slice A' (([] ++ Y2 (IntKind.i16.wrap v) (J8 none [] [M7 aD (lst (Tree.at_ (Tree.mk n1 s2 b3 l4 u5) 0)).length aE aV,O3 aF (B9 (Tree.at_ (Tree.mk n1 s2 b3 l4 u5) 1)) aG])).length) c'))] hWz hEy fun ix dZ=>?_
 refine B4 (A7 ?_)
 refine wp_ret (D5 dZ hWz.cells (v:=.slice A' (([] ++ Y2 (IntKind.i16.wrap v) (J8 none [] [M7 aD (lst (Tree.at_ (Tree.mk n1 s2 b3 l4 u5) 0)).length aE aV,O3 aF (B9 (Tree.at_ (Tree.mk n1 s2 b3 l4 u5) 1)) aG])).length) c') kz ?_)
 exact Fs bf.step ⟨A',c',rfl,ho,hs,hn⟩
def Y3 (D:DV):Tree:=.mk (IntKind.i64.wrap D.n) [] false [] []
def G6 (D:DV):Tree:=.mk 0 [] false [.mk 0 (sb (D.f 0).s) false [] [],.mk 0 [] false ((List.range (D.f 1).l).map fun i=>Y3 ((D.f 1).f i)) []] []
def L2 (D:DV):Tree:=.mk 0 [] false [.mk 0 [] false ((List.range (D.f 3).l).map fun i=>G6 ((D.f 3).f i)) [],.mk 0 (D.f 4).o false [] []] []
def H5 (k:Int) (D:DV):Bs:=Bd k (C2 k 8 sConsumerMemberAssignmentF (L2 D))
theorem MC:depths sConsumerMemberAssignmentF ≤ 8:=by simp [sConsumerMemberAssignmentF,Fld.depth.depths,Fld.depth]
theorem MD:plains sConsumerMemberAssignmentF:=by simp [sConsumerMemberAssignmentF,Fld.plain.plains,Fld.plain]
set_option maxHeartbeats 4000000 in
theorem MF (k:Int) (hk:0 ≤ k ∧ k < 3) (D:DV) (w:World) (F:Nat → Nat → Prop) (hok:R0 w F D) (hs:V5 D) (hroom:(H5 k D).length + 16 ≤ 1099511627776):Calls Tryz.prog 13 #[.int .i64 k,.agg #[.slice ((D.f 0).A) ((D.f 0).o.length) ((D.f 0).c),.slice (((D.f 1).f 0).A) (((D.f 1).f 0).l) (((D.f 1).f 0).c),.int .i32 (((D.f 1).f 1).n),.slice ((D.f 2).A) ((D.f 2).l) ((D.f 2).c),.slice ((D.f 3).A) ((D.f 3).l) ((D.f 3).c),.slice ((D.f 4).A) ((D.f 4).o.length) ((D.f 4).c)]] w (BU w 5 (H5 k D)):=by
 refine enter (n:=64) Tryz.func13 rfl Tryz.ntmps13 kz fun a hE=>?_
 have hW:=WOk.start w B5
 unfold R0 at hok
 obtain ⟨⟨g1,g1l⟩,g2,⟨g3,g3l,g3e⟩,⟨g4,g4l,g4e⟩,⟨g5,g5l⟩,_⟩:=hok
 have g2k:=g2
 unfold V4 at g2
 obtain ⟨⟨g6,g6l,g6e⟩,g7,_⟩:=g2
 refine B8 [0,1] kz ?_
 let lc115:Value:=.slice ((D.f 0).A) ((D.f 0).o.length) ((D.f 0).c)
 let lc116:Value:=.slice (((D.f 1).f 0).A) (((D.f 1).f 0).l) (((D.f 1).f 0).c)
 let lc117:Value:=.slice ((D.f 2).A) ((D.f 2).l) ((D.f 2).c)
 let lc118:Value:=.slice ((D.f 3).A) ((D.f 3).l) ((D.f 3).c)
 let lc119:Value:=.slice ((D.f 4).A) ((D.f 4).o.length) ((D.f 4).c)
 refine B1 (J1 hW hE (d:=3) (cs:=[lc115,lc116,.int .i32 (((D.f 1).f 1).n),lc117,lc118,lc119]) kz fun b8 a9 w10 hb11 hz12 hF13 hW14 hE15=>?_)
 let le104:Nat × SV:=(0,.v (.int .i64 k))
 let le105:Nat × SV:=(3,.p 0 0)
 refine B3 [1] [] [le104,le105] hW14 hE15 fun a16 hE17=>?_
 refine B4 (A7 ?_)
 refine B8 [0,1,2] kz ?_
 let lc120:Value:=.int .i64 0
 let lc121:Value:=.slice none 0 0
 let lc122:Value:=.bool false
 let lc123:Value:=(.agg #[.int .i64 0,.slice none 0 0,.bool false,.slice none 0 0,.slice none 0 0])
 refine B3 [0] [1,2] [le104,le105,(12,.v (.agg #[lc120,lc121,lc122,lc121,lc121]))] hW14 hE17 fun a18 hE19=>?_
 refine B1 (D7 hW14 hE19 (d:=5) (cs:=[lc120,lc121,lc122,lc121,lc121]) kz fun b20 a21 w22 hb23 hz24 hF25 hW26 hE27=>?_)
 refine B1 (C7 hW26 hE27 (oi:=1) (cs:=[lc120,lc121,lc122,lc121,lc121]) kz fun w28 hF29 hW30 hE31=>?_)
 refine B4 (A7 ?_)
 refine wp_seq ?_
 let le106:Nat × SV:=(5,.p 1 0)
 let le107:Nat × SV:=(14,.v (.slice ((D.f 3).A) ((D.f 3).l) ((D.f 3).c)))
 let le108:Nat × SV:=(15,.v (.int .i64 (((D.f 3).l:Nat):Int)))
 refine C1 [le104,le105,le106,le107,le108,(16,.v (.int .i64 0))] hW30 hE31 fun a32 hE33=>?_
 refine wp_block ?_
 have hW34:=hW30.addNil 34 5
 have hF35:=hW30.frNil 34 5
 let lo101:Ob:=⟨b8,0,[lc115,lc116,.int .i32 (((D.f 1).f 1).n),lc117,lc118,lc119],true⟩
 refine wp_loop_ghost (fun n_ a_ w_=>∃ (k1:Nat) (AO_:Option Addr) (cO_:Nat) (xsO_:List Value) (cssO_:List (List Value)),n_ = (D.f 3).l - k1 ∧ k1 ≤ (D.f 3).l ∧ (Trees w_ (D4 F w w_ [lo101,⟨b20,0,[lc120,lc121,lc122,.slice AO_ k1 cO_,lc121],true⟩] [⟨AO_,cO_,34,5,k1,xsO_⟩]) xsO_ (((List.range (D.f 3).l).map (fun i=>G6 ((D.f 3).f i))).take k1) cssO_) ∧ F1 hW34 64 [lo101,⟨b20,0,[lc120,lc121,lc122,.slice AO_ k1 cO_,lc121],true⟩] [⟨AO_,cO_,34,5,k1,xsO_⟩] [le104,le105,le106,le107,le108,(16,.v (.int .i64 ((k1:Nat):Int)))] a_ w_) ((D.f 3).l) ⟨0,none,0,[],[],by omega,by omega,Trees.nil _ _,hE33.pk,hW34,Fr.refl _ _ _⟩ ?_
 rintro n36 a37 w38 ⟨k1,AO_,cO_,xsO_,cssO_,hn41,hk42,hTO_,hE39,hW40,hF43⟩
 let le109:Nat × SV:=(16,.v (.int .i64 ((k1:Nat):Int)))
 refine C1 [le104,le105,le106,le107,le108,le109,(17,.v (.bool (decide (((k1:Nat):Int) < (((D.f 3).l:Nat):Int)))))] hW40 hE39 fun a44 hE45=>?_
 refine wp_seq ?_
 let lc124:Value:=.slice AO_ k1 cO_
 let lo102:Ob:=⟨b20,0,[lc120,lc121,lc122,lc124,lc121],true⟩
 refine D8 hE45 (b:=decide (((k1:Nat):Int) < (((D.f 3).l:Nat):Int))) kz (fun hc46=>?_) (fun hc46=>?_)
 ·
  have hf47:=of_decide_eq_true hc46
  refine wp_skip (A7 (wp_seq (wp_block (B8 [0,1,2,3] kz ?_))))
  obtain ⟨b48,o49,hA50,hl51,hat52⟩:=Slots.get g4 (i:=k1) (by omega)
  refine B1 (F2 hE45 (t:=35) (A:=(D.f 3).A) (m:=((D.f 3).l)) (q:=((k1:Nat):Int)) (d:=18) kz (e:=70) (size:=2) (bytes:=40) kz hA50 rfl (by omega) fun a53 hE54=>?_)
  let lc125:Value:=.string ((((D.f 3).f k1).f 0).s)
  let lc126:Value:=.slice ((((D.f 3).f k1).f 1).A) ((((D.f 3).f k1).f 1).l) ((((D.f 3).f k1).f 1).c)
  refine B1 (G7 hE54 (t:=70) (b:=b48) (o:=o49 + k1 * 2) (d:=19) kz (cs:=[lc125,lc126]) (v:=.agg #[lc125,lc126]) kz (AtF.move hat52 hW40.step B0 E6).at_ fun a55 hE56=>?_)
  refine B1 (D7 hW40 hE56 (d:=7) (cs:=[.string ByteArray.empty,lc121]) kz fun b57 a58 w59 hb60 hz61 hF62 hW63 hE64=>?_)
  refine B1 (C7 hW63 hE64 (oi:=2) (cs:=[lc125,lc126]) kz fun w65 hF66 hW67 hE68=>?_)
  refine B4 (A7 ?_)
  refine B8 [0,1,2] kz ?_
  let le110:Nat × SV:=(7,.p 2 0)
  refine B3 [0] [1,2] [le104,le105,le106,le110,le107,le108,le109,(20,.v (.agg #[lc120,lc121,lc122,lc121,lc121]))] hW67 hE68 fun a69 hE70=>?_
  refine B1 (D7 hW67 hE70 (d:=8) (cs:=[lc120,lc121,lc122,lc121,lc121]) kz fun b71 a72 w73 hb74 hz75 hF76 hW77 hE78=>?_)
  refine B1 (C7 hW77 hE78 (oi:=3) (cs:=[lc120,lc121,lc122,lc121,lc121]) kz fun w79 hF80 hW81 hE82=>?_)
  refine B4 (A7 ?_)
  refine wp_seq ?_
  let le111:Nat × SV:=(8,.p 3 0)
  let le112:Nat × SV:=(22,.v (.slice ((((D.f 3).f k1).f 1).A) ((((D.f 3).f k1).f 1).l) ((((D.f 3).f k1).f 1).c)))
  let le113:Nat × SV:=(23,.v (.int .i64 (((((D.f 3).f k1).f 1).l:Nat):Int)))
  refine C1 [le104,le105,le106,le110,le111,le107,le108,le109,le112,le113,(24,.v (.int .i64 0))] hW81 hE82 fun a83 hE84=>?_
  refine wp_block ?_
  have gI_:=g4e k1 (by omega)
  unfold T0 at gI_
  obtain ⟨gI0_,⟨gIs_,gIl_,gIe_⟩,_⟩:=gI_
  have hW85:=hW81.addNil 34 5
  have hF86:=hW81.frNil 34 5
  let lo103:Ob:=⟨b57,0,[lc125,lc126],true⟩
  refine wp_loop_ghost (fun n_ a_ w_=>∃ (k2:Nat) (AI_:Option Addr) (cI_:Nat) (xsI_:List Value) (cssI_:List (List Value)),n_ = (((D.f 3).f k1).f 1).l - k2 ∧ k2 ≤ (((D.f 3).f k1).f 1).l ∧ (Trees w_ (D4 F w w_ [lo101,lo102,lo103,⟨b71,0,[lc120,lc121,lc122,.slice AI_ k2 cI_,lc121],true⟩] [⟨AO_,cO_,34,5,k1,xsO_⟩,⟨AI_,cI_,34,5,k2,xsI_⟩]) xsI_ (((List.range (((D.f 3).f k1).f 1).l).map (fun i=>Y3 ((((D.f 3).f k1).f 1).f i))).take k2) cssI_) ∧ F1 hW85 64 [lo101,lo102,lo103,⟨b71,0,[lc120,lc121,lc122,.slice AI_ k2 cI_,lc121],true⟩] [⟨AO_,cO_,34,5,k1,xsO_⟩,⟨AI_,cI_,34,5,k2,xsI_⟩] [le104,le105,le106,le110,le111,le107,le108,le109,le112,le113,(24,.v (.int .i64 ((k2:Nat):Int)))] a_ w_) ((((D.f 3).f k1).f 1).l) ⟨0,none,0,[],[],by omega,by omega,Trees.nil _ _,hE84.pk,hW85,Fr.refl _ _ _⟩ ?_
  rintro n87 a88 w89 ⟨k2,AI_,cI_,xsI_,cssI_,hn92,hk93,hTI_,hE90,hW91,hF94⟩
  let le114:Nat × SV:=(24,.v (.int .i64 ((k2:Nat):Int)))
  refine C1 [le104,le105,le106,le110,le111,le107,le108,le109,le112,le113,le114,(25,.v (.bool (decide (((k2:Nat):Int) < (((((D.f 3).f k1).f 1).l:Nat):Int)))))] hW91 hE90 fun a95 hE96=>?_
  refine wp_seq (D8 hE96 (b:=decide (((k2:Nat):Int) < (((((D.f 3).f k1).f 1).l:Nat):Int))) kz (fun hc97=>?_) (fun hc97=>?_))
  ·
   have hf98:=of_decide_eq_true hc97
   refine wp_skip (A7 (wp_seq (wp_block (B8 [0,1,2] kz ?_))))
   obtain ⟨b99,o100,hA101,hl102,hat103⟩:=Slots.get gIs_ (i:=k2) (by omega)
   refine B1 (F2 hE96 (t:=68) (A:=(((D.f 3).f k1).f 1).A) (m:=((((D.f 3).f k1).f 1).l)) (q:=((k2:Nat):Int)) (d:=26) kz (e:=21) (size:=1) (bytes:=4) kz hA101 rfl (by omega) fun a104 hE105=>?_)
   refine B1 (G7 hE105 (t:=21) (b:=b99) (o:=o100 + k2 * 1) (d:=27) kz (cs:=[.int .i32 (((((D.f 3).f k1).f 1).f k2).n)]) (v:=.int .i32 (((((D.f 3).f k1).f 1).f k2).n)) kz (AtF.move hat103 hW91.step B0 E6).at_ fun a106 hE107=>?_)
   refine B3 [2] [] [le104,le105,le106,le110,le111,(10,.v (.int .i32 (((((D.f 3).f k1).f 1).f k2).n))),le107,le108,le109,le112,le113,le114] hW91 hE107 fun a108 hE109=>?_
   refine B4 (A7 ?_)
   refine P5 8 kz hW91 fun w110 hF111 hW112 hT113=>?_
   refine D6 [0,1,2,3] [le104,le105,le106,le110,le111,le107,le108,le109,le112,le113,le114,(29,.v (.slice AI_ k2 cI_)),(31,.v (.int .i64 (IntKind.i64.wrap (((((D.f 3).f k1).f 1).f k2).n))))] 5 (C0 (B2 (B2 (C0 (B2 (C0 (B2 (B2 (C0 (B2 C6)))))))))) (fun _ h=>h.cells) hT113 hE109 fun a114 hE115=>?_
   let lc127:Value:=.int .i64 (IntKind.i64.wrap (((((D.f 3).f k1).f 1).f k2).n))
   refine C9 (i:=4) kz (C3 hE115 (f:=14) (vs:=[lc127]) (d:=32) kz Tryz.call14 (Bw (IntKind.i64.wrap (((((D.f 3).f k1).f 1).f k2).n)) _) ?_)
   rintro e_ w117 ⟨rfl,hs116⟩
   refine ⟨_,rfl,fun a118 hE119=>?_⟩
   have hW120:=hW112.next_nil hs116
   have hF121:=hW112.frN hs116
   have hT122:=TT.ofW hF121 hW120
   refine ⟨fun _=>hT122,?_⟩
   refine C9 (i:=5) kz (G4 hW120 hE119 (e:=34) (size:=5) (len:=1) (cs:=[lc127,lc121,lc122,lc121,lc121]) (d:=33) kz kz fun b123 a124 w125 hb126 hz127 hF128 hW129 hE130=>?_)
   have hT131:=TT.ofW (hF121.trans hF128) hW129
   refine ⟨fun _=>hT131,?_⟩
   refine C9 (i:=6) kz (I7 hW129 hE130 (k:=1) (d:=34) (t:=31) (e:=34) (size:=5) (bytes:=88) (A:=AI_) (As:=(some ⟨b123,0,none⟩)) (m0:=k2) (c:=cI_) (m:=1) (cs:=1) (xs:=xsI_) (news:=[lc127,lc121,lc122,lc121,lc121]) kz kz rfl (M5 (hW129.own 2 _ rfl) (K6 kz)) (N7 (hW129.own 2 _ rfl)) (by omega) fun A132 c133 a134 w135 hF136 hW137 hE138=>?_)
   have hT139:=TT.ofW ((hF121.trans hF128).trans hF136) hW137
   refine ⟨fun _=>hT139,?_⟩
   refine D6 [7] [le104,le105,le106,le110,le111,le107,le108,le109,le112,le113,le114,(34,.v (.slice A132 (k2 + 1) c133)),(35,.p 3 3)] 1 (C0 (B2 (B2 (C0 (B2 (C0 (B2 (B2 (C0 (B2 C6)))))))))) (fun _ h=>h.cells) hT139 hE138 fun a140 hE141=>?_
   refine C9 (i:=8) kz (C7 hW137 hE141 (oi:=3) (cs:=[lc120,lc121,lc122,.slice A132 (k2 + 1) c133,lc121]) kz fun w142 hF143 hW144 hE145=>?_)
   refine ⟨fun h=>absurd rfl h,?_⟩
   refine F3 kz ?_ _
   refine G2 (A7 (D9 [0,1] kz ?_))
   refine B3 [0,1] [] [le104,le105,le106,le110,le111,le107,le108,le109,le112,le113,(24,.v (.int .i64 (IntKind.i64.wrap (((k2:Nat):Int) + 1))))] hW144 hE145 fun a146 hE147=>?_
   refine B4 (A7 ?_)
   obtain ⟨hW148,hF149⟩:=hW144.cutR 2 [⟨AO_,cO_,34,5,k1,xsO_⟩,⟨A132,c133,34,5,k2 + 1,xsI_ ++ [lc127,lc121,lc122,lc121,lc121]⟩]
   have he150:IntKind.i64.wrap (((k2:Nat):Int) + 1) = ((k2 + 1:Nat):Int):=H1 (by omega)
   rw [he150] at hE147
   exact ⟨(((D.f 3).f k1).f 1).l - (k2 + 1),by omega,k2 + 1,A132,c133,xsI_ ++ [Value.int .i64 (IntKind.i64.wrap (((((D.f 3).f k1).f 1).f k2).n)),.slice none 0 0,.bool false,.slice none 0 0,.slice none 0 0],(cssI_ ++ [[Value.int .i64 (IntKind.i64.wrap (((((D.f 3).f k1).f 1).f k2).n)),.slice none 0 0,.bool false,.slice none 0 0,.slice none 0 0]]),rfl,by omega,by rw [take_range (by omega)]; exact (hTI_.move (((((hF111.trans hF121).trans hF128).trans hF136).trans hF143).trans hF149).step immM (((((hF111.trans hF121).trans hF128).trans hF136).trans hF143).trans hF149).to').snoc (x:=(fun i=>Y3 ((((D.f 3).f k1).f 1).f i)) k2) (TreeR.mk (n:=IntKind.i64.wrap (((((D.f 3).f k1).f 1).f k2).n)) (b:=false) (s:=[]) (l:=[]) (u:=[]) (fun _=>[]) (Octs.nil _ _) (Slots.nil _ _ _ _) (fun i_ x_ h_=>by simp at h_) (TagsR.nil _ _)),hE147.pk,hW148,((((((hF94.trans hF111).trans hF121).trans hF128).trans hF136).trans hF143).trans hF149)⟩
  have hf151:=of_decide_eq_false hc97
  refine wp_exit (E2 (E2 (G3 (A7 (P5 12 kz hW91 fun w152 hF153 hW154 hT155=>?_)))))
  refine D6 [0,1,2,3,6] [le104,le105,le106,le107,le108,le109,(38,.v (.slice AO_ k1 cO_)),(40,.v (.string ((((D.f 3).f k1).f 0).s))),(43,.v (.agg #[lc120,lc121,lc122,.slice AI_ k2 cI_,lc121]))] 8 (C0 (B2 (B2 (C0 (B2 C6))))) (fun _ h=>h.cells) hT155 hE96 fun a156 hE157=>?_
  have hf159:=hW154.giveF (G:=F) 1 [⟨AO_,cO_,34,5,k1,xsO_⟩] rfl
  have ho160:World.ownsRow w152 0 34 5 (.slice AI_ k2 cI_) k2 (xsI_):=hW154.own 1 _ rfl
  obtain ⟨hW161,hF162⟩:=hW154.cutR 1 [⟨AO_,cO_,34,5,k1,xsO_⟩]
  have hT158:=(hTI_.move (hF153.trans hF162).step immM (hF153.trans hF162).to')
  rw [Ci (by omega)] at hT158
  have hr163:TreeR w152 (D4 F w w152 [⟨b8,0,[.slice ((D.f 0).A) ((D.f 0).o.length) ((D.f 0).c),.slice (((D.f 1).f 0).A) (((D.f 1).f 0).l) (((D.f 1).f 0).c),.int .i32 (((D.f 1).f 1).n),.slice ((D.f 2).A) ((D.f 2).l) ((D.f 2).c),.slice ((D.f 3).A) ((D.f 3).l) ((D.f 3).c),.slice ((D.f 4).A) ((D.f 4).o.length) ((D.f 4).c)],true⟩,⟨b20,0,[.int .i64 0,.slice none 0 0,.bool false,.slice AO_ k1 cO_,.slice none 0 0],true⟩,⟨b57,0,[.string ((((D.f 3).f k1).f 0).s),.slice ((((D.f 3).f k1).f 1).A) ((((D.f 3).f k1).f 1).l) ((((D.f 3).f k1).f 1).c)],true⟩,⟨b71,0,[.int .i64 0,.slice none 0 0,.bool false,.slice AI_ k2 cI_,.slice none 0 0],true⟩] [⟨AO_,cO_,34,5,k1,xsO_⟩]) [.int .i64 0,.slice none 0 0,.bool false,.slice AI_ k2 cI_,.slice none 0 0] (Tree.mk 0 [] false ((List.range (((D.f 3).f k1).f 1).l).map (fun i=>Y3 ((((D.f 3).f k1).f 1).f i))) []):=Y1 hT158 ho160 (by rw [J4]; omega) (by rw [J4]; omega) hf159
  refine C9 (i:=4) kz (Cg (d:=41) (src:=9) (dst:=30) (e:=5) (s:=((((D.f 3).f k1).f 0).s)) hW161 hE157 (by omega) fun b164 c165 a166 w167 hF168 hW169 hO170 hE171=>?_)
  have hO172:=hO170 F
  have hT173:=TT.ofW (hF162.trans hF168) hW169
  refine ⟨fun _=>hT173,?_⟩
  let lc128:Value:=.slice (some ⟨b164,0,none⟩) ((sb ((((D.f 3).f k1).f 0).s)).length) c165
  refine C9 (i:=5) kz (C3 hE171 (f:=12) (vs:=[lc128]) (d:=42) kz Tryz.call12 (S3 (some ⟨b164,0,none⟩) ((sb ((((D.f 3).f k1).f 0).s)).length) c165 _) ?_)
  rintro e_ w175 ⟨rfl,hs174⟩
  refine ⟨_,rfl,fun a176 hE177=>?_⟩
  have hW178:=hW169.next_nil hs174
  have hF179:=hW169.frN hs174
  have hT180:=TT.ofW ((hF162.trans hF168).trans hF179) hW178
  refine ⟨fun _=>hT180,?_⟩
  refine C9 (i:=7) kz (G4 hW178 hE177 (e:=34) (size:=5) (len:=2) (cs:=[lc120,lc128,lc122,lc121,lc121,lc120,lc121,lc122,.slice AI_ k2 cI_,lc121]) (d:=44) kz kz fun b181 a182 w183 hb184 hz185 hF186 hW187 hE188=>?_)
  have hf189:=hW187.giveF (G:=F) 1 [⟨AO_,cO_,34,5,k1,xsO_⟩] rfl
  have ho190:World.ownsRow w183 0 34 5 (.slice (some ⟨b181,0,none⟩) 2 2) 2 ([lc120,lc128,lc122,lc121,lc121,lc120,lc121,lc122,.slice AI_ k2 cI_,lc121]):=hW187.own 1 _ rfl
  obtain ⟨hW191,hF192⟩:=hW187.cutR 1 [⟨AO_,cO_,34,5,k1,xsO_⟩]
  have hr193:TreeR w183 (D4 F w w183 [⟨b8,0,[.slice ((D.f 0).A) ((D.f 0).o.length) ((D.f 0).c),.slice (((D.f 1).f 0).A) (((D.f 1).f 0).l) (((D.f 1).f 0).c),.int .i32 (((D.f 1).f 1).n),.slice ((D.f 2).A) ((D.f 2).l) ((D.f 2).c),.slice ((D.f 3).A) ((D.f 3).l) ((D.f 3).c),.slice ((D.f 4).A) ((D.f 4).o.length) ((D.f 4).c)],true⟩,⟨b20,0,[.int .i64 0,.slice none 0 0,.bool false,.slice AO_ k1 cO_,.slice none 0 0],true⟩,⟨b57,0,[.string ((((D.f 3).f k1).f 0).s),.slice ((((D.f 3).f k1).f 1).A) ((((D.f 3).f k1).f 1).l) ((((D.f 3).f k1).f 1).c)],true⟩,⟨b71,0,[.int .i64 0,.slice none 0 0,.bool false,.slice AI_ k2 cI_,.slice none 0 0],true⟩] [⟨AO_,cO_,34,5,k1,xsO_⟩]) [.int .i64 0,.slice none 0 0,.bool false,.slice (some ⟨b181,0,none⟩) 2 2,.slice none 0 0] (Tree.mk 0 [] false [(Tree.mk 0 (sb ((((D.f 3).f k1).f 0).s)) false [] []),(Tree.mk 0 [] false ((List.range (((D.f 3).f k1).f 1).l).map (fun i=>Y3 ((((D.f 3).f k1).f 1).f i))) [])] []):=Y1 (show Trees _ _ [.int .i64 0,.slice (some ⟨b164,0,none⟩) ((sb ((((D.f 3).f k1).f 0).s)).length) c165,.bool false,.slice none 0 0,.slice none 0 0,.int .i64 0,.slice none 0 0,.bool false,.slice AI_ k2 cI_,.slice none 0 0] [(Tree.mk 0 (sb ((((D.f 3).f k1).f 0).s)) false [] []),(Tree.mk 0 [] false ((List.range (((D.f 3).f k1).f 1).l).map (fun i=>Y3 ((((D.f 3).f k1).f 1).f i))) [])] [[.int .i64 0,.slice (some ⟨b164,0,none⟩) ((sb ((((D.f 3).f k1).f 0).s)).length) c165,.bool false,.slice none 0 0,.slice none 0 0],[.int .i64 0,.slice none 0 0,.bool false,.slice AI_ k2 cI_,.slice none 0 0]] from (Trees.snoc (Trees.snoc (Trees.nil _ _) (TreeR.mk (n:=0) (b:=false) (s:=(sb ((((D.f 3).f k1).f 0).s))) (l:=[]) (u:=[]) (fun _=>[]) (hO172.move ((hF179.trans hF186).trans hF192).step immM ((hF179.trans hF186).trans hF192).to') (Slots.nil _ _ _ _) (fun i_ x_ h_=>by simp at h_) (TagsR.nil _ _))) (hr163.move (((hF168.trans hF179).trans hF186).trans hF192).step immM (((hF168.trans hF179).trans hF186).trans hF192).to'))) ho190 (rfl) (by simp) hf189
  have hT194:=TT.ofW ((((hF162.trans hF168).trans hF179).trans hF186).trans hF192) hW191
  refine ⟨fun _=>hT194,?_⟩
  let lc129:Value:=.slice (some ⟨b181,0,none⟩) 2 2
  refine C9 (i:=8) kz (C3 hE188 (f:=11) (vs:=[lc129]) (d:=45) kz Tryz.call11 (Ck (some ⟨b181,0,none⟩) 2 2 _) ?_)
  rintro e_ w196 ⟨rfl,hs195⟩
  refine ⟨_,rfl,fun a197 hE198=>?_⟩
  have hW199:=hW191.next_nil hs195
  have hF200:=hW191.frN hs195
  have hT201:=TT.ofW (((((hF162.trans hF168).trans hF179).trans hF186).trans hF192).trans hF200) hW199
  refine ⟨fun _=>hT201,?_⟩
  refine C9 (i:=9) kz (G4 hW199 hE198 (e:=34) (size:=5) (len:=1) (cs:=[lc120,lc121,lc122,lc129,lc121]) (d:=46) kz kz fun b202 a203 w204 hb205 hz206 hF207 hW208 hE209=>?_)
  have hT210:=TT.ofW ((((((hF162.trans hF168).trans hF179).trans hF186).trans hF192).trans hF200).trans hF207) hW208
  refine ⟨fun _=>hT210,?_⟩
  refine C9 (i:=10) kz (I7 hW208 hE209 (k:=0) (d:=47) (t:=31) (e:=34) (size:=5) (bytes:=88) (A:=AO_) (As:=(some ⟨b202,0,none⟩)) (m0:=k1) (c:=cO_) (m:=1) (cs:=1) (xs:=xsO_) (news:=[lc120,lc121,lc122,lc129,lc121]) kz kz rfl (M5 (hW208.own 1 _ rfl) (K6 kz)) (N7 (hW208.own 1 _ rfl)) (by omega) fun A211 c212 a213 w214 hF215 hW216 hE217=>?_)
  have hT218:=TT.ofW (((((((hF162.trans hF168).trans hF179).trans hF186).trans hF192).trans hF200).trans hF207).trans hF215) hW216
  refine ⟨fun _=>hT218,?_⟩
  refine D6 [11] [le104,le105,le106,le107,le108,le109,(47,.v (.slice A211 (k1 + 1) c212)),(48,.p 1 3)] 1 (C0 (B2 (B2 (C0 (B2 C6))))) (fun _ h=>h.cells) hT218 hE217 fun a219 hE220=>?_
  refine C9 (i:=12) kz (C7 hW216 hE220 (oi:=1) (cs:=[lc120,lc121,lc122,.slice A211 (k1 + 1) c212,lc121]) kz fun w221 hF222 hW223 hE224=>?_)
  refine ⟨fun h=>absurd rfl h,?_⟩
  refine F3 kz ?_ _
  refine G2 (A7 (D9 [0,1] kz ?_))
  refine B3 [0,1] [] [le104,le105,le106,le107,le108,(16,.v (.int .i64 (IntKind.i64.wrap (((k1:Nat):Int) + 1))))] hW223 hE224 fun a225 hE226=>?_
  refine B4 (A7 ?_)
  obtain ⟨hE227,hW228,hF229⟩:=hW223.cutB hE226 2 [lo101,⟨b20,0,[lc120,lc121,lc122,.slice A211 (k1 + 1) c212,lc121],true⟩] [le104,le105,le106,le107,le108,(16,.v (.int .i64 (IntKind.i64.wrap (((k1:Nat):Int) + 1))))]
  obtain ⟨hW230,hF231⟩:=hW228.cutR 1 [⟨A211,c212,34,5,k1 + 1,xsO_ ++ [lc120,lc121,lc122,lc129,lc121]⟩]
  have he232:IntKind.i64.wrap (((k1:Nat):Int) + 1) = ((k1 + 1:Nat):Int):=H1 (by omega)
  rw [he232] at hE227
  exact ⟨(D.f 3).l - (k1 + 1),by omega,k1 + 1,A211,c212,xsO_ ++ [Value.int .i64 0,.slice none 0 0,.bool false,.slice (some ⟨b181,0,none⟩) 2 2,.slice none 0 0],(cssO_ ++ [[Value.int .i64 0,.slice none 0 0,.bool false,.slice (some ⟨b181,0,none⟩) 2 2,.slice none 0 0]]),rfl,by omega,by rw [take_range (by omega)]; exact (hTO_.move (((((((((((((((((hF62.trans hF66).trans hF76).trans hF80).trans hF86).trans hF94).trans hF153).trans hF162).trans hF168).trans hF179).trans hF186).trans hF192).trans hF200).trans hF207).trans hF215).trans hF222).trans hF229).trans hF231).step immM (((((((((((((((((hF62.trans hF66).trans hF76).trans hF80).trans hF86).trans hF94).trans hF153).trans hF162).trans hF168).trans hF179).trans hF186).trans hF192).trans hF200).trans hF207).trans hF215).trans hF222).trans hF229).trans hF231).to').snoc (x:=(fun i=>G6 ((D.f 3).f i)) k1) (hr193.move (((((hF200.trans hF207).trans hF215).trans hF222).trans hF229).trans hF231).step immM (((((hF200.trans hF207).trans hF215).trans hF222).trans hF229).trans hF231).to'),hE227.pk,hW230,((((((((((((((((((hF43.trans hF62).trans hF66).trans hF76).trans hF80).trans hF86).trans hF94).trans hF153).trans hF162).trans hF168).trans hF179).trans hF186).trans hF192).trans hF200).trans hF207).trans hF215).trans hF222).trans hF229).trans hF231)⟩
 have hf233:=of_decide_eq_false hc46
 refine wp_exit (E2 (E2 (G3 (A7 (B8 [0,1,2] kz ?_)))))
 have hf235:=hW40.giveF (G:=F) 0 [] rfl
 have ho236:World.ownsRow w38 0 34 5 (.slice AO_ k1 cO_) k1 (xsO_):=hW40.own 0 _ rfl
 obtain ⟨hW237,hF238⟩:=hW40.cutR 0 []
 have hT234:=(hTO_.move hF238.step immM hF238.to')
 rw [Ci (by omega)] at hT234
 have hr239:TreeR w38 (D4 F w w38 [⟨b8,0,[.slice ((D.f 0).A) ((D.f 0).o.length) ((D.f 0).c),.slice (((D.f 1).f 0).A) (((D.f 1).f 0).l) (((D.f 1).f 0).c),.int .i32 (((D.f 1).f 1).n),.slice ((D.f 2).A) ((D.f 2).l) ((D.f 2).c),.slice ((D.f 3).A) ((D.f 3).l) ((D.f 3).c),.slice ((D.f 4).A) ((D.f 4).o.length) ((D.f 4).c)],true⟩,⟨b20,0,[.int .i64 0,.slice none 0 0,.bool false,.slice AO_ k1 cO_,.slice none 0 0],true⟩] []) [.int .i64 0,.slice none 0 0,.bool false,.slice AO_ k1 cO_,.slice none 0 0] (Tree.mk 0 [] false ((List.range (D.f 3).l).map (fun i=>G6 ((D.f 3).f i))) []):=Y1 hT234 ho236 (by rw [J4]; omega) (by rw [J4]; omega) hf235
 refine B1 (C3 hE45 (f:=30) (vs:=[]) (d:=50) kz Tryz.call30 (Mw _ (D4 F w w38 [lo101,lo102] [])) ?_)
 rintro e_ w244 ⟨A242,c243,rfl,hr241,hs240⟩
 obtain ⟨xs245,h246,h247⟩:=hr241.move (Step.refl _ B5) B0 (hW237.laid (G:=F) hs240)
 refine ⟨_,rfl,fun a248 hE249=>?_⟩
 have hW250:=hW237.next_nil hs240
 have hF251:=hW237.frN hs240
 refine B1 (D7 hW250 hE249 (d:=11) (cs:=[lc121,lc120]) kz fun b252 a253 w254 hb255 hz256 hF257 hW258 hE259=>?_)
 refine B1 (C7 hW258 hE259 (oi:=2) (cs:=[.slice A242 sConsumerMemberAssignmentF.length c243,.int .i64 Gp]) kz fun w260 hF261 hW262 hE263=>?_)
 refine B4 (A7 ?_)
 refine J2 13 kz hW262 fun w264 hF265 hW266 hT267=>?_
 refine D6 [0,1,2,3,4,5,6] [(51,.v (.int .i64 k)),(53,.v (.slice A242 sConsumerMemberAssignmentF.length c243)),(54,.v (.int .i64 k)),(55,.v (.agg #[lc120,lc121,lc122,lc124,lc121])),(57,.v (.slice ((D.f 4).A) ((D.f 4).o.length) ((D.f 4).c)))] 7 (B2 C6) (fun _ h=>h.cells) hT267 hE263 fun a268 hE269=>?_
 refine C9 (i:=7) kz (C3 hE269 (f:=12) (vs:=[lc119]) (d:=58) kz Tryz.call12 (S3 ((D.f 4).A) ((D.f 4).o.length) ((D.f 4).c) _) ?_)
 rintro e_ w271 ⟨rfl,hs270⟩
 refine ⟨_,rfl,fun a272 hE273=>?_⟩
 have hW274:=hW266.next_nil hs270
 have hF275:=hW266.frN hs270
 have hT276:=TT.ofW hF275 hW274
 refine ⟨fun _=>hT276,?_⟩
 refine C9 (i:=8) kz (G4 hW274 hE273 (e:=34) (size:=5) (len:=2) (cs:=[lc120,lc121,lc122,lc124,lc121,lc120,lc119,lc122,lc121,lc121]) (d:=59) kz kz fun b277 a278 w279 hb280 hz281 hF282 hW283 hE284=>?_)
 have hf285:=hW283.giveF (G:=F) 0 [] rfl
 have ho286:World.ownsRow w279 0 34 5 (.slice (some ⟨b277,0,none⟩) 2 2) 2 ([lc120,lc121,lc122,lc124,lc121,lc120,lc119,lc122,lc121,lc121]):=hW283.own 0 _ rfl
 obtain ⟨hW287,hF288⟩:=hW283.cutR 0 []
 have hr289:TreeR w279 (D4 F w w279 [⟨b8,0,[.slice ((D.f 0).A) ((D.f 0).o.length) ((D.f 0).c),.slice (((D.f 1).f 0).A) (((D.f 1).f 0).l) (((D.f 1).f 0).c),.int .i32 (((D.f 1).f 1).n),.slice ((D.f 2).A) ((D.f 2).l) ((D.f 2).c),.slice ((D.f 3).A) ((D.f 3).l) ((D.f 3).c),.slice ((D.f 4).A) ((D.f 4).o.length) ((D.f 4).c)],true⟩,⟨b20,0,[.int .i64 0,.slice none 0 0,.bool false,.slice AO_ k1 cO_,.slice none 0 0],true⟩,⟨b252,0,[.slice A242 sConsumerMemberAssignmentF.length c243,.int .i64 Gp],true⟩] []) [.int .i64 0,.slice none 0 0,.bool false,.slice (some ⟨b277,0,none⟩) 2 2,.slice none 0 0] (Tree.mk 0 [] false [(Tree.mk 0 [] false ((List.range (D.f 3).l).map (fun i=>G6 ((D.f 3).f i))) []),(Tree.mk 0 ((D.f 4).o) false [] [])] []):=Y1 (show Trees _ _ [.int .i64 0,.slice none 0 0,.bool false,.slice AO_ k1 cO_,.slice none 0 0,.int .i64 0,.slice ((D.f 4).A) ((D.f 4).o.length) ((D.f 4).c),.bool false,.slice none 0 0,.slice none 0 0] [(Tree.mk 0 [] false ((List.range (D.f 3).l).map (fun i=>G6 ((D.f 3).f i))) []),(Tree.mk 0 ((D.f 4).o) false [] [])] [[.int .i64 0,.slice none 0 0,.bool false,.slice AO_ k1 cO_,.slice none 0 0],[.int .i64 0,.slice ((D.f 4).A) ((D.f 4).o.length) ((D.f 4).c),.bool false,.slice none 0 0,.slice none 0 0]] from (Trees.snoc (Trees.snoc (Trees.nil _ _) (hr239.move ((((((hF251.trans hF257).trans hF261).trans hF265).trans hF275).trans hF282).trans hF288).step immM ((((((hF251.trans hF257).trans hF261).trans hF265).trans hF275).trans hF282).trans hF288).to')) (TreeR.mk (n:=0) (b:=false) (s:=(D.f 4).o) (l:=[]) (u:=[]) (fun _=>[]) (g5.move hW287.step B0 hW287.imm) (Slots.nil _ _ _ _) (fun i_ x_ h_=>by simp at h_) (TagsR.nil _ _)))) ho286 (rfl) (by simp) hf285
 have hT290:=TT.ofW ((hF275.trans hF282).trans hF288) hW287
 refine ⟨fun _=>hT290,?_⟩
 refine C9 (i:=9) kz (C3 hE284 (f:=11) (vs:=[.slice (some ⟨b277,0,none⟩) 2 2]) (d:=60) kz Tryz.call11 (Ck (some ⟨b277,0,none⟩) 2 2 _) ?_)
 rintro e_ w292 ⟨rfl,hs291⟩
 refine ⟨_,rfl,fun a293 hE294=>?_⟩
 have hW295:=hW287.next_nil hs291
 have hF296:=hW287.frN hs291
 have hT297:=TT.ofW (((hF275.trans hF282).trans hF288).trans hF296) hW295
 refine ⟨fun _=>hT297,?_⟩
 refine C9 (i:=10) kz (C3 hE294 (f:=18) (vs:=[.slice A242 sConsumerMemberAssignmentF.length c243,.int .i64 k,.agg #[lc120,lc121,lc122,.slice (some ⟨b277,0,none⟩) 2 2,lc121]]) (d:=61) kz Tryz.call18 (Eh _ _ _ sConsumerMemberAssignmentF k _ (Tree.mk 0 [] false [(Tree.mk 0 [] false ((List.range (D.f 3).l).map (fun i=>G6 ((D.f 3).f i))) []),(Tree.mk 0 ((D.f 4).o) false [] [])] []) _ _ ⟨xs245,(h246.move ((((((hF257.trans hF261).trans hF265).trans hF275).trans hF282).trans hF288).trans hF296).step immM ((((((hF257.trans hF261).trans hF265).trans hF275).trans hF282).trans hF288).trans hF296).to'),(fun i_ x_ h_=>((h247 i_ x_ h_).move ((((((hF257.trans hF261).trans hF265).trans hF275).trans hF282).trans hF288).trans hF296).step immM ((((((hF257.trans hF261).trans hF265).trans hF275).trans hF282).trans hF288).trans hF296).to'))⟩ MD MC (hr289.move hF296.step immM hF296.to')) ?_)
 rintro e_ w301 ⟨cs300,rfl,hr299,hs298⟩
 have hr302:=hr299.move (Step.refl _ B5) B0 (hW295.laid (G:=F) hs298)
 obtain ⟨n303,s304,b305,l306,u307,A308,c309,A310,c311,A312,c313,xs314,ht320,hcs315,h316,h317,h318,h319⟩:=hr302.open_
 rw [hcs315] at hr302
 have hsm321:=h316.small
 have hsm322:=h317.small
 rw [hcs315]
 refine ⟨_,rfl,fun a323 hE324=>?_⟩
 have hW325:=hW295.next_nil hs298
 have hF326:=hW295.frN hs298
 have hT327:=TT.ofW ((((hF275.trans hF282).trans hF288).trans hF296).trans hF326) hW325
 refine ⟨fun _=>hT327,?_⟩
 refine C9 (i:=11) kz (C3 hE324 (f:=17) (vs:=[.agg #[.int .i64 n303,.slice A308 s304.length c309,.bool b305,.slice A310 l306.length c311,.slice A312 u307.length c313]]) (d:=62) kz Tryz.call17 (Ee _ _ _ _ _ hr302 (Nat.le_refl _)) ?_)
 rintro e_ w331 ⟨cs330,rfl,hr329,hs328⟩
 have hr332:=hr329.move (Step.refl _ B5) B0 (hW325.laid (G:=F) hs328)
 obtain ⟨n333,s334,b335,l336,u337,A338,c339,A340,c341,A342,c343,xs344,ht350,hcs345,h346,h347,h348,h349⟩:=hr332.open_
 rw [hcs345] at hr332
 have hsm351:=h346.small
 have hsm352:=h347.small
 rw [hcs345]
 refine ⟨_,rfl,fun a353 hE354=>?_⟩
 have hW355:=hW325.next_nil hs328
 have hF356:=hW325.frN hs328
 have hT357:=TT.ofW (((((hF275.trans hF282).trans hF288).trans hF296).trans hF326).trans hF356) hW355
 refine ⟨fun _=>hT357,?_⟩
 refine C9 (i:=12) kz (C3 hE354 (f:=31) (vs:=[.int .i64 k,.agg #[.int .i64 n333,.slice A338 s334.length c339,.bool b335,.slice A340 l336.length c341,.slice A342 u337.length c343]]) (d:=63) kz Tryz.call31 (MB k _ (C2 k 8 sConsumerMemberAssignmentF (Tree.mk 0 [] false [(Tree.mk 0 [] false ((List.range (D.f 3).l).map (fun i=>G6 ((D.f 3).f i))) []),(Tree.mk 0 ((D.f 4).o) false [] [])] [])) _ _ hr332 (Jo _ _) hroom) ?_)
 rintro e_ w362 ⟨A360,c361,rfl,ho359,hs358⟩
 refine ⟨_,rfl,fun a363 hE364=>?_⟩
 obtain ⟨hW365,hF366⟩:=hW355.frFresh hs358 (B6 A360 c361 5 (Bd k (C2 k 8 sConsumerMemberAssignmentF (Tree.mk 0 [] false [(Tree.mk 0 [] false ((List.range (D.f 3).l).map (fun i=>G6 ((D.f 3).f i))) []),(Tree.mk 0 ((D.f 4).o) false [] [])] [])))) (Nat.le_refl _) ho359
 have hT367:=TT.ofW ((((((hF275.trans hF282).trans hF288).trans hF296).trans hF326).trans hF356).trans hF366) hW365
 refine ⟨fun _=>hT367,?_⟩
 refine C9 (i:=13) kz (T5 [4] hW365.cells hE364 (env':=[(4,.v (.slice A360 ((Bd k (C2 k 8 sConsumerMemberAssignmentF (Tree.mk 0 [] false [(Tree.mk 0 [] false ((List.range (D.f 3).l).map (fun i=>G6 ((D.f 3).f i))) []),(Tree.mk 0 ((D.f 4).o) false [] [])] []))).length) c361))]) kz fun a368 hE369=>?_)
 refine ⟨fun h=>absurd rfl h,?_⟩
 refine F3 kz ?_ _
 refine A7 (wp_ret (D5 hE369 hW365.cells (v:=.slice A360 ((Bd k (C2 k 8 sConsumerMemberAssignmentF (Tree.mk 0 [] false [(Tree.mk 0 [] false ((List.range (D.f 3).l).map (fun i=>G6 ((D.f 3).f i))) []),(Tree.mk 0 ((D.f 4).o) false [] [])] []))).length) c361) kz ?_))
 exact Ko hW365 (k:=0) rfl rfl
end Go.Proofs.YtipblegipibplaaGreatDoor.ME