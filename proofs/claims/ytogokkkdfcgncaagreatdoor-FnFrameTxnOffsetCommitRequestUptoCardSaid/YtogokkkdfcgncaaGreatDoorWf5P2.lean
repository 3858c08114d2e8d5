/- The texts of a claim, put together: the engine, the contracts, the law. Own work. -/
import Derived.Test.YtogokkkdfcgncaaGreatDoorWf5P1
import Derived.Test.YtogokkkdfcgncaaGreatDoorProg
namespace Go.Proofs.YtogokkkdfcgncaaGreatDoor.ME
open Go
open Go.RowKit
set_option linter.unusedVariables false
set_option linter.unusedSimpArgs false
set_option maxRecDepth 20000
abbrev z7 (x0) (x1) (x2) (x3) (x4) (x5) (x6) (x7) (x8) (x9):=([.int .i64 x0,.int .i64 x1,.int .i64 x2,.int .i64 x3,.int .i64 x4,.int .i64 x5,.int .i64 x6,.slice x7 x8 x9]:List Value)
theorem sHas (k x1 x2 x3 x4 x5 x6:Int) (fs:List Fld) (AF:Option Addr) (cF:Nat) (v:Int) (w:World) :
  Calls Tryz.prog 80 #[.agg #[.int .i64 k,.int .i64 x1,.int .i64 x2,.int .i64 x3,.int .i64 x4,.int .i64 x5,.int .i64 x6,.slice AF fs.length cF],.int .i64 v] w (qcF w (.bool (Fld.has (Fld.mk k x1 x2 x3 x4 x5 x6 fs) v))):=by
 refine enter (n:=20) Tryz.func80 rfl Tryz.ntmps80 kz fun a hE=>?_
 have hW:=WOk.start w Nil
 refine qae [0,1] kz ?_
 refine qam (qbk hW hE (d:=2) (cs:=(z7 k x1 x2 x3 x4 x5 x6 AF fs.length cF)) kz fun b1 a2 w3 hb4 hz5 hF6 hW7 hE8=>?_)
 refine qak [1] [] [(1,.v (.int .i64 v)),(2,.p 0 0)] hW7 hE8 fun a9 af=>?_
 refine qaf (qab ?_)
 refine qae [0,1,2,3,4,5,6,7,8,9,10,11,12,13,14,15] kz ?_
 refine qak [0,1,2,3,4] [5,6,7,8,9,10,11,12,13,14,15] [(1,.v (.int .i64 v)),(2,.p 0 0),(9,.v (.bool (decide (x1 ≤ v))))] hW7 af fun av ac=>?_
 refine (Bool.eq_false_or_eq_true (decide (x1 ≤ v))).elim (fun aa=>?_) (fun aa=>?_)
 ·
  have ao:=of_decide_eq_true aa
  have ag:=ac
  rw [aa] at ag
  refine qak [5,6,7,8] [9,10,11,12,13,14,15] [(1,.v (.int .i64 v)),(2,.p 0 0),(9,.v (.bool true)),(13,.v (.bool (decide (x2 < 0))))] hW7 ag fun aw ae=>?_
  refine (Bool.eq_false_or_eq_true (decide (x2 < 0))).elim (fun ab=>?_) (fun ab=>?_)
  ·
   have ap:=of_decide_eq_true ab
   have ah:=ae
   rw [ab] at ah
   refine qak [9,10,11,12,13,14,15] [] [(4,.v (.bool true))] hW7 ah fun ax ai=>?_
   refine qaf (qab ?_)
   refine wp_ret (qaE ai hW7.cells (v:=.bool true) kz ?_)
   exact ⟨by simp only [Fld.has,aa,ab,Bool.true_and,Bool.and_true,Bool.false_and,Bool.and_false,Bool.true_or,Bool.false_or,Bool.or_true,Bool.or_false],hW7.step⟩
  have ar:=of_decide_eq_false ab
  have aj:=ae
  rw [ab] at aj
  refine qak [9,10,11,12,13,14,15] [] [(4,.v (.bool (decide (v ≤ x2))))] hW7 aj fun ay ak=>?_
  refine qaf (qab ?_)
  refine wp_ret (qaE ak hW7.cells (v:=.bool (decide (v ≤ x2))) kz ?_)
  exact ⟨by simp only [Fld.has,aa,ab,Bool.true_and,Bool.and_true,Bool.false_and,Bool.and_false,Bool.true_or,Bool.false_or,Bool.or_true,Bool.or_false],hW7.step⟩
 have au:=of_decide_eq_false aa
 have al:=ac
 rw [aa] at al
 refine qak [5,6,7,8,9,10,11,12,13,14,15] [] [(4,.v (.bool false))] hW7 al fun az am=>?_
 refine qaf (qab ?_)
 refine wp_ret (qaE am hW7.cells (v:=.bool false) kz ?_)
 exact ⟨by simp only [Fld.has,aa,Bool.true_and,Bool.and_true,Bool.false_and,Bool.and_false,Bool.true_or,Bool.false_or,Bool.or_true,Bool.or_false],hW7.step⟩
abbrev z9 (x0) (x1) (x2) (x3) (x4) (x5) (x6) (x7) (x8) (x9) (x10):=([.int .i64 x0,.slice x1 x2 x3,.bool x4,.slice x5 x6 x7,.slice x8 x9 x10]:List Value)
theorem qmD (k x1 x2 x3 x4 x5 x6:Int) (fs:List Fld) (AF:Option Addr) (cF:Nat) (v:Int) (n:Int) (s:Bs) (b:Bool) (l:List Tree) (u:List (Int × Bs)) (A1:Option Addr) (c1:Nat) (A2:Option Addr) (c2:Nat) (A3:Option Addr) (c3:Nat) (w:World) :
  Calls Tryz.prog 108 #[.agg #[.int .i64 k,.int .i64 x1,.int .i64 x2,.int .i64 x3,.int .i64 x4,.int .i64 x5,.int .i64 x6,.slice AF fs.length cF],.int .i64 v,.agg #[.int .i64 n,.slice A1 s.length c1,.bool b,.slice A2 l.length c2,.slice A3 u.length c3]] w (qcF w (.bool (Fld.nul (Fld.mk k x1 x2 x3 x4 x5 x6 fs) v (Tree.mk n s b l u)))):=by
 refine enter (n:=20) Tryz.func108 rfl Tryz.ntmps108 kz fun a hE=>?_
 have hW:=WOk.start w Nil
 refine qae [0,1,2] kz ?_
 refine qam (qbk hW hE (d:=3) (cs:=(z7 k x1 x2 x3 x4 x5 x6 AF fs.length cF)) kz fun b1 a2 w3 hb4 hz5 hF6 hW7 hE8=>?_)
 refine qam (qbk hW7 hE8 (d:=5) (cs:=(z9 n A1 s.length c1 b A2 l.length c2 A3 u.length c3)) kz fun b9 ay az ar au av aa ag=>?_)
 refine qak [2] [] [(1,.v (.int .i64 v)),(3,.p 0 0),(5,.p 1 0)] aa ag fun aA ah=>?_
 refine qaf (qab ?_)
 refine qae [0,1,2,3,4,5,6,7,8,9,10,11,12,13] kz ?_
 refine qak [0,1,2] [3,4,5,6,7,8,9,10,11,12,13] [(1,.v (.int .i64 v)),(3,.p 0 0),(9,.v (.bool b))] aa ah fun aB ae=>?_
 refine (Bool.eq_false_or_eq_true (b)).elim (fun ac=>?_) (fun ac=>?_)
 ·
  have ai:=ae.cast (env':=[(1,.v (.int .i64 v)),(3,.p 0 0),(9,.v (.bool true))]) (by rw [ac])
  refine qak [3,4,5,6,7] [8,9,10,11,12,13] [(1,.v (.int .i64 v)),(3,.p 0 0),(14,.v (.bool (decide (x3 ≥ 0))))] aa ai fun aC af=>?_
  refine (Bool.eq_false_or_eq_true (decide (x3 ≥ 0))).elim (fun ab=>?_) (fun ab=>?_)
  ·
   have aw:=of_decide_eq_true ab
   have aj:=af
   rw [ab] at aj
   refine qak [8,9,10,11,12,13] [] [(6,.v (.bool (decide (v ≥ x3))))] aa aj fun aD ak=>?_
   refine qaf (qab ?_)
   refine wp_ret (qaE ak aa.cells (v:=.bool (decide (v ≥ x3))) kz ?_)
   exact ⟨by simp only [Fld.nul,ac,ab,Bool.true_and,Bool.and_true,Bool.false_and,Bool.and_false,Bool.true_or,Bool.false_or,Bool.or_true,Bool.or_false],aa.step⟩
  have ax:=of_decide_eq_false ab
  have al:=af
  rw [ab] at al
  refine qak [8,9,10,11,12,13] [] [(6,.v (.bool false))] aa al fun aE am=>?_
  refine qaf (qab ?_)
  refine wp_ret (qaE am aa.cells (v:=.bool false) kz ?_)
  exact ⟨by simp only [Fld.nul,ac,ab,Bool.true_and,Bool.and_true,Bool.false_and,Bool.and_false,Bool.true_or,Bool.false_or,Bool.or_true,Bool.or_false],aa.step⟩
 have ao:=ae.cast (env':=[(1,.v (.int .i64 v)),(3,.p 0 0),(9,.v (.bool false))]) (by rw [ac])
 refine qak [3,4,5,6,7,8,9,10,11,12,13] [] [(6,.v (.bool false))] aa ao fun aF ap=>?_
 refine qaf (qab ?_)
 refine wp_ret (qaE ap aa.cells (v:=.bool false) kz ?_)
 exact ⟨by simp only [Fld.nul,ac,Bool.true_and,Bool.and_true,Bool.false_and,Bool.and_false,Bool.true_or,Bool.false_or,Bool.or_true,Bool.or_false],aa.step⟩
theorem qjX (k:Int) (w:World):Calls Tryz.prog 112 #[.int .i64 k] w (qcF w (.int .i64 ((qbB k:Nat):Int))):=by
 refine enter (n:=11) Tryz.func112 rfl Tryz.ntmps112 kz fun a hE=>?_
 have hW:=WOk.start w Nil
 refine qar [(0,.v (.int .i64 k))] hW hE fun a1 hE2=>?_
 refine wp_seq (qar [(3,.v (.int .i64 k))] hW hE2 fun a3 hE4=>?_)
 refine wp_block (qar [(3,.v (.int .i64 k)),(4,.v (.bool (k == 1)))] hW hE4 fun a5 hE6=>?_)
 refine qay hE6 (b:=k == 1) kz (fun hc7=>?_) (fun hc7=>?_)
 ·
  have hf8:k = 1:=by simpa using hc7
  refine qar [(2,.v (.int .i64 1))] hW hE6 fun a9 ah=>?_
  refine wp_ret (qaY (qaD (qaE ah hW.cells (v:=.int .i64 1) kz ?_)))
  exact ⟨by simp_all [qbB],hW.step⟩
 have am:k ≠ 1:=by simpa using hc7
 refine wp_seq (qar [(3,.v (.int .i64 k)),(6,.v (.bool (k == 2)))] hW hE6 fun ax aa=>?_)
 refine qay aa (b:=k == 2) kz (fun ab=>?_) (fun ab=>?_)
 ·
  have ao:k = 2:=by simpa using ab
  refine wp_skip (qab (qbw aa (b:=k == 2) kz (ab) ?_))
  refine qar [(2,.v (.int .i64 2))] hW aa fun ay ai=>?_
  refine wp_ret (qaY (qaD (qaE ai hW.cells (v:=.int .i64 2) kz ?_)))
  exact ⟨by simp_all [qbB],hW.step⟩
 have ap:k ≠ 2:=by simpa using ab
 refine qas [0,1] kz ?_
 refine qak [0,1] [] [(3,.v (.int .i64 k)),(6,.v (.bool (k == 5)))] hW aa fun az ac=>?_
 refine qaf (qab ?_)
 refine qay ac (b:=k == 5) kz (fun ae=>?_) (fun ae=>?_)
 ·
  have ar:k = 5:=by simpa using ae
  refine qar [(2,.v (.int .i64 2))] hW ac fun aA aj=>?_
  refine wp_ret (qaY (qaD (qaE aj hW.cells (v:=.int .i64 2) kz ?_)))
  exact ⟨by simp_all [qbB],hW.step⟩
 have au:k ≠ 5:=by simpa using ae
 refine qar [(9,.v (.bool (k == 3)))] hW ac fun aB af=>?_
 refine qay af (b:=k == 3) kz (fun ag=>?_) (fun ag=>?_)
 ·
  have av:k = 3:=by simpa using ag
  refine qar [(2,.v (.int .i64 4))] hW af fun aC ak=>?_
  refine wp_ret (qaY (qaD (qaE ak hW.cells (v:=.int .i64 4) kz ?_)))
  exact ⟨by simp_all [qbB],hW.step⟩
 have aw:k ≠ 3:=by simpa using ag
 refine wp_skip (qaF (qab (qar [(2,.v (.int .i64 8))] hW af fun aD al=>?_)))
 refine wp_ret (qaE al hW.cells (v:=.int .i64 8) kz ?_)
 exact ⟨by simp_all [qbB],hW.step⟩
theorem qjY (A:Option Addr) (c:Nat) (s:Bs) (hc:s.length ≤ c) (w:World) :
  Calls Tryz.prog 87 #[.slice A s.length c] w (qcF w (.slice A (qaC s).length c)):=by
 refine enter (n:=8) Tryz.func87 rfl Tryz.ntmps87 kz fun a hE=>?_
 have hW:=WOk.start w Nil
 refine qar [(0,.v (.slice A s.length c))] hW hE fun a1 hE2=>?_
 refine qae [0,1,2,3,4,5] kz ?_
 refine qak [0,1,2,3] [4,5] [(3,.v (.slice A s.length c)),(6,.v (.int .i64 (if 32767 < ((s.length:Nat):Int) then 32767 else ((s.length:Nat):Int))))] hW hE2 fun a3 hE4=>?_
 refine qam (qbH hE4 (t:=24) (A:=A) (m:=s.length) (cp:=c) (q:=(if 32767 < ((s.length:Nat):Int) then 32767 else ((s.length:Nat):Int))) (d:=7) (j:=(qaC s).length) kz (e:=5) (size:=1) (bytes:=1) kz (by simpa [qaC] using qhm s.length) (by simp only [qaC,List.length_take]; omega) fun a5 hE6=>?_)
 refine qak [5] [] [(2,.v (.slice A ((qaC s).length) c))] hW hE6 fun a7 hE8=>?_
 refine qaf (qab ?_)
 refine wp_ret (qaE hE8 hW.cells (v:=.slice A ((qaC s).length) c) kz ?_)
 exact ⟨rfl,hW.step⟩
theorem qlB (A:Option Addr) (c:Nat) (s:List Tree) (hc:s.length ≤ c) (w:World) :
  Calls Tryz.prog 109 #[.slice A s.length c] w (qcF w (.slice A (qaw s).length c)):=by
 refine enter (n:=8) Tryz.func109 rfl Tryz.ntmps109 kz fun a hE=>?_
 have hW:=WOk.start w Nil
 refine qar [(0,.v (.slice A s.length c))] hW hE fun a1 hE2=>?_
 refine qae [0,1,2,3,4,5] kz ?_
 refine qak [0,1,2,3] [4,5] [(3,.v (.slice A s.length c)),(6,.v (.int .i64 (if 32767 < ((s.length:Nat):Int) then 32767 else ((s.length:Nat):Int))))] hW hE2 fun a3 hE4=>?_
 refine qam (qbH hE4 (t:=25) (A:=A) (m:=s.length) (cp:=c) (q:=(if 32767 < ((s.length:Nat):Int) then 32767 else ((s.length:Nat):Int))) (d:=7) (j:=(qaw s).length) kz (e:=28) (size:=5) (bytes:=88) kz (by simpa [qaw] using qhm s.length) (by simp only [qaw,List.length_take]; omega) fun a5 hE6=>?_)
 refine qak [5] [] [(2,.v (.slice A ((qaw s).length) c))] hW hE6 fun a7 hE8=>?_
 refine qaf (qab ?_)
 refine wp_ret (qaE hE8 hW.cells (v:=.slice A ((qaw s).length) c) kz ?_)
 exact ⟨rfl,hW.step⟩
theorem qlC (A A':Option Addr) (c c':Nat) (s t:Bs) (w:World) (F:Nat → Nat → Prop) (hs:Octs w F A c s) (ht:Octs w F A' c' t) :
  Calls Tryz.prog 17 #[.slice A s.length c,.slice A' t.length c'] w (qcF w (.bool (decide (s = t)))):=by
 refine enter (n:=26) Tryz.func17 rfl Tryz.ntmps17 kz fun a hE=>?_
 have hW:=WOk.start w Nil
 have hl:=Slots.small hs
 refine qar [(0,.v (.slice A s.length c)),(1,.v (.slice A' t.length c'))] hW hE fun a1 hE2=>?_
 refine wp_seq (qar [(0,.v (.slice A s.length c)),(1,.v (.slice A' t.length c')),(10,.v (.bool (((s.length:Nat):Int) != ((t.length:Nat):Int))))] hW hE2 fun a3 hE4=>?_)
 refine qay hE4 (b:=((s.length:Nat):Int) != ((t.length:Nat):Int)) kz (fun hc5=>?_) (fun hc5=>?_)
 ·
  have hf6:((s.length:Nat):Int) ≠ ((t.length:Nat):Int):=by simpa using hc5
  refine qar [(4,.v (.bool false))] hW hE4 fun a7 hE8=>?_
  refine wp_ret (qaD (qaE hE8 hW.cells (v:=.bool false) kz ?_))
  exact ⟨by first | rw [← qgg hq (by omega) hlen] | rw [← qho ‹_›] | rw [← qgf ‹_›],hW.step⟩
 have hf9:((s.length:Nat):Int) = ((t.length:Nat):Int):=by simpa using hc5
 refine wp_skip (qab (wp_seq (qar [(0,.v (.slice A s.length c)),(1,.v (.slice A' t.length c')),(12,.v (.int .i64 ((s.length:Nat):Int))),(13,.v (.int .i64 0))] hW hE4 fun aP ak=>?_)))
 refine wp_block ?_
 have hlen:s.length = t.length:=by omega
 refine wp_loop_ghost (fun n_ a_ w_=>∃ (k:Nat),n_ = s.length - k ∧ k ≤ s.length ∧ (s.take k = t.take k) ∧ LInv hW 26 [] [] [(0,.v (.slice A s.length c)),(1,.v (.slice A' t.length c')),(12,.v (.int .i64 ((s.length:Nat):Int))),(13,.v (.int .i64 ((k:Nat):Int)))] a_ w_) (s.length) ⟨0,by omega,by omega,rfl,ak.pk,hW,Fr.refl _ _ _⟩ ?_
 rintro aQ aR aS ⟨k,aD,aE,hq,al,ab,am⟩
 refine qar [(0,.v (.slice A s.length c)),(1,.v (.slice A' t.length c')),(12,.v (.int .i64 ((s.length:Nat):Int))),(13,.v (.int .i64 ((k:Nat):Int))),(14,.v (.bool (decide (((k:Nat):Int) < ((s.length:Nat):Int)))))] ab al fun aT ac=>?_
 refine wp_seq (qay ac (b:=decide (((k:Nat):Int) < ((s.length:Nat):Int))) kz (fun ae=>?_) (fun ae=>?_))
 ·
  have aF:=of_decide_eq_true ae
  refine wp_skip (qab (wp_seq (wp_block (qar [(0,.v (.slice A s.length c)),(1,.v (.slice A' t.length c')),(5,.v (.int .i64 ((k:Nat):Int))),(12,.v (.int .i64 ((s.length:Nat):Int))),(13,.v (.int .i64 ((k:Nat):Int)))] ab ac fun aU ao=>?_))))
  refine qch kz ab fun aV ap aa=>?_
  refine qa0 [0,1,4,5] [(0,.v (.slice A s.length c)),(1,.v (.slice A' t.length c')),(12,.v (.int .i64 ((s.length:Nat):Int))),(13,.v (.int .i64 ((k:Nat):Int))),(16,.v (.slice A s.length c)),(17,.v (.int .i64 ((k:Nat):Int))),(20,.v (.slice A' t.length c')),(21,.v (.int .i64 ((k:Nat):Int)))] 5 (qac (qai (qac (qac (qai (qac qah)))))) (fun _ h=>h ▸ aa.cells) rfl ao fun aW ar=>?_
  obtain ⟨aG,aH,au,aI,ah⟩:=Slots.get hs (i:=k) (by omega)
  refine qbe ar (i:=2) (t:=24) (A:=A) (m:=s.length) (q:=((k:Nat):Int)) (d:=18) kz (e:=5) (size:=1) (bytes:=1) kz au rfl (by omega) kz kz (qac (qai (qac (qac (qai (qac qah)))))) rfl fun aX av=>?_
  refine qbd av (i:=3) (t:=5) (b:=aG) (o:=aH + k * 1) (d:=19) kz (cs:=[.int .u8 ((s.getD k 0).toNat:Int)]) (v:=.int .u8 ((s.getD k 0).toNat:Int)) kz (fun w' h'=>h' ▸ (AtF.move ah aa.step nilM qbg).at_) kz kz (qac (qai (qac (qac (qai (qac qah)))))) rfl fun aY aw=>?_
  obtain ⟨aJ,aK,ax,aL,ai⟩:=Slots.get ht (i:=k) (by omega)
  refine qbe aw (i:=6) (t:=24) (A:=A') (m:=t.length) (q:=((k:Nat):Int)) (d:=22) kz (e:=5) (size:=1) (bytes:=1) kz ax rfl (by omega) kz kz (qac (qai (qac (qac (qai (qac qah)))))) rfl fun aZ ay=>?_
  refine qbd ay (i:=7) (t:=5) (b:=aJ) (o:=aK + k * 1) (d:=23) kz (cs:=[.int .u8 ((t.getD k 0).toNat:Int)]) (v:=.int .u8 ((t.getD k 0).toNat:Int)) kz (fun w' h'=>h' ▸ (AtF.move ai aa.step nilM qbg).at_) kz kz (qac (qai (qac (qac (qai (qac qah)))))) rfl fun ba az=>?_
  refine qa0 [8] [(0,.v (.slice A s.length c)),(1,.v (.slice A' t.length c')),(12,.v (.int .i64 ((s.length:Nat):Int))),(13,.v (.int .i64 ((k:Nat):Int))),(24,.v (.bool (((s.getD k 0).toNat:Int) != ((t.getD k 0).toNat:Int))))] 0 (qac (qai (qac (qac (qai (qac qah)))))) (fun _ h=>h ▸ aa.cells) rfl az fun bd af=>?_
  refine qaZ kz ?_ _
  refine qab (qay af (b:=((s.getD k 0).toNat:Int) != ((t.getD k 0).toNat:Int)) kz (fun ag=>?_) (fun ag=>?_))
  ·
   have aM:((s.getD k 0).toNat:Int) ≠ ((t.getD k 0).toNat:Int):=by simpa using ag
   refine qar [(4,.v (.bool false))] aa af fun bf aA=>?_
   refine wp_ret (qaY (qaD (qaD (qaY (qaD (qaE aA aa.cells (v:=.bool false) kz ?_))))))
   exact ⟨by first | rw [← qgg hq (by omega) hlen] | rw [← qho ‹_›] | rw [← qgf ‹_›],aa.step⟩
  have aN:((s.getD k 0).toNat:Int) = ((t.getD k 0).toNat:Int):=by simpa using ag
  refine wp_skip (qaF (qab (qas [0,1] kz ?_)))
  refine qak [0,1] [] [(0,.v (.slice A s.length c)),(1,.v (.slice A' t.length c')),(12,.v (.int .i64 ((s.length:Nat):Int))),(13,.v (.int .i64 (IntKind.i64.wrap (((k:Nat):Int) + 1))))] aa af fun bg aj=>?_
  refine qaf (qab ?_)
  have aB:IntKind.i64.wrap (((k:Nat):Int) + 1) = ((k + 1:Nat):Int):=qbh (by omega)
  rw [aB] at aj
  exact ⟨s.length - (k + 1),by omega,k + 1,rfl,by omega,qi4 hq (by omega) hlen ‹_›,aj.pk,aa,(am.trans ap)⟩
 have aO:=of_decide_eq_false ae
 refine wp_exit (qaz (qaz (qaR (qab (qar [(4,.v (.bool true))] ab ac fun bh aC=>?_)))))
 refine wp_ret (qaE aC ab.cells (v:=.bool true) kz ?_)
 exact ⟨by first | rw [← qgg hq (by omega) hlen] | rw [← qho ‹_›] | rw [← qgf ‹_›],ab.step⟩
theorem sAt (ct:List Value) (t:Tree) (i:Nat) (w:World) (F:Nat → Nat → Prop) (ht:TreeR w F ct t) :
  Calls Tryz.prog 82 #[.agg ct.toArray,.int .i64 (i:Int)] w (ql0 w F (t.at_ i)):=by
 obtain ⟨n1,s2,b3,l4,u5,A6,c7,A8,c9,aO,aP,aQ,rfl,rfl,aR,aJ,aS,bp⟩:=ht.open_
 have aK:=aR.small
 have aL:=aJ.small
 refine enter (n:=16) Tryz.func82 rfl Tryz.ntmps82 kz fun a hE=>?_
 have hW:=WOk.start w Nil
 refine qae [0,1] kz ?_
 refine qam (qbk hW hE (d:=2) (cs:=(z9 n1 A6 s2.length c7 b3 A8 l4.length c9 aO u5.length aP)) kz fun bq bt bu aT aU aV az aA=>?_)
 refine qam (qbc az aA (d:=4) (cs:=[.int .i64 0,.slice none 0 0,.bool false,.slice none 0 0,.slice none 0 0]) kz fun bw bx bz aW aX aY aa aB=>?_)
 refine qaf (qab ?_)
 refine wp_seq (qar [(1,.v (.int .i64 ((i:Nat):Int))),(2,.p 0 0),(4,.p 1 0),(9,.v (.bool (decide (((i:Nat):Int) < ((l4.length:Nat):Int)))))] aa aB fun bA ae=>?_)
 refine qay ae (b:=decide (((i:Nat):Int) < ((l4.length:Nat):Int))) kz (fun af=>?_) (fun af=>?_)
 ·
  have aZ:=of_decide_eq_true af
  refine qae [0,1,2,3,4,5] kz ?_
  refine qak [0,1,2] [3,4,5] [(4,.p 1 0),(11,.v (.slice A8 l4.length c9)),(12,.v (.int .i64 ((i:Nat):Int)))] aa ae fun bB aC=>?_
  obtain ⟨ba,bd,aD,bf,ab⟩:=Slots.get aJ (i:=i) (by omega)
  obtain ⟨bg,ah⟩:∃ x,l4[i]? = some x:=⟨_,List.getElem?_eq_getElem (by omega)⟩
  have ag:=aS i bg ah
  obtain ⟨ak,al,am,ao,ap,ar,au,av,aw,ax,ay,bh,rfl,ac,bi,bj,bC,bD⟩:=ag.open_
  rw [ac] at ag
  have aM:=bi.small
  have aN:=bj.small
  rw [ac] at ab
  refine qam (qax aC (t:=25) (A:=A8) (m:=l4.length) (q:=((i:Nat):Int)) (d:=13) kz (e:=28) (size:=5) (bytes:=88) kz aD rfl (by omega) fun bE aE=>?_)
  refine qam (qaH aE (t:=28) (b:=ba) (o:=bd + i * 5) (d:=14) kz (cs:=(z9 ak ar al.length au am av ao.length aw ax ap.length ay)) (v:=.agg #[.int .i64 ak,.slice ar al.length au,.bool am,.slice av ao.length aw,.slice ax ap.length ay]) kz (AtF.move ab aa.step nilM qbg).at_ fun bF aF=>?_)
  refine qam (qaM aa aF (oi:=1) (cs:=(z9 ak ar al.length au am av ao.length aw ax ap.length ay)) kz fun bG bk ai aG=>?_)
  refine qaf (qab ?_)
  refine wp_ret (qaD (qaE aG ai.cells (v:=.agg #[.int .i64 ak,.slice ar al.length au,.bool am,.slice av ao.length aw,.slice ax ap.length ay]) kz ?_))
  exact ⟨_,rfl,by rw [qlo ah]; exact ag,ai.step⟩
 have bn:=of_decide_eq_false af
 refine wp_skip (qab (qae [0,1] kz ?_))
 refine qak [0] [1] [(4,.p 1 0),(15,.v (.agg #[.int .i64 0,.slice none 0 0,.bool false,.slice none 0 0,.slice none 0 0]))] aa ae fun bH aH=>?_
 refine qam (qaM aa aH (oi:=1) (cs:=[.int .i64 0,.slice none 0 0,.bool false,.slice none 0 0,.slice none 0 0]) kz fun bI bo aj aI=>?_)
 refine qaf (qab ?_)
 refine wp_ret (qaE aI aj.cells (v:=.agg #[.int .i64 0,.slice none 0 0,.bool false,.slice none 0 0,.slice none 0 0]) kz ?_)
 exact ⟨_,rfl,by rw [qlp (by omega)]; exact TreeR.zero _ _,aj.step⟩
theorem qcV (x:Int) (size:Nat) (hsz:size ≤ 8) (w:World) :
  Calls Tryz.prog 46 #[.int .i64 x,.int .i64 ((size:Nat):Int)] w (qdV w 5 (be size x)):=by
 refine enter (n:=22) Tryz.func46 rfl Tryz.ntmps46 kz fun a hE=>?_
 have hW:=WOk.start w Nil
 refine qar [(0,.v (.int .i64 x)),(1,.v (.int .i64 ((size:Nat):Int)))] hW hE fun a1 hE2=>?_
 refine qar [(0,.v (.int .i64 x)),(1,.v (.int .i64 ((size:Nat):Int))),(5,.v (.slice none 0 0))] hW hE2 fun a3 hE4=>?_
 refine wp_seq (qar [(0,.v (.int .i64 x)),(5,.v (.slice none 0 0)),(6,.v (.int .i64 (IntKind.i64.wrap (((size:Nat):Int) - 1))))] hW hE4 fun a5 hE6=>?_)
 refine wp_block ?_
 have hW7:=hW.addNil 5 1
 have hF8:=hW.frNil 5 1
 have aj:IntKind.i64.wrap (((size:Nat):Int) - 1) = ((size:Nat):Int) - 1 - ((0:Nat):Int):=by rw [wrap_i64 (by omega) (by omega)]; omega
 rw [aj] at hE6
 refine wp_loop_ghost (fun n_ a_ w_=>∃ (k:Nat) (A:Option Addr) (c:Nat),n_ = size - k ∧ k ≤ size ∧ LInv hW7 22 [] [brow A c 5 ((be size x).take k)] [(0,.v (.int .i64 x)),(5,.v (.slice A (((be size x).take k).length) c)),(6,.v (.int .i64 (((size:Nat):Int) - 1 - ((k:Nat):Int))))] a_ w_) (size) ⟨0,none,0,by omega,by omega,hE6.pk,hW7,Fr.refl _ _ _⟩ ?_
 rintro n9 aK aL ⟨k,A,c,aG,aH,ak,aa,al⟩
 refine wp_seq (qar [(0,.v (.int .i64 x)),(5,.v (.slice A (((be size x).take k).length) c)),(6,.v (.int .i64 (((size:Nat):Int) - 1 - ((k:Nat):Int)))),(10,.v (.bool (decide ((((size:Nat):Int) - 1 - ((k:Nat):Int)) ≥ 0))))] aa ak fun aM ae=>?_)
 refine qay ae (b:=decide ((((size:Nat):Int) - 1 - ((k:Nat):Int)) ≥ 0)) kz (fun af=>?_) (fun af=>?_)
 ·
  have aI:=of_decide_eq_true af
  refine wp_skip (qab (wp_seq (wp_block (qas [0,1,2,3,4,5,6,7,8] kz ?_))))
  refine qak [0,1,2,3] [4,5,6,7,8] [(0,.v (.int .i64 x)),(6,.v (.int .i64 (((size:Nat):Int) - 1 - ((k:Nat):Int)))),(13,.v (.slice A (((be size x).take k).length) c)),(14,.v (.int .i64 x)),(16,.v (.int .i64 (IntKind.i64.wrap (8 * (((size:Nat):Int) - 1 - ((k:Nat):Int))))))] aa ae fun aN am=>?_
  refine qam (qkm am (k:=.i64) (p:=x) (q:=(IntKind.i64.wrap (8 * (((size:Nat):Int) - 1 - ((k:Nat):Int))))) (d:=17) (j:=8 * (size - 1 - k)) kz (by rw [wrap_i64 (by omega) (by omega)]; omega) (by simp only [IntKind.bits]; omega) fun aO ao=>?_)
  refine qak [5] [6,7,8] [(0,.v (.int .i64 x)),(6,.v (.int .i64 (((size:Nat):Int) - 1 - ((k:Nat):Int)))),(13,.v (.slice A (((be size x).take k).length) c)),(18,.v (.int .u8 (IntKind.u8.wrap (x / 2 ^ (8 * (size - 1 - k))))))] aa ao fun aP ap=>?_
  refine qbu aa ap (k:=0) (e:=5) (size:=1) (len:=1) (cs:=[.int .u8 (IntKind.u8.wrap (x / 2 ^ (8 * (size - 1 - k))))]) (d1:=19) (d:=20) kz (t:=24) (bytes:=1) kz (fun _=>by kernel_rfl) rfl kz (by first | (have:=hroom; omega) | (simp; done) | (simp; omega)) fun ab ac aQ aR ar au ⟨_,av⟩=>?_
  have aw:(⟨ab,ac,5,1,((be size x).take k).length + 1,bc ((be size x).take k) ++ [.int .u8 (IntKind.u8.wrap (x / 2 ^ (8 * (size - 1 - k))))]⟩:Rw) = brow ab ac 5 ((be size x).take k ++ [by8 (x / 2 ^ (8 * (size - 1 - k)))]):=qa2 (by simp only [bc,List.map,qbE]; try rfl) rfl
  obtain ⟨ag,ax⟩:=au.rowEq 0 [brow ab ac 5 ((be size x).take k ++ [by8 (x / 2 ^ (8 * (size - 1 - k)))])] aw
  have ay:=EnvOk.pick av (ks:=[0,6,13,18,20]) (env':=[(0,.v (.int .i64 x)),(6,.v (.int .i64 (((size:Nat):Int) - 1 - ((k:Nat):Int)))),(13,.v (.slice A (((be size x).take k).length) c)),(18,.v (.int .u8 (IntKind.u8.wrap (x / 2 ^ (8 * (size - 1 - k)))))),(20,.v (.slice ab (((be size x).take k).length + 1) ac))]) kz
  have az:=ay.cast (env':=[(0,.v (.int .i64 x)),(6,.v (.int .i64 (((size:Nat):Int) - 1 - ((k:Nat):Int)))),(13,.v (.slice A (((be size x).take k).length) c)),(18,.v (.int .u8 (IntKind.u8.wrap (x / 2 ^ (8 * (size - 1 - k)))))),(20,.v (.slice ab (((be size x).take k ++ [by8 (x / 2 ^ (8 * (size - 1 - k)))]).length) ac))]) (by simp only [List.length_append,List.length_cons,List.length_nil,Nat.zero_add])
  refine qak [8] [] [(0,.v (.int .i64 x)),(5,.v (.slice ab (((be size x).take k ++ [by8 (x / 2 ^ (8 * (size - 1 - k)))]).length) ac)),(6,.v (.int .i64 (((size:Nat):Int) - 1 - ((k:Nat):Int))))] ag az fun aS aA=>?_
  refine qaf (qaF (qab (qas [0,1,2] kz ?_)))
  refine qak [0,1,2] [] [(0,.v (.int .i64 x)),(5,.v (.slice ab (((be size x).take k ++ [by8 (x / 2 ^ (8 * (size - 1 - k)))]).length) ac)),(6,.v (.int .i64 (IntKind.i64.wrap ((((size:Nat):Int) - 1 - ((k:Nat):Int)) - 1))))] ag aA fun aT ah=>?_
  refine qaf (qab ?_)
  have ai:((be size x).take k ++ [by8 (x / 2 ^ (8 * (size - 1 - k)))]) = ((be size x).take (k + 1)):=(qgK (by omega)).symm
  have aB:=congrArg (brow ab ac 5) ai
  obtain ⟨aC,aD⟩:=ag.rowEq 0 [brow ab ac 5 ((be size x).take (k + 1))] aB
  rw [ai] at ah
  have aE:IntKind.i64.wrap ((((size:Nat):Int) - 1 - ((k:Nat):Int)) - 1) = ((size:Nat):Int) - 1 - (((k + 1):Nat):Int):=by rw [wrap_i64 (by omega) (by omega)]; omega
  rw [aE] at ah
  exact ⟨size - (k + 1),by omega,k + 1,ab,ac,rfl,by omega,ah.pk,aC,(((al.trans ar).trans ax).trans aD)⟩
 have aJ:=of_decide_eq_false af
 refine wp_exit (qaz (qaz (qaR (qab (qar [(4,.v (.slice A (((be size x).take k).length) c))] aa ae fun aU aF=>?_)))))
 refine wp_ret (qaE aF aa.cells (v:=.slice A (((be size x).take k).length) c) kz ?_)
 exact qa8 aa (k:=0) rfl (List.take_of_length_le (by simp; omega))
theorem qeo (x:Nat) (hx:x < 18446744073709551616) (w:World) :
  Calls Tryz.prog 85 #[.int .u64 ((x:Nat):Int)] w (qdV w 5 (uv x)):=by
 refine enter (n:=20) Tryz.func85 rfl Tryz.ntmps85 kz fun a hE=>?_
 have hW:=WOk.start w Nil
 refine qar [(0,.v (.int .u64 ((x:Nat):Int)))] hW hE fun a1 hE2=>?_
 refine qar [(0,.v (.int .u64 ((x:Nat):Int))),(3,.v (.slice none 0 0))] hW hE2 fun a3 hE4=>?_
 refine wp_seq (wp_block ?_)
 have hW5:=hW.addNil 5 1
 have hF6:=hW.frNil 5 1
 refine wp_loop_ghost (fun n_ a_ w_=>∃ (A:Option Addr) (c:Nat) (pre:Bs) (m:Nat),n_ = m ∧ (pre ++ uv m = uv x) ∧ (m < 18446744073709551616) ∧ LInv hW5 20 [] [brow A c 5 pre] [(0,.v (.int .u64 ((m:Nat):Int))),(3,.v (.slice A pre.length c))] a_ w_) (x) ⟨none,0,[],x,rfl,rfl,hx,hE4.pk,hW5,Fr.refl _ _ _⟩ ?_
 rintro n7 a8 w9 ⟨A,c,pre,m,aM,hp,hm,am,aa,ao⟩
 refine wp_seq (qar [(0,.v (.int .u64 ((m:Nat):Int))),(3,.v (.slice A pre.length c)),(5,.v (.bool (decide (((m:Nat):Int) > 127))))] aa am fun aR ae=>?_)
 refine qay ae (b:=decide (((m:Nat):Int) > 127)) kz (fun af=>?_) (fun af=>?_)
 ·
  have aN:=of_decide_eq_true af
  refine wp_skip (qab (wp_block (qae [0,1,2,3,4,5,6,7] kz ?_)))
  refine qak [0,1,2,3,4] [5,6,7] [(0,.v (.int .u64 ((m:Nat):Int))),(6,.v (.slice A pre.length c)),(10,.v (.int .u8 (IntKind.u8.wrap (BitVec.ofInt 8 (IntKind.u8.wrap (IntKind.u64.wrap (BitVec.ofInt 64 ((m:Nat):Int) &&& BitVec.ofInt 64 127).toNat)) ||| BitVec.ofInt 8 128).toNat)))] aa ae fun aS ap=>?_
  refine qbu aa ap (k:=0) (e:=5) (size:=1) (len:=1) (cs:=[.int .u8 (IntKind.u8.wrap (BitVec.ofInt 8 (IntKind.u8.wrap (IntKind.u64.wrap (BitVec.ofInt 64 ((m:Nat):Int) &&& BitVec.ofInt 64 127).toNat)) ||| BitVec.ofInt 8 128).toNat)]) (d1:=11) (d:=12) kz (t:=24) (bytes:=1) kz (fun _=>by kernel_rfl) rfl kz (by have h1_:=qeR x hx; rw [← hp,List.length_append] at h1_; omega) fun ab ac aT aU ar au ⟨_,av⟩=>?_
  have aw:(⟨ab,ac,5,1,pre.length + 1,bc pre ++ [.int .u8 (IntKind.u8.wrap (BitVec.ofInt 8 (IntKind.u8.wrap (IntKind.u64.wrap (BitVec.ofInt 64 ((m:Nat):Int) &&& BitVec.ofInt 64 127).toNat)) ||| BitVec.ofInt 8 128).toNat)]⟩:Rw) = brow ab ac 5 (pre ++ [by8 (BitVec.ofInt 8 (IntKind.u8.wrap (IntKind.u64.wrap (BitVec.ofInt 64 ((m:Nat):Int) &&& BitVec.ofInt 64 127).toNat)) ||| BitVec.ofInt 8 128).toNat]):=qa2 (by simp only [bc,List.map,qbE]; try rfl) rfl
  obtain ⟨ag,ax⟩:=au.rowEq 0 [brow ab ac 5 (pre ++ [by8 (BitVec.ofInt 8 (IntKind.u8.wrap (IntKind.u64.wrap (BitVec.ofInt 64 ((m:Nat):Int) &&& BitVec.ofInt 64 127).toNat)) ||| BitVec.ofInt 8 128).toNat])] aw
  have ay:=EnvOk.pick av (ks:=[0,6,10,12]) (env':=[(0,.v (.int .u64 ((m:Nat):Int))),(6,.v (.slice A pre.length c)),(10,.v (.int .u8 (IntKind.u8.wrap (BitVec.ofInt 8 (IntKind.u8.wrap (IntKind.u64.wrap (BitVec.ofInt 64 ((m:Nat):Int) &&& BitVec.ofInt 64 127).toNat)) ||| BitVec.ofInt 8 128).toNat))),(12,.v (.slice ab (pre.length + 1) ac))]) kz
  have az:=ay.cast (env':=[(0,.v (.int .u64 ((m:Nat):Int))),(6,.v (.slice A pre.length c)),(10,.v (.int .u8 (IntKind.u8.wrap (BitVec.ofInt 8 (IntKind.u8.wrap (IntKind.u64.wrap (BitVec.ofInt 64 ((m:Nat):Int) &&& BitVec.ofInt 64 127).toNat)) ||| BitVec.ofInt 8 128).toNat))),(12,.v (.slice ab ((pre ++ [by8 (BitVec.ofInt 8 (IntKind.u8.wrap (IntKind.u64.wrap (BitVec.ofInt 64 ((m:Nat):Int) &&& BitVec.ofInt 64 127).toNat)) ||| BitVec.ofInt 8 128).toNat]).length) ac))]) (by simp only [List.length_append,List.length_cons,List.length_nil,Nat.zero_add])
  refine qak [7] [] [(0,.v (.int .u64 ((m:Nat):Int))),(3,.v (.slice ab ((pre ++ [by8 (BitVec.ofInt 8 (IntKind.u8.wrap (IntKind.u64.wrap (BitVec.ofInt 64 ((m:Nat):Int) &&& BitVec.ofInt 64 127).toNat)) ||| BitVec.ofInt 8 128).toNat]).length) ac))] ag az fun aV aA=>?_
  refine qaf (qab ?_)
  refine qas [0,1,2] kz ?_
  refine qak [0,1,2] [] [(0,.v (.int .u64 (Int.fdiv ((m:Nat):Int) 128))),(3,.v (.slice ab ((pre ++ [by8 (BitVec.ofInt 8 (IntKind.u8.wrap (IntKind.u64.wrap (BitVec.ofInt 64 ((m:Nat):Int) &&& BitVec.ofInt 64 127).toNat)) ||| BitVec.ofInt 8 128).toNat]).length) ac))] ag aA fun aW ah=>?_
  refine qaf (qaF (qab ?_))
  have al:(pre ++ [by8 (BitVec.ofInt 8 (IntKind.u8.wrap (IntKind.u64.wrap (BitVec.ofInt 64 ((m:Nat):Int) &&& BitVec.ofInt 64 127).toNat)) ||| BitVec.ofInt 8 128).toNat]) = (pre ++ [UInt8.ofNat (m % 128 + 128)]):=by rw [qku m (by omega)]
  have aB:=congrArg (brow ab ac 5) al
  obtain ⟨aC,aD⟩:=ag.rowEq 0 [brow ab ac 5 (pre ++ [UInt8.ofNat (m % 128 + 128)])] aB
  rw [al] at ah
  have aE:Int.fdiv ((m:Nat):Int) 128 = ((m / 128:Nat):Int):=qls m
  rw [aE] at ah
  exact ⟨m / 128,by omega,ab,ac,pre ++ [UInt8.ofNat (m % 128 + 128)],m / 128,rfl,by rw [← hp,qdW (show 128 ≤ m by omega)]; simp,by omega,ah.pk,aC,(((ao.trans ar).trans ax).trans aD)⟩
 have aO:=of_decide_eq_false af
 refine wp_exit (qaz (qaz (qaR (qab (qae [0,1,2,3,4,5] kz ?_)))))
 refine qak [0,1,2] [3,4,5] [(15,.v (.slice A pre.length c)),(17,.v (.int .u8 (IntKind.u8.wrap ((m:Nat):Int))))] aa ae fun aX aF=>?_
 refine qbu aa aF (k:=0) (e:=5) (size:=1) (len:=1) (cs:=[.int .u8 (IntKind.u8.wrap ((m:Nat):Int))]) (d1:=18) (d:=19) kz (t:=24) (bytes:=1) kz (fun _=>by kernel_rfl) rfl kz (by have h1_:=qeR x hx; rw [← hp,List.length_append] at h1_; omega) fun ai aj aY aZ aP aG ⟨_,aH⟩=>?_
 have aI:(⟨ai,aj,5,1,pre.length + 1,bc pre ++ [.int .u8 (IntKind.u8.wrap ((m:Nat):Int))]⟩:Rw) = brow ai aj 5 (pre ++ [by8 ((m:Nat):Int)]):=qa2 (by simp only [bc,List.map,qbE]; try rfl) rfl
 obtain ⟨ak,aQ⟩:=aG.rowEq 0 [brow ai aj 5 (pre ++ [by8 ((m:Nat):Int)])] aI
 have aJ:=EnvOk.pick aH (ks:=[15,17,19]) (env':=[(15,.v (.slice A pre.length c)),(17,.v (.int .u8 (IntKind.u8.wrap ((m:Nat):Int)))),(19,.v (.slice ai (pre.length + 1) aj))]) kz
 have aK:=aJ.cast (env':=[(15,.v (.slice A pre.length c)),(17,.v (.int .u8 (IntKind.u8.wrap ((m:Nat):Int)))),(19,.v (.slice ai ((pre ++ [by8 ((m:Nat):Int)]).length) aj))]) (by simp only [List.length_append,List.length_cons,List.length_nil,Nat.zero_add])
 refine qak [5] [] [(2,.v (.slice ai ((pre ++ [by8 ((m:Nat):Int)]).length) aj))] ak aK fun ba aL=>?_
 refine qaf (qab ?_)
 refine wp_ret (qaE aL ak.cells (v:=.slice ai ((pre ++ [by8 ((m:Nat):Int)]).length) aj) kz ?_)
 exact qa8 ak (k:=0) rfl (by rw [← hp,qca (show m < 128 by omega),qgk])
theorem qep (flex null:Bool) (m sz:Nat) (hm:m ≤ 1099511627776) (hsz:sz ≤ 8) (w:World) :
  Calls Tryz.prog 110 #[.bool flex,.bool null,.int .i64 ((m:Nat):Int),.int .i64 ((sz:Nat):Int)] w (qdV w 5 (qao flex null m sz)):=by
 refine enter (n:=28) Tryz.func110 rfl Tryz.ntmps110 kz fun a hE=>?_
 have hW:=WOk.start w Nil
 refine qar [(0,.v (.bool flex)),(1,.v (.bool null)),(2,.v (.int .i64 ((m:Nat):Int))),(3,.v (.int .i64 ((sz:Nat):Int)))] hW hE fun a1 hE2=>?_
 refine wp_seq (wp_block (qae [0,1,2,3,4] kz ?_))
 refine qak [0,1] [2,3,4] [(0,.v (.bool flex)),(1,.v (.bool null)),(2,.v (.int .i64 ((m:Nat):Int))),(3,.v (.int .i64 ((sz:Nat):Int))),(11,.v (.bool flex))] hW hE2 fun a3 hE4=>?_
 refine (Bool.eq_false_or_eq_true (flex)).elim (fun hc5=>?_) (fun hc5=>?_)
 ·
  have hE7:=hE4.cast (env':=[(0,.v (.bool true)),(1,.v (.bool null)),(2,.v (.int .i64 ((m:Nat):Int))),(3,.v (.int .i64 ((sz:Nat):Int))),(11,.v (.bool true))]) (by rw [hc5])
  refine qak [2,3,4] [] [(0,.v (.bool true)),(1,.v (.bool null)),(2,.v (.int .i64 ((m:Nat):Int))),(3,.v (.int .i64 ((sz:Nat):Int))),(9,.v (.bool null))] hW hE7 fun a8 hE9=>?_
  refine qaf (qab ?_)
  refine qay hE9 (b:=null) kz (fun aa=>?_) (fun aa=>?_)
  ·
   refine qae [0,1] kz ?_
   refine qam (qd9 hW hE9 (e:=5) (size:=1) (len:=1) (cs:=[.int .u8 0]) (d:=14) kz kz fun ab bf bg aV aW aX am ao=>?_)
   have ap:(⟨some ⟨ab,0,none⟩,1,5,1,1,[.int .u8 0]⟩:Rw) = brow (some ⟨ab,0,none⟩) 1 5 [by8 0]:=by first | rfl | (simp only [brow,bc,List.map,qbE]; try rfl)
   obtain ⟨ac,aY⟩:=am.rowEq 0 [brow (some ⟨ab,0,none⟩) 1 5 [by8 0]] ap
   have ar:=EnvOk.pick ao (ks:=[0,1,2,3,9,14]) (env':=[(0,.v (.bool true)),(1,.v (.bool null)),(2,.v (.int .i64 ((m:Nat):Int))),(3,.v (.int .i64 ((sz:Nat):Int))),(9,.v (.bool null)),(14,.v (.slice (some ⟨ab,0,none⟩) 1 1))]) kz
   have au:=ar.cast (env':=[(0,.v (.bool true)),(1,.v (.bool null)),(2,.v (.int .i64 ((m:Nat):Int))),(3,.v (.int .i64 ((sz:Nat):Int))),(9,.v (.bool null)),(14,.v (.slice (some ⟨ab,0,none⟩) ([by8 0].length) 1))]) rfl
   refine qak [1] [] [(8,.v (.slice (some ⟨ab,0,none⟩) ([by8 0].length) 1))] ac au fun bh av=>?_
   refine qaf (qab ?_)
   refine wp_ret (qaY (qaD (qaE av ac.cells (v:=.slice (some ⟨ab,0,none⟩) ([by8 0].length) 1) kz ?_)))
   exact qa8 ac (k:=0) rfl (by simp [qao,hc5,aa]; try rfl)
  refine qar [(1,.v (.bool null)),(2,.v (.int .i64 ((m:Nat):Int))),(3,.v (.int .i64 ((sz:Nat):Int))),(15,.v (.bool true))] hW hE9 fun bi aj=>?_
  refine qbw aj (b:=true) kz rfl ?_
  refine qae [0,1,2,3,4] kz ?_
  refine qak [0,1,2] [3,4] [(19,.v (.int .u64 (IntKind.u64.wrap ((IntKind.u64.wrap ((m:Nat):Int)) + 1))))] hW aj fun bj aw=>?_
  have ax:IntKind.u64.wrap ((IntKind.u64.wrap ((m:Nat):Int)) + 1) = ((m + 1:Nat):Int):=by simp only [qaG,qaq,qbV,IntKind.wrap_i64,IntKind.wrap_i32]; omega
  have ay:=EnvOk.pick aw (ks:=[19]) (env':=[(19,.v (.int .u64 (IntKind.u64.wrap ((IntKind.u64.wrap ((m:Nat):Int)) + 1))))]) kz
  have az:=ay
  rw [ax] at az
  refine qam (qal az (f:=85) (vs:=[.int .u64 ((m + 1:Nat):Int)]) (d:=20) kz Tryz.call85 (qeo (m + 1) (by omega) _) ?_)
  rintro e_ bk ⟨aA,aB,rfl,aC,aD⟩
  refine ⟨_,rfl,fun bn aE=>?_⟩
  obtain ⟨ae,aZ⟩:=hW.frFresh aD (brow aA aB 5 (uv (m + 1))) (Nat.le_refl _) aC
  refine qak [4] [] [(8,.v (.slice aA ((uv (m + 1)).length) aB))] ae aE fun bo aF=>?_
  refine qaf (qab ?_)
  refine wp_ret (qaY (qaD (qaE aF ae.cells (v:=.slice aA ((uv (m + 1)).length) aB) kz ?_)))
  exact qa8 ae (k:=0) rfl (by simp [qao,hc5,aa]; try rfl)
 have aG:=hE4.cast (env':=[(0,.v (.bool false)),(1,.v (.bool null)),(2,.v (.int .i64 ((m:Nat):Int))),(3,.v (.int .i64 ((sz:Nat):Int))),(11,.v (.bool false))]) (by rw [hc5])
 refine qak [2,3,4] [] [(0,.v (.bool false)),(1,.v (.bool null)),(2,.v (.int .i64 ((m:Nat):Int))),(3,.v (.int .i64 ((sz:Nat):Int))),(9,.v (.bool false))] hW aG fun bp ak=>?_
 refine qaf (qab ?_)
 refine qau ak (b:=false) kz rfl ?_
 refine qar [(1,.v (.bool null)),(2,.v (.int .i64 ((m:Nat):Int))),(3,.v (.int .i64 ((sz:Nat):Int))),(15,.v (.bool false))] hW ak fun bq al=>?_
 refine qau al (b:=false) kz rfl ?_
 refine qar [(2,.v (.int .i64 ((m:Nat):Int))),(3,.v (.int .i64 ((sz:Nat):Int))),(21,.v (.bool null))] hW al fun bt af=>?_
 refine qay af (b:=null) kz (fun ag=>?_) (fun ag=>?_)
 ·
  refine qae [0,1,2] kz ?_
  refine qak [0] [1,2] [(23,.v (.int .i64 ((sz:Nat):Int)))] hW af fun bu aH=>?_
  refine qam (qal aH (f:=46) (vs:=[.int .i64 (-1),.int .i64 ((sz:Nat):Int)]) (d:=24) kz Tryz.call46 (qcV (-1) sz (by first | decide | exact qbb _ | omega) _) ?_)
  rintro e_ bw ⟨aI,aJ,rfl,aK,aL⟩
  refine ⟨_,rfl,fun bx aM=>?_⟩
  obtain ⟨ah,ba⟩:=hW.frFresh aL (brow aI aJ 5 (be sz (-1))) (Nat.le_refl _) aK
  refine qak [2] [] [(8,.v (.slice aI ((be sz (-1)).length) aJ))] ah aM fun bz aN=>?_
  refine qaf (qab ?_)
  refine wp_ret (qaY (qaD (qaE aN ah.cells (v:=.slice aI ((be sz (-1)).length) aJ) kz ?_)))
  exact qa8 ah (k:=0) rfl (by simp [qao,hc5,ag]; try rfl)
 refine wp_skip (qaF (qab (qae [0,1,2,3] kz ?_)))
 refine qak [0,1] [2,3] [(25,.v (.int .i64 ((m:Nat):Int))),(26,.v (.int .i64 ((sz:Nat):Int)))] hW af fun bA aO=>?_
 refine qam (qal aO (f:=46) (vs:=[.int .i64 ((m:Nat):Int),.int .i64 ((sz:Nat):Int)]) (d:=27) kz Tryz.call46 (qcV ((m:Nat):Int) sz (by first | decide | exact qbb _ | omega) _) ?_)
 rintro e_ bB ⟨aP,aQ,rfl,aR,aS⟩
 refine ⟨_,rfl,fun bC aT=>?_⟩
 obtain ⟨ai,bd⟩:=hW.frFresh aS (brow aP aQ 5 (be sz ((m:Nat):Int))) (Nat.le_refl _) aR
 refine qak [3] [] [(8,.v (.slice aP ((be sz ((m:Nat):Int)).length) aQ))] ai aT fun bD aU=>?_
 refine qaf (qab ?_)
 refine wp_ret (qaE aU ai.cells (v:=.slice aP ((be sz ((m:Nat):Int)).length) aQ) kz ?_)
 exact qa8 ai (k:=0) rfl (by simp [qao,hc5,ag]; try rfl)
abbrev z20 :=([.int .i64 0,.int .i64 0,.int .i64 0,.int .i64 0,.int .i64 0,.int .i64 0,.int .i64 0,.slice none 0 0]:List Value)
theorem qlc (A:Option Addr) (c:Nat) (l:List Fld) (w:World) (F:Nat → Nat → Prop) (hl:FldsR w F A c l) :
  Calls Tryz.prog 83 #[.slice A l.length c] w (qcF w (.int .u32 (qat l))):=by
 obtain ⟨xfs,h1,h2⟩:=hl.ex
 have hsm:=h1.small
 refine enter (n:=23) Tryz.func83 rfl Tryz.ntmps83 kz fun a hE=>?_
 have hW:=WOk.start w Nil
 refine qar [(0,.v (.slice A l.length c))] hW hE fun a1 hE2=>?_
 refine qar [(0,.v (.slice A l.length c)),(3,.v (.int .u32 0))] hW hE2 fun a3 hE4=>?_
 refine wp_seq (qar [(3,.v (.int .u32 0)),(6,.v (.slice A l.length c)),(7,.v (.int .i64 ((l.length:Nat):Int))),(8,.v (.int .i64 0))] hW hE4 fun a5 hE6=>?_)
 refine wp_block (wp_loop_ghost (fun n_ a_ w_=>∃ (k:Nat),n_ = l.length - k ∧ k ≤ l.length ∧ LInv hW 23 [] [] [(3,.v (.int .u32 (qat (l.take k)))),(6,.v (.slice A l.length c)),(7,.v (.int .i64 ((l.length:Nat):Int))),(8,.v (.int .i64 ((k:Nat):Int)))] a_ w_) (l.length) ⟨0,by omega,by omega,hE6.pk,hW,Fr.refl _ _ _⟩ ?_)
 rintro n7 a8 w9 ⟨k,ba,bd,av,aa,ao⟩
 refine qar [(3,.v (.int .u32 (qat (l.take k)))),(6,.v (.slice A l.length c)),(7,.v (.int .i64 ((l.length:Nat):Int))),(8,.v (.int .i64 ((k:Nat):Int))),(9,.v (.bool (decide (((k:Nat):Int) < ((l.length:Nat):Int)))))] aa av fun bt ag=>?_
 refine wp_seq (qay ag (b:=decide (((k:Nat):Int) < ((l.length:Nat):Int))) kz (fun ah=>?_) (fun ah=>?_))
 ·
  have bf:=of_decide_eq_true ah
  refine wp_skip (qab (wp_seq (wp_block (qae [0,1,2,3] kz ?_))))
  obtain ⟨bg,bh,aw,bi,ae⟩:=Slots.get h1 (i:=k) (by omega)
  obtain ⟨bj,ai⟩:∃ x,l[k]? = some x:=⟨_,List.getElem?_eq_getElem (by omega)⟩
  have ap:=h2 k bj ai
  obtain ⟨ax,ay,az,aA,ab,aB,aC,aD,aE,aF,bk,rfl,af,bn,bu⟩:=ap.open_
  rw [af] at ap
  have aZ:=bn.small
  rw [af] at ae
  refine qam (qax ag (t:=32) (A:=A) (m:=l.length) (q:=((k:Nat):Int)) (d:=10) kz (e:=50) (size:=8) (bytes:=80) kz aw rfl (by omega) fun bw aG=>?_)
  refine qam (qaH aG (t:=50) (b:=bg) (o:=bh + k * 8) (d:=11) kz (cs:=(z7 ax ay az aA ab aB aC aE aD.length aF)) (v:=.agg #[.int .i64 ax,.int .i64 ay,.int .i64 az,.int .i64 aA,.int .i64 ab,.int .i64 aB,.int .i64 aC,.slice aE aD.length aF]) kz (AtF.move ae aa.step nilM qbg).at_ fun bx aH=>?_)
  refine qam (qbc aa aH (d:=5) (cs:=z20) kz fun bz bA bB bo bp ar aI aJ=>?_)
  refine qam (qaM aI aJ (oi:=0) (cs:=(z7 ax ay az aA ab aB aC aE aD.length aF)) kz fun bC au ac aK=>?_)
  refine qaf (qab ?_)
  refine qar [(3,.v (.int .u32 (qat (l.take k)))),(5,.p 0 0),(6,.v (.slice A l.length c)),(7,.v (.int .i64 ((l.length:Nat):Int))),(8,.v (.int .i64 ((k:Nat):Int))),(14,.v (.bool (decide (ab ≥ 0))))] ac aK fun bD aj=>?_
  refine qay aj (b:=decide (ab ≥ 0)) kz (fun ak=>?_) (fun ak=>?_)
  ·
   have aL:=of_decide_eq_true ak
   refine qas [0,1,2,3,4,5,6] kz ?_
   refine qak [0,1,2,3,4,5,6] [] [(3,.v (.int .u32 (if IntKind.u32.wrap ((IntKind.u32.wrap ab) + 1) > qat (l.take k) then IntKind.u32.wrap ((IntKind.u32.wrap ab) + 1) else qat (l.take k)))),(6,.v (.slice A l.length c)),(7,.v (.int .i64 ((l.length:Nat):Int))),(8,.v (.int .i64 ((k:Nat):Int)))] ac aj fun bE aM=>?_
   refine qaf (qaF (qab (qas [0,1] kz ?_)))
   refine qak [0,1] [] [(3,.v (.int .u32 (if IntKind.u32.wrap ((IntKind.u32.wrap ab) + 1) > qat (l.take k) then IntKind.u32.wrap ((IntKind.u32.wrap ab) + 1) else qat (l.take k)))),(6,.v (.slice A l.length c)),(7,.v (.int .i64 ((l.length:Nat):Int))),(8,.v (.int .i64 (IntKind.i64.wrap (((k:Nat):Int) + 1))))] ac aM fun bF aN=>?_
   refine qaf (qab ?_)
   obtain ⟨al,aO,aP⟩:=ac.cutB aN 0 [] [(3,.v (.int .u32 (if IntKind.u32.wrap ((IntKind.u32.wrap ab) + 1) > qat (l.take k) then IntKind.u32.wrap ((IntKind.u32.wrap ab) + 1) else qat (l.take k)))),(6,.v (.slice A l.length c)),(7,.v (.int .i64 ((l.length:Nat):Int))),(8,.v (.int .i64 (IntKind.i64.wrap (((k:Nat):Int) + 1))))]
   have aQ:IntKind.i64.wrap (((k:Nat):Int) + 1) = ((k + 1:Nat):Int):=qbh (by omega)
   rw [aQ] at al
   have aR:(if IntKind.u32.wrap ((IntKind.u32.wrap ab) + 1) > qat (l.take k) then IntKind.u32.wrap ((IntKind.u32.wrap ab) + 1) else qat (l.take k)) = qat (l.take (k + 1)):=qjd ai aL
   rw [aR] at al
   exact ⟨l.length - (k + 1),by omega,k + 1,rfl,by omega,al.pk,aO,(((ao.trans ar).trans au).trans aP)⟩
  have aS:=of_decide_eq_false ak
  refine wp_skip (qaF (qab (qas [0,1] kz ?_)))
  refine qak [0,1] [] [(3,.v (.int .u32 (qat (l.take k)))),(6,.v (.slice A l.length c)),(7,.v (.int .i64 ((l.length:Nat):Int))),(8,.v (.int .i64 (IntKind.i64.wrap (((k:Nat):Int) + 1))))] ac aj fun bG aT=>?_
  refine qaf (qab ?_)
  obtain ⟨am,aU,aV⟩:=ac.cutB aT 0 [] [(3,.v (.int .u32 (qat (l.take k)))),(6,.v (.slice A l.length c)),(7,.v (.int .i64 ((l.length:Nat):Int))),(8,.v (.int .i64 (IntKind.i64.wrap (((k:Nat):Int) + 1))))]
  have aW:IntKind.i64.wrap (((k:Nat):Int) + 1) = ((k + 1:Nat):Int):=qbh (by omega)
  rw [aW] at am
  have aX:qat (l.take k) = qat (l.take (k + 1)):=qje ai aS
  rw [aX] at am
  exact ⟨l.length - (k + 1),by omega,k + 1,rfl,by omega,am.pk,aU,(((ao.trans ar).trans au).trans aV)⟩
 have bq:=of_decide_eq_false ah
 refine wp_exit (qaz (qaz (qaR (qab (qar [(2,.v (.int .u32 (qat (l.take k))))] aa ag fun bH aY=>?_)))))
 refine wp_ret (qaE aY aa.cells (v:=.int .u32 (qat (l.take k))) kz ?_)
 exact ⟨by rw [List.take_of_length_le (by omega)],aa.step⟩
def qjZ (d:Nat):Prop:=∀ (A:Option Addr) (c:Nat) (l:List Fld) (v:Int) (flex:Bool) (ct:List Value) (t:Tree) (w:World) (F:Nat → Nat → Prop),FldsR w F A c l → depths l ≤ d → TreeR w F ct t → (qaV d l v flex t).length ≤ 1099511627776 →
  Calls Tryz.prog 42 #[.slice A l.length c,.int .i64 v,.bool flex,.agg ct.toArray] w (qdV w 5 (qaV d l v flex t))
theorem qj0 {d:Nat} (hp:qjZ d) (kind:Int) (A:Option Addr) (c:Nat) (l:List Fld) (null:Bool) (v:Int) (flex:Bool) (ct:List Value) (t:Tree) (w:World) (F:Nat → Nat → Prop) (hl:FldsR w F A c l) (hd:depths l ≤ d) (ht:TreeR w F ct t) (hroom:(qaL (qaV d l v flex) kind null flex t).length ≤ 1099511627776) :
  Calls Tryz.prog 111 #[.int .i64 kind,.slice A l.length c,.bool null,.int .i64 v,.bool flex,.agg ct.toArray] w (qdV w 5 (qaL (qaV d l v flex) kind null flex t)):=by
 obtain ⟨n1,s2,b3,l4,u5,A6,c7,A8,c9,dg,dh,d8,rfl,rfl,aX,d9,fx,fy⟩:=ht.open_
 have dL:=aX.small
 have dM:=d9.small
 have hl0:=hl
 obtain ⟨xfs,h1,h2⟩:=hl.ex
 have hsm:=h1.small
 refine enter (n:=70) Tryz.func111 rfl Tryz.ntmps111 kz fun a hE=>?_
 have hW:=WOk.start w Nil
 refine qae [0,1] kz ?_
 refine qam (qbk hW hE (d:=11) (cs:=(z9 n1 A6 s2.length c7 b3 A8 l4.length c9 dg u5.length dh)) kz fun fz fA fB ea eb ec aa di=>?_)
 refine qak [1] [] [(0,.v (.int .i64 kind)),(1,.v (.slice A l.length c)),(2,.v (.bool null)),(3,.v (.int .i64 v)),(4,.v (.bool flex)),(11,.p 0 0)] aa di fun fC dj=>?_
 refine qaf (qab ?_)
 refine wp_seq (qar [(0,.v (.int .i64 kind)),(1,.v (.slice A l.length c)),(2,.v (.bool null)),(3,.v (.int .i64 v)),(4,.v (.bool flex)),(11,.p 0 0),(16,.v (.int .i64 kind))] aa dj fun fD dl=>?_)
 refine wp_block (qar [(0,.v (.int .i64 kind)),(1,.v (.slice A l.length c)),(2,.v (.bool null)),(3,.v (.int .i64 v)),(4,.v (.bool flex)),(11,.p 0 0),(16,.v (.int .i64 kind)),(17,.v (.bool (kind == 0)))] aa dl fun fE bk=>?_)
 refine qay bk (b:=kind == 0) kz (fun ac=>?_) (fun ac=>?_)
 ·
  have dp:kind = 0:=by simpa using ac
  refine qae [0,1,2,3,4,5] kz ?_
  refine qak [0,1,2,3] [4,5] [(22,.v (.int .u8 (IntKind.u8.wrap (IntKind.i64.wrap (BitVec.ofInt 64 n1 &&& BitVec.ofInt 64 1).toNat))))] aa bk fun fF dq=>?_
  refine qam (qd9 aa dq (e:=5) (size:=1) (len:=1) (cs:=[.int .u8 (IntKind.u8.wrap (IntKind.i64.wrap (BitVec.ofInt 64 n1 &&& BitVec.ofInt 64 1).toNat))]) (d:=23) kz kz fun bn fG fH ee ef eg dr dt=>?_)
  have du:(⟨some ⟨bn,0,none⟩,1,5,1,1,[.int .u8 (IntKind.u8.wrap (IntKind.i64.wrap (BitVec.ofInt 64 n1 &&& BitVec.ofInt 64 1).toNat))]⟩:Rw) = brow (some ⟨bn,0,none⟩) 1 5 [by8 (IntKind.i64.wrap (BitVec.ofInt 64 n1 &&& BitVec.ofInt 64 1).toNat)]:=by first | rfl | (simp only [brow,bc,List.map,qbE]; try rfl)
  obtain ⟨bo,eh⟩:=dr.rowEq 0 [brow (some ⟨bn,0,none⟩) 1 5 [by8 (IntKind.i64.wrap (BitVec.ofInt 64 n1 &&& BitVec.ofInt 64 1).toNat)]] du
  have dv:=EnvOk.pick dt (ks:=[22,23]) (env':=[(22,.v (.int .u8 (IntKind.u8.wrap (IntKind.i64.wrap (BitVec.ofInt 64 n1 &&& BitVec.ofInt 64 1).toNat)))),(23,.v (.slice (some ⟨bn,0,none⟩) 1 1))]) kz
  have dw:=dv.cast (env':=[(22,.v (.int .u8 (IntKind.u8.wrap (IntKind.i64.wrap (BitVec.ofInt 64 n1 &&& BitVec.ofInt 64 1).toNat)))),(23,.v (.slice (some ⟨bn,0,none⟩) ([by8 (IntKind.i64.wrap (BitVec.ofInt 64 n1 &&& BitVec.ofInt 64 1).toNat)].length) 1))]) rfl
  refine qak [5] [] [(12,.v (.slice (some ⟨bn,0,none⟩) ([by8 (IntKind.i64.wrap (BitVec.ofInt 64 n1 &&& BitVec.ofInt 64 1).toNat)].length) 1))] bo dw fun fI dx=>?_
  refine qaf (qab ?_)
  refine wp_ret (qaY (qaD (qaE dx bo.cells (v:=.slice (some ⟨bn,0,none⟩) ([by8 (IntKind.i64.wrap (BitVec.ofInt 64 n1 &&& BitVec.ofInt 64 1).toNat)].length) 1) kz ?_)))
  exact qa8 bo (k:=0) rfl (by (try simp only [and1]); simp [qaL,Tree.S,Tree.N,dp,ac])
 have ak:kind ≠ 0:=by simpa using ac
 refine qar [(0,.v (.int .i64 kind)),(1,.v (.slice A l.length c)),(2,.v (.bool null)),(3,.v (.int .i64 v)),(4,.v (.bool flex)),(11,.p 0 0),(16,.v (.int .i64 kind)),(24,.v (.bool (kind == 7)))] aa bk fun fJ bp=>?_
 refine qay bp (b:=kind == 7) kz (fun ae=>?_) (fun ae=>?_)
 ·
  have dy:kind = 7:=by simpa using ae
  refine qae [0,1] kz ?_
  refine qam (qiy aa bp (d:=26) (j:=16) (t:=24) (e:=5) (bytes:=1) (z:=.int .u8 0) kz kz kz kz (rfl) (rfl) (by omega) fun aB fK fL ei ej ek aC dz=>?_)
  refine qak [1] [] [(11,.p 0 0),(13,.v (.slice (some ⟨aB,0,none⟩) 16 16))] aC dz fun fM dA=>?_
  refine qaf (qab ?_)
  refine qae [0,1,2,3] kz ?_
  refine qak [0,1,2] [3] [(13,.v (.slice (some ⟨aB,0,none⟩) 16 16)),(27,.v (.slice (some ⟨aB,0,none⟩) 16 16)),(29,.v (.slice A6 s2.length c7))] aC dA fun fN dB=>?_
  refine qam (qix aC dB (k:=0) (d:=30) (t:=24) (u:=24) (e:=5) (bytes:=1) (A:=(some ⟨aB,0,none⟩)) (As:=A6) (m:=s2.length) (cs:=c7) (m0:=16) (c:=16) (xs:=(List.replicate 16 (.int .u8 0))) (news:=bc s2) kz kz rfl (aX.move aC.step nilM aC.imm).src fun fO fP em dC dD=>?_)
  have dE:(⟨(some ⟨aB,0,none⟩),16,5,1,16,qbr (List.replicate 16 (.int .u8 0)) 0 ((bc s2).take (min s2.length 16))⟩:Rw) = brow (some ⟨aB,0,none⟩) 16 5 (qeL s2):=qkw _ _ _
  obtain ⟨bq,eo⟩:=dC.rowEq 0 [brow (some ⟨aB,0,none⟩) 16 5 (qeL s2)] dE
  have dF:=EnvOk.pick dD (ks:=[13,27,29,30]) (env':=[(13,.v (.slice (some ⟨aB,0,none⟩) 16 16)),(27,.v (.slice (some ⟨aB,0,none⟩) 16 16)),(29,.v (.slice A6 s2.length c7)),(30,.v (.int .i64 ((min s2.length 16:Nat):Int)))]) kz
  have dG:=dF.cast (env':=[(13,.v (.slice (some ⟨aB,0,none⟩) ((qeL s2).length) 16)),(27,.v (.slice (some ⟨aB,0,none⟩) ((qeL s2).length) 16)),(29,.v (.slice A6 s2.length c7)),(30,.v (.int .i64 ((min s2.length 16:Nat):Int)))]) (by rw [qbv _])
  refine qaf (qab ?_)
  refine qar [(12,.v (.slice (some ⟨aB,0,none⟩) ((qeL s2).length) 16))] bq dG fun fQ dH=>?_
  refine wp_ret (qaY (qaD (qaE dH bq.cells (v:=.slice (some ⟨aB,0,none⟩) ((qeL s2).length) 16) kz ?_)))
  exact qa8 bq (k:=0) rfl (by (try simp only [and1]); simp [qaL,Tree.S,Tree.N,ak,dy,ac,ae])
 have am:kind ≠ 7:=by simpa using ae
 refine qar [(0,.v (.int .i64 kind)),(1,.v (.slice A l.length c)),(2,.v (.bool null)),(3,.v (.int .i64 v)),(4,.v (.bool flex)),(11,.p 0 0),(16,.v (.int .i64 kind)),(32,.v (.bool (kind == 8)))] aa bp fun fR bt=>?_
 refine qay bt (b:=kind == 8) kz (fun ag=>?_) (fun ag=>?_)
 ·
  have bA:kind = 8:=by simpa using ag
  refine qae [0,1,2,3] kz ?_
  refine qak [0,1] [2,3] [(2,.v (.bool null)),(4,.v (.bool flex)),(35,.v (.slice A6 s2.length c7))] aa bt fun fS dI=>?_
  have dN:=qbp s2
  refine qam (qal dI (f:=87) (vs:=[.slice A6 s2.length c7]) (d:=36) kz Tryz.call87 (qjY _ _ s2 (aX.move aa.step nilM aa.imm).le _) ?_)
  rintro e_ fT ⟨rfl,bB⟩
  refine ⟨_,rfl,fun fU dJ=>?_⟩
  have ao:=aa.next_nil bB
  have ep:=aa.frN bB
  refine qak [3] [] [(2,.v (.bool null)),(4,.v (.bool flex)),(14,.v (.slice A6 ((qaC s2).length) c7))] ao dJ fun fV bC=>?_
  refine qaf (qab ?_)
  refine wp_seq (qar [(2,.v (.bool null)),(4,.v (.bool flex)),(14,.v (.slice A6 ((qaC s2).length) c7)),(37,.v (.bool null))] ao bC fun eu aD=>?_)
  refine qay aD (b:=null) kz (fun aE=>?_) (fun aE=>?_)
  ·
   refine qas [0] kz ?_
   refine qak [0] [] [(2,.v (.bool null)),(4,.v (.bool flex)),(14,.v (.slice none 0 0))] ao aD fun ev bD=>?_
   refine qaf (qab ?_)
   refine qae [0,1,2,3,4,5,6,7] kz ?_
   refine qak [0,1,2,3] [4,5,6,7] [(14,.v (.slice none 0 0)),(38,.v (.bool flex)),(39,.v (.bool null)),(41,.v (.int .i64 0))] ao bD fun ew bE=>?_
   refine qam (qal bE (f:=110) (vs:=[.bool flex,.bool null,.int .i64 0,.int .i64 2]) (d:=42) kz Tryz.call110 (qep flex null 0 2 (by first | omega | exact Nat.le_trans (qbp _) (by decide) | exact Nat.le_trans (qc4 _) (by decide) | (simp; done) | (have:=hroom; omega)) (by first | decide | omega) _) ?_)
   rintro e_ ey ⟨aF,aG,rfl,bF,bG⟩
   refine ⟨_,rfl,fun ez bH=>?_⟩
   obtain ⟨aY,dO⟩:=ao.frFresh bG (brow aF aG 5 (qao flex null 0 2)) (Nat.le_refl _) bF
   refine qak [5] [6,7] [(42,.v (.slice aF ((qao flex null 0 2).length) aG)),(43,.v (.slice none 0 0))] aY bH fun eB bI=>?_
   refine qam (qaJ aY bI (k:=0) (d:=44) (t:=24) (e:=5) (size:=1) (bytes:=1) (A:=aF) (As:=none) (m0:=((qao flex null 0 2).length)) (c:=aG) (m:=0) (cs:=0) (xs:=(bc (qao flex null 0 2))) (news:=bc ([]:Bs)) kz kz rfl (Octs.nil _ (fun _ _=>True)).src (fun _=>rfl) (by first | exact qdX (by omega) (by decide) (by omega) | exact qdX (Nat.le_trans (qbp _) (by decide)) (by decide) (Nat.le_trans (qbp _) (by decide)) | (simp; done)) fun ap ar eC eD dP bJ bK=>?_)
   have bL:(⟨ap,ar,5,1,(qao flex null 0 2).length + 0,bc (qao flex null 0 2) ++ bc ([]:Bs)⟩:Rw) = brow ap ar 5 (qao flex null 0 2 ++ ([]:Bs)):=qa2 (rfl) rfl
   obtain ⟨aH,dQ⟩:=bJ.rowEq 0 [brow ap ar 5 (qao flex null 0 2 ++ ([]:Bs))] bL
   have bM:=EnvOk.pick bK (ks:=[42,43,44]) (env':=[(42,.v (.slice aF ((qao flex null 0 2).length) aG)),(43,.v (.slice none 0 0)),(44,.v (.slice ap ((qao flex null 0 2).length + 0) ar))]) kz
   have bN:=bM.cast (env':=[(42,.v (.slice aF ((qao flex null 0 2).length) aG)),(43,.v (.slice none 0 0)),(44,.v (.slice ap ((qao flex null 0 2 ++ ([]:Bs)).length) ar))]) (by simp only [List.length_append,List.length_cons,List.length_nil,Nat.zero_add])
   refine qak [7] [] [(12,.v (.slice ap ((qao flex null 0 2 ++ ([]:Bs)).length) ar))] aH bN fun eE bO=>?_
   refine qaf (qab ?_)
   refine wp_ret (qaY (qaD (qaE bO aH.cells (v:=.slice ap ((qao flex null 0 2 ++ ([]:Bs)).length) ar) kz ?_)))
   exact qa8 aH (k:=0) rfl (by (try simp only [and1]); simp [qaL,Tree.S,Tree.N,ak,am,bA,ac,ae,ag,aE])
  refine wp_skip (qab (qae [0,1,2,3,4,5,6,7] kz ?_))
  refine qak [0,1,2,3] [4,5,6,7] [(14,.v (.slice A6 ((qaC s2).length) c7)),(38,.v (.bool flex)),(39,.v (.bool null)),(41,.v (.int .i64 (((qaC s2).length:Nat):Int)))] ao aD fun eF bP=>?_
  refine qam (qal bP (f:=110) (vs:=[.bool flex,.bool null,.int .i64 (((qaC s2).length:Nat):Int),.int .i64 2]) (d:=42) kz Tryz.call110 (qep flex null ((qaC s2).length) 2 (by first | omega | exact Nat.le_trans (qbp _) (by decide) | exact Nat.le_trans (qc4 _) (by decide) | (simp; done) | (have:=hroom; omega)) (by first | decide | omega) _) ?_)
  rintro e_ eG ⟨aI,aJ,rfl,bQ,bR⟩
  refine ⟨_,rfl,fun eH bS=>?_⟩
  obtain ⟨ah,dR⟩:=ao.frFresh bR (brow aI aJ 5 (qao flex null ((qaC s2).length) 2)) (Nat.le_refl _) bQ
  refine qak [5] [6,7] [(42,.v (.slice aI ((qao flex null ((qaC s2).length) 2).length) aJ)),(43,.v (.slice A6 ((qaC s2).length) c7))] ah bS fun eI bT=>?_
  refine qam (qaJ ah bT (k:=0) (d:=44) (t:=24) (e:=5) (size:=1) (bytes:=1) (A:=aI) (As:=A6) (m0:=((qao flex null ((qaC s2).length) 2).length)) (c:=aJ) (m:=((qaC s2).length)) (cs:=c7) (xs:=(bc (qao flex null ((qaC s2).length) 2))) (news:=bc (qaC s2)) kz kz rfl ((aX.take 32767).move ah.step nilM ah.imm).src ((aX.take 32767).move ah.step nilM ah.imm).cap (by first | exact qdX (by omega) (by decide) (by omega) | exact qdX (Nat.le_trans (qbp _) (by decide)) (by decide) (Nat.le_trans (qbp _) (by decide)) | (simp; done)) fun au av eJ eK dS bU bV=>?_)
  have bW:(⟨au,av,5,1,(qao flex null ((qaC s2).length) 2).length + (qaC s2).length,bc (qao flex null ((qaC s2).length) 2) ++ bc (qaC s2)⟩:Rw) = brow au av 5 (qao flex null ((qaC s2).length) 2 ++ (qaC s2)):=qa2 (rfl) rfl
  obtain ⟨aK,dT⟩:=bU.rowEq 0 [brow au av 5 (qao flex null ((qaC s2).length) 2 ++ (qaC s2))] bW
  have bX:=EnvOk.pick bV (ks:=[42,43,44]) (env':=[(42,.v (.slice aI ((qao flex null ((qaC s2).length) 2).length) aJ)),(43,.v (.slice A6 ((qaC s2).length) c7)),(44,.v (.slice au ((qao flex null ((qaC s2).length) 2).length + (qaC s2).length) av))]) kz
  have bY:=bX.cast (env':=[(42,.v (.slice aI ((qao flex null ((qaC s2).length) 2).length) aJ)),(43,.v (.slice A6 ((qaC s2).length) c7)),(44,.v (.slice au ((qao flex null ((qaC s2).length) 2 ++ (qaC s2)).length) av))]) (by simp only [List.length_append,List.length_cons,List.length_nil,Nat.zero_add])
  refine qak [7] [] [(12,.v (.slice au ((qao flex null ((qaC s2).length) 2 ++ (qaC s2)).length) av))] aK bY fun eL bZ=>?_
  refine qaf (qab ?_)
  refine wp_ret (qaY (qaD (qaE bZ aK.cells (v:=.slice au ((qao flex null ((qaC s2).length) 2 ++ (qaC s2)).length) av) kz ?_)))
  exact qa8 aK (k:=0) rfl (by (try simp only [and1]); simp [qaL,Tree.S,Tree.N,ak,am,bA,ac,ae,ag,aE])
 have al:kind ≠ 8:=by simpa using ag
 refine qar [(0,.v (.int .i64 kind)),(1,.v (.slice A l.length c)),(2,.v (.bool null)),(3,.v (.int .i64 v)),(4,.v (.bool flex)),(11,.p 0 0),(16,.v (.int .i64 kind)),(45,.v (.bool (kind == 9)))] aa bt fun eM aL=>?_
 refine qay aL (b:=kind == 9) kz (fun ab=>?_) (fun ab=>?_)
 ·
  have aZ:kind = 9:=by simpa using ab
  refine qae [0,1,2,3] kz ?_
  refine qak [0,1] [2,3] [(2,.v (.bool null)),(4,.v (.bool flex)),(48,.v (.slice A6 s2.length c7))] aa aL fun eN b8=>?_
  have dK:=qbp s2
  refine qam (qal b8 (f:=87) (vs:=[.slice A6 s2.length c7]) (d:=49) kz Tryz.call87 (qjY _ _ s2 (aX.move aa.step nilM aa.imm).le _) ?_)
  rintro e_ eO ⟨rfl,ba⟩
  refine ⟨_,rfl,fun eP cd=>?_⟩
  have af:=aa.next_nil ba
  have dU:=aa.frN ba
  refine qak [3] [] [(2,.v (.bool null)),(4,.v (.bool flex)),(15,.v (.slice A6 ((qaC s2).length) c7))] af cd fun eQ ce=>?_
  refine qaf (qab ?_)
  refine wp_seq (qar [(2,.v (.bool null)),(4,.v (.bool flex)),(15,.v (.slice A6 ((qaC s2).length) c7)),(50,.v (.bool null))] af ce fun eR aM=>?_)
  refine qay aM (b:=null) kz (fun aN=>?_) (fun aN=>?_)
  ·
   refine qas [0] kz ?_
   refine qak [0] [] [(2,.v (.bool null)),(4,.v (.bool flex)),(15,.v (.slice none 0 0))] af aM fun eS cg=>?_
   refine qaf (qab ?_)
   refine qae [0,1,2,3,4,5,6,7] kz ?_
   refine qak [0,1,2,3] [4,5,6,7] [(15,.v (.slice none 0 0)),(51,.v (.bool flex)),(52,.v (.bool null)),(54,.v (.int .i64 0))] af cg fun eT cm=>?_
   refine qam (qal cm (f:=110) (vs:=[.bool flex,.bool null,.int .i64 0,.int .i64 4]) (d:=55) kz Tryz.call110 (qep flex null 0 4 (by first | omega | exact Nat.le_trans (qbp _) (by decide) | exact Nat.le_trans (qc4 _) (by decide) | (simp; done) | (have:=hroom; omega)) (by first | decide | omega) _) ?_)
   rintro e_ eU ⟨aO,aP,rfl,cq,cr⟩
   refine ⟨_,rfl,fun eV cu=>?_⟩
   obtain ⟨bd,dV⟩:=af.frFresh cr (brow aO aP 5 (qao flex null 0 4)) (Nat.le_refl _) cq
   refine qak [5] [6,7] [(55,.v (.slice aO ((qao flex null 0 4).length) aP)),(56,.v (.slice none 0 0))] bd cu fun eW cv=>?_
   refine qam (qaJ bd cv (k:=0) (d:=57) (t:=24) (e:=5) (size:=1) (bytes:=1) (A:=aO) (As:=none) (m0:=((qao flex null 0 4).length)) (c:=aP) (m:=0) (cs:=0) (xs:=(bc (qao flex null 0 4))) (news:=bc ([]:Bs)) kz kz rfl (Octs.nil _ (fun _ _=>True)).src (fun _=>rfl) (by first | exact qdX (by omega) (by decide) (by omega) | exact qdX (Nat.le_trans (qbp _) (by decide)) (by decide) (Nat.le_trans (qbp _) (by decide)) | (simp; done)) fun aw ax eX eY dW cw cz=>?_)
   have cA:(⟨aw,ax,5,1,(qao flex null 0 4).length + 0,bc (qao flex null 0 4) ++ bc ([]:Bs)⟩:Rw) = brow aw ax 5 (qao flex null 0 4 ++ ([]:Bs)):=qa2 (rfl) rfl
   obtain ⟨aQ,dX⟩:=cw.rowEq 0 [brow aw ax 5 (qao flex null 0 4 ++ ([]:Bs))] cA
   have cB:=EnvOk.pick cz (ks:=[55,56,57]) (env':=[(55,.v (.slice aO ((qao flex null 0 4).length) aP)),(56,.v (.slice none 0 0)),(57,.v (.slice aw ((qao flex null 0 4).length + 0) ax))]) kz
   have cC:=cB.cast (env':=[(55,.v (.slice aO ((qao flex null 0 4).length) aP)),(56,.v (.slice none 0 0)),(57,.v (.slice aw ((qao flex null 0 4 ++ ([]:Bs)).length) ax))]) (by simp only [List.length_append,List.length_cons,List.length_nil,Nat.zero_add])
   refine qak [7] [] [(12,.v (.slice aw ((qao flex null 0 4 ++ ([]:Bs)).length) ax))] aQ cC fun eZ cD=>?_
   refine qaf (qab ?_)
   refine wp_ret (qaY (qaD (qaE cD aQ.cells (v:=.slice aw ((qao flex null 0 4 ++ ([]:Bs)).length) ax) kz ?_)))
   exact qa8 aQ (k:=0) rfl (by (try simp only [and1]); simp [qaL,Tree.S,Tree.N,ak,am,al,aZ,ac,ae,ag,ab,aN])
  refine wp_skip (qab (qae [0,1,2,3,4,5,6,7] kz ?_))
  refine qak [0,1,2,3] [4,5,6,7] [(15,.v (.slice A6 ((qaC s2).length) c7)),(51,.v (.bool flex)),(52,.v (.bool null)),(54,.v (.int .i64 (((qaC s2).length:Nat):Int)))] af aM fun e9 cE=>?_
  refine qam (qal cE (f:=110) (vs:=[.bool flex,.bool null,.int .i64 (((qaC s2).length:Nat):Int),.int .i64 4]) (d:=55) kz Tryz.call110 (qep flex null ((qaC s2).length) 4 (by first | omega | exact Nat.le_trans (qbp _) (by decide) | exact Nat.le_trans (qc4 _) (by decide) | (simp; done) | (have:=hroom; omega)) (by first | decide | omega) _) ?_)
  rintro e_ fa ⟨aR,aS,rfl,cG,cH⟩
  refine ⟨_,rfl,fun fb cI=>?_⟩
  obtain ⟨ai,dY⟩:=af.frFresh cH (brow aR aS 5 (qao flex null ((qaC s2).length) 4)) (Nat.le_refl _) cG
  refine qak [5] [6,7] [(55,.v (.slice aR ((qao flex null ((qaC s2).length) 4).length) aS)),(56,.v (.slice A6 ((qaC s2).length) c7))] ai cI fun fe cJ=>?_
  refine qam (qaJ ai cJ (k:=0) (d:=57) (t:=24) (e:=5) (size:=1) (bytes:=1) (A:=aR) (As:=A6) (m0:=((qao flex null ((qaC s2).length) 4).length)) (c:=aS) (m:=((qaC s2).length)) (cs:=c7) (xs:=(bc (qao flex null ((qaC s2).length) 4))) (news:=bc (qaC s2)) kz kz rfl ((aX.take 32767).move ai.step nilM ai.imm).src ((aX.take 32767).move ai.step nilM ai.imm).cap (by first | exact qdX (by omega) (by decide) (by omega) | exact qdX (Nat.le_trans (qbp _) (by decide)) (by decide) (Nat.le_trans (qbp _) (by decide)) | (simp; done)) fun ay az ff fg dZ cK cL=>?_)
  have cM:(⟨ay,az,5,1,(qao flex null ((qaC s2).length) 4).length + (qaC s2).length,bc (qao flex null ((qaC s2).length) 4) ++ bc (qaC s2)⟩:Rw) = brow ay az 5 (qao flex null ((qaC s2).length) 4 ++ (qaC s2)):=qa2 (rfl) rfl
  obtain ⟨aT,d5⟩:=cK.rowEq 0 [brow ay az 5 (qao flex null ((qaC s2).length) 4 ++ (qaC s2))] cM
  have cN:=EnvOk.pick cL (ks:=[55,56,57]) (env':=[(55,.v (.slice aR ((qao flex null ((qaC s2).length) 4).length) aS)),(56,.v (.slice A6 ((qaC s2).length) c7)),(57,.v (.slice ay ((qao flex null ((qaC s2).length) 4).length + (qaC s2).length) az))]) kz
  have cO:=cN.cast (env':=[(55,.v (.slice aR ((qao flex null ((qaC s2).length) 4).length) aS)),(56,.v (.slice A6 ((qaC s2).length) c7)),(57,.v (.slice ay ((qao flex null ((qaC s2).length) 4 ++ (qaC s2)).length) az))]) (by simp only [List.length_append,List.length_cons,List.length_nil,Nat.zero_add])
  refine qak [7] [] [(12,.v (.slice ay ((qao flex null ((qaC s2).length) 4 ++ (qaC s2)).length) az))] aT cO fun fh cP=>?_
  refine qaf (qab ?_)
  refine wp_ret (qaY (qaD (qaE cP aT.cells (v:=.slice ay ((qao flex null ((qaC s2).length) 4 ++ (qaC s2)).length) az) kz ?_)))
  exact qa8 aT (k:=0) rfl (by (try simp only [and1]); simp [qaL,Tree.S,Tree.N,ak,am,al,aZ,ac,ae,ag,ab,aN])
 have aU:kind ≠ 9:=by simpa using ab
 refine qar [(0,.v (.int .i64 kind)),(1,.v (.slice A l.length c)),(3,.v (.int .i64 v)),(4,.v (.bool flex)),(11,.p 0 0),(58,.v (.bool (kind == 10)))] aa aL fun fi aV=>?_
 refine qay aV (b:=kind == 10) kz (fun aj=>?_) (fun aj=>?_)
 ·
  have bf:kind = 10:=by simpa using aj
  refine qae [0,1,2,3,4,5] kz ?_
  refine qak [0,1,2,3] [4,5] [(60,.v (.slice A l.length c)),(61,.v (.int .i64 v)),(62,.v (.bool flex)),(63,.v (.agg #[.int .i64 n1,.slice A6 s2.length c7,.bool b3,.slice A8 l4.length c9,.slice dg u5.length dh]))] aa aV fun fj cQ=>?_
  refine qam (qal cQ (f:=42) (vs:=[.slice A l.length c,.int .i64 v,.bool flex,.agg #[.int .i64 n1,.slice A6 s2.length c7,.bool b3,.slice A8 l4.length c9,.slice dg u5.length dh]]) (d:=64) kz Tryz.call42 (hp _ _ l v flex _ (Tree.mk n1 s2 b3 l4 u5) _ _ ⟨xfs,(h1.move aa.step nilM aa.imm),(fun i_ x_ h_=>((h2 i_ x_ h_).move aa.step nilM aa.imm))⟩ hd (ht.move aa.step nilM aa.imm) (by simpa [qaL,ak,am,al,aU,bf,ac,ae,ag,ab,aj] using hroom)) ?_)
  rintro e_ fk ⟨bu,bw,rfl,cR,cS⟩
  refine ⟨_,rfl,fun fl cT=>?_⟩
  obtain ⟨aW,d6⟩:=aa.frFresh cS (brow bu bw 5 (qaV d l v flex (Tree.mk n1 s2 b3 l4 u5))) (Nat.le_refl _) cR
  refine qak [5] [] [(12,.v (.slice bu ((qaV d l v flex (Tree.mk n1 s2 b3 l4 u5)).length) bw))] aW cT fun fm cU=>?_
  refine qaf (qab ?_)
  refine wp_ret (qaY (qaD (qaE cU aW.cells (v:=.slice bu ((qaV d l v flex (Tree.mk n1 s2 b3 l4 u5)).length) bw) kz ?_)))
  exact qa8 aW (k:=0) rfl (by (try simp only [and1]); simp [qaL,Tree.S,Tree.N,ak,am,al,aU,bf,ac,ae,ag,ab,aj])
 have cV:kind ≠ 10:=by simpa using aj
 refine wp_skip (qaF (qab (qbm 5 kz aa fun fo d7 bg cW=>?_)))
 refine qa0 [0,1,2] [(66,.v (.int .i64 n1)),(67,.v (.int .i64 kind))] 3 (qac qah) (fun _ h=>h.cells) cW aV fun fq cX=>?_
 refine qaO (i:=3) kz (qal cX (f:=112) (vs:=[.int .i64 kind]) (d:=68) kz Tryz.call112 (qjX kind _) ?_)
 rintro e_ fr ⟨rfl,bh⟩
 refine ⟨_,rfl,fun ft cY=>?_⟩
 have bi:=bg.next_nil bh
 have bj:=bg.frN bh
 have cZ:=TT.ofW bj bi
 refine ⟨fun _=>cZ,?_⟩
 refine qaO (i:=4) kz (qal cY (f:=46) (vs:=[.int .i64 n1,.int .i64 ((qbB kind:Nat):Int)]) (d:=69) kz Tryz.call46 (qcV n1 (qbB kind) (by first | decide | exact qbb _ | omega) _) ?_)
 rintro e_ fu ⟨bx,bz,rfl,c5,da⟩
 refine ⟨_,rfl,fun fv db=>?_⟩
 obtain ⟨aA,dc⟩:=bi.frFresh da (brow bx bz 5 (be (qbB kind) n1)) (Nat.le_refl _) c5
 have de:=TT.ofW (bj.trans dc) aA
 refine ⟨fun _=>de,?_⟩
 refine qaO (i:=5) kz (qcf [12] aA.cells db (env':=[(12,.v (.slice bx ((be (qbB kind) n1).length) bz))]) kz fun fw df=>?_)
 refine ⟨fun h=>absurd rfl h,?_⟩
 refine qaZ kz ?_ _
 refine qab (wp_ret (qaE df aA.cells (v:=.slice bx ((be (qbB kind) n1).length) bz) kz ?_))
 exact qa8 aA (k:=0) rfl (by (try simp only [and1]); simp [qaL,Tree.S,Tree.N,ak,am,al,aU,cV,ac,ae,ag,ab,aj])
abbrev z5 (x0) (x1) (x2) (x3) (x4) (x5) (x6) (x7) (x8) (x9) (x10) (x11) (x12) (x13):=(Fld.nul (Fld.mk x0 x1 x2 x3 x4 x5 x6 x7) x8 (Tree.mk x9 x10 x11 x12 x13))
theorem qmh {d:Nat} (hp:qjZ d) (cf:List Value) (f:Fld) (v:Int) (flex:Bool) (ct:List Value) (t:Tree) (w:World) (F:Nat → Nat → Prop) (hf:FldR w F cf f) (hd:depths f.sub ≤ d) (ht:TreeR w F ct t) (hroom:(qc3 d f v flex t).length ≤ 1099511627776) :
  Calls Tryz.prog 81 #[.agg cf.toArray,.int .i64 v,.bool flex,.agg ct.toArray] w (qdV w 5 (qc3 d f v flex t)):=by
 obtain ⟨n1,s2,b3,l4,u5,A6,c7,A8,c9,aK,aL,eW,rfl,rfl,eX,dV,eY,gk⟩:=ht.open_
 have eu:=eX.small
 have ev:=dV.small
 obtain ⟨ac,af,ag,ae,ah,ai,ab,aa,ay,az,bw,rfl,rfl,b8,dU⟩:=hf.open_
 have ew:=b8.small
 refine enter (n:=76) Tryz.func81 rfl Tryz.ntmps81 kz fun a hE=>?_
 have hW:=WOk.start w Nil
 refine qae [0,1,2] kz ?_
 refine qam (qbk hW hE (d:=4) (cs:=(z7 ac af ag ae ah ai ab ay aa.length az)) kz fun ey gl gm eZ e9 fa dW dX=>?_)
 refine qam (qbk dW dX (d:=7) (cs:=(z9 n1 A6 s2.length c7 b3 A8 l4.length c9 aK u5.length aL)) kz fun ez gn gp fb fe ff bx dY=>?_)
 refine qak [2] [] [(1,.v (.int .i64 v)),(2,.v (.bool flex)),(4,.p 0 0),(7,.p 1 0)] bx dY fun gq dZ=>?_
 refine qaf (qab ?_)
 refine qae [0,1,2,3,4] kz ?_
 refine qak [0,1,2] [3,4] [(1,.v (.int .i64 v)),(2,.v (.bool flex)),(4,.p 0 0),(7,.p 1 0),(13,.v (.agg #[.int .i64 ac,.int .i64 af,.int .i64 ag,.int .i64 ae,.int .i64 ah,.int .i64 ai,.int .i64 ab,.slice ay aa.length az])),(14,.v (.int .i64 v)),(15,.v (.agg #[.int .i64 n1,.slice A6 s2.length c7,.bool b3,.slice A8 l4.length c9,.slice aK u5.length aL]))] bx dZ fun gt d5=>?_
 refine qam (qal d5 (f:=108) (vs:=[.agg #[.int .i64 ac,.int .i64 af,.int .i64 ag,.int .i64 ae,.int .i64 ah,.int .i64 ai,.int .i64 ab,.slice ay aa.length az],.int .i64 v,.agg #[.int .i64 n1,.slice A6 s2.length c7,.bool b3,.slice A8 l4.length c9,.slice aK u5.length aL]]) (d:=16) kz Tryz.call108 (qmD ac af ag ae ah ai ab aa _ _ v n1 s2 b3 l4 u5 _ _ _ _ _ _ _) ?_)
 rintro e_ gv ⟨rfl,cd⟩
 refine ⟨_,rfl,fun gw d6=>?_⟩
 have aj:=bx.next_nil cd
 have fg:=bx.frN cd
 refine qak [4] [] [(1,.v (.int .i64 v)),(2,.v (.bool flex)),(4,.p 0 0),(7,.p 1 0),(9,.v (.bool (z5 ac af ag ae ah ai ab aa v n1 s2 b3 l4 u5)))] aj d6 fun gx d7=>?_
 refine qaf (qab ?_)
 refine wp_seq (qar [(1,.v (.int .i64 v)),(2,.v (.bool flex)),(4,.p 0 0),(7,.p 1 0),(9,.v (.bool (z5 ac af ag ae ah ai ab aa v n1 s2 b3 l4 u5))),(19,.v (.bool (ac == 11)))] aj d7 fun gy bM=>?_)
 refine qay bM (b:=ac == 11) kz (fun bN=>?_) (fun bN=>?_)
 ·
  have fh:ac = 11:=by simpa using bN
  refine qae [0,1,2,3] kz ?_
  refine qak [0,1] [2,3] [(1,.v (.int .i64 v)),(2,.v (.bool flex)),(4,.p 0 0),(9,.v (.bool (z5 ac af ag ae ah ai ab aa v n1 s2 b3 l4 u5))),(21,.v (.slice A8 l4.length c9))] aj bM fun gz d8=>?_
  refine qam (qal d8 (f:=109) (vs:=[.slice A8 l4.length c9]) (d:=22) kz Tryz.call109 (qlB _ _ l4 (dV.move aj.step nilM aj.imm).le _) ?_)
  rintro e_ gA ⟨rfl,ce⟩
  refine ⟨_,rfl,fun gB d9=>?_⟩
  have aB:=aj.next_nil ce
  have fi:=aj.frN ce
  refine qak [3] [] [(1,.v (.int .i64 v)),(2,.v (.bool flex)),(4,.p 0 0),(9,.v (.bool (z5 ac af ag ae ah ai ab aa v n1 s2 b3 l4 u5))),(10,.v (.slice A8 ((qaw l4).length) c9))] aB d9 fun gC ea=>?_
  refine qaf (qab ?_)
  refine wp_seq (qar [(1,.v (.int .i64 v)),(2,.v (.bool flex)),(4,.p 0 0),(9,.v (.bool (z5 ac af ag ae ah ai ab aa v n1 s2 b3 l4 u5))),(10,.v (.slice A8 ((qaw l4).length) c9)),(23,.v (.bool (z5 ac af ag ae ah ai ab aa v n1 s2 b3 l4 u5)))] aB ea fun gD bO=>?_)
  refine qay bO (b:=Fld.nul (Fld.mk ac af ag ae ah ai ab aa) v (Tree.mk n1 s2 b3 l4 u5)) kz (fun eb=>?_) (fun eb=>?_)
  ·
   refine qas [0] kz ?_
   refine qak [0] [] [(1,.v (.int .i64 v)),(2,.v (.bool flex)),(4,.p 0 0),(9,.v (.bool (z5 ac af ag ae ah ai ab aa v n1 s2 b3 l4 u5))),(10,.v (.slice none 0 0))] aB bO fun gE ec=>?_
   refine qaf (qab ?_)
   refine qae [0,1,2,3,4,5] kz ?_
   refine qak [0,1,2,3] [4,5] [(1,.v (.int .i64 v)),(2,.v (.bool flex)),(4,.p 0 0),(10,.v (.slice none 0 0)),(24,.v (.bool flex)),(25,.v (.bool (z5 ac af ag ae ah ai ab aa v n1 s2 b3 l4 u5))),(27,.v (.int .i64 0))] aB ec fun gF ee=>?_
   refine qam (qal ee (f:=110) (vs:=[.bool flex,.bool (Fld.nul (Fld.mk ac af ag ae ah ai ab aa) v (Tree.mk n1 s2 b3 l4 u5)),.int .i64 0,.int .i64 4]) (d:=28) kz Tryz.call110 (qep flex (Fld.nul (Fld.mk ac af ag ae ah ai ab aa) v (Tree.mk n1 s2 b3 l4 u5)) 0 4 (by first | omega | exact Nat.le_trans (qbp _) (by decide) | exact Nat.le_trans (qc4 _) (by decide) | (simp; done) | (have:=hroom; omega)) (by first | decide | omega) _) ?_)
   rintro e_ gG ⟨bY,bZ,rfl,ef,eg⟩
   refine ⟨_,rfl,fun gH eh=>?_⟩
   obtain ⟨bP,fj⟩:=aB.frFresh eg (brow bY bZ 5 (qao flex (z5 ac af ag ae ah ai ab aa v n1 s2 b3 l4 u5) 0 4)) (Nat.le_refl _) ef
   refine qak [5] [] [(1,.v (.int .i64 v)),(2,.v (.bool flex)),(4,.p 0 0),(10,.v (.slice none 0 0)),(11,.v (.slice bY ((qao flex (z5 ac af ag ae ah ai ab aa v n1 s2 b3 l4 u5) 0 4).length) bZ))] bP eh fun gI ei=>?_
   refine qaf (qab ?_)
   refine wp_seq (qar [(1,.v (.int .i64 v)),(2,.v (.bool flex)),(4,.p 0 0),(10,.v (.slice none 0 0)),(11,.v (.slice bY ((qao flex (z5 ac af ag ae ah ai ab aa v n1 s2 b3 l4 u5) 0 4).length) bZ)),(30,.v (.int .i64 0)),(31,.v (.int .i64 0))] bP ei fun gJ cg=>?_)
   refine wp_block ?_
   have hr2:(qao flex (Fld.nul (Fld.mk ac af ag ae ah ai ab aa) v (Tree.mk n1 s2 b3 l4 u5)) 0 4 ++ ([]:List Tree).flatMap (qaL (qaV d aa v flex) ab false flex)).length ≤ 1099511627776:=by have h_:=hroom; rw [qfZ ‹_› ‹_›] at h_; exact h_
   rw [List.length_append] at hr2
   have hr3:=qcA ([]:List Tree) (qaL (qaV d aa v flex) ab false flex)
   have cm:(qao flex (Fld.nul (Fld.mk ac af ag ae ah ai ab aa) v (Tree.mk n1 s2 b3 l4 u5)) 0 4) = (qao flex (Fld.nul (Fld.mk ac af ag ae ah ai ab aa) v (Tree.mk n1 s2 b3 l4 u5)) 0 4 ++ (([]:List Tree).take 0).flatMap (qaL (qaV d aa v flex) ab false flex)):=by simp
   have cq:=congrArg (brow bY bZ 5) cm
   obtain ⟨bB,eB⟩:=bP.rowEq 0 [brow bY bZ 5 (qao flex (z5 ac af ag ae ah ai ab aa v n1 s2 b3 l4 u5) 0 4 ++ (([]:List Tree).take 0).flatMap (qaL (qaV d aa v flex) ab false flex))] cq
   rw [cm] at cg
   refine wp_loop_ghost (fun n_ a_ w_=>∃ (k:Nat) (A_:Option Addr) (c_:Nat),n_ = 0 - k ∧ k ≤ 0 ∧ LInv bB 76 [⟨ey,0,[.int .i64 ac,.int .i64 af,.int .i64 ag,.int .i64 ae,.int .i64 ah,.int .i64 ai,.int .i64 ab,.slice ay aa.length az],true⟩,⟨ez,0,[.int .i64 n1,.slice A6 s2.length c7,.bool b3,.slice A8 l4.length c9,.slice aK u5.length aL],true⟩] [brow A_ c_ 5 (qao flex (Fld.nul (Fld.mk ac af ag ae ah ai ab aa) v (Tree.mk n1 s2 b3 l4 u5)) 0 4 ++ (([]:List Tree).take k).flatMap (qaL (qaV d aa v flex) ab false flex))] [(1,.v (.int .i64 v)),(2,.v (.bool flex)),(4,.p 0 0),(10,.v (.slice none 0 0)),(11,.v (.slice A_ ((qao flex (Fld.nul (Fld.mk ac af ag ae ah ai ab aa) v (Tree.mk n1 s2 b3 l4 u5)) 0 4 ++ (([]:List Tree).take k).flatMap (qaL (qaV d aa v flex) ab false flex)).length) c_)),(30,.v (.int .i64 0)),(31,.v (.int .i64 ((k:Nat):Int)))] a_ w_) (0) ⟨0,bY,bZ,by omega,by omega,cg.pk,bB,Fr.refl _ _ _⟩ ?_
   rintro fk fl fm ⟨k,A_,c_,eC,eD,cr,aE,eE⟩
   refine qar [(1,.v (.int .i64 v)),(2,.v (.bool flex)),(4,.p 0 0),(10,.v (.slice none 0 0)),(11,.v (.slice A_ ((qao flex (z5 ac af ag ae ah ai ab aa v n1 s2 b3 l4 u5) 0 4 ++ (([]:List Tree).take k).flatMap (qaL (qaV d aa v flex) ab false flex)).length) c_)),(30,.v (.int .i64 0)),(31,.v (.int .i64 ((k:Nat):Int))),(32,.v (.bool (decide (((k:Nat):Int) < 0))))] aE cr fun fo bC=>?_
   refine wp_seq (qau bC (b:=decide (((k:Nat):Int) < 0)) kz (decide_eq_false (by omega)) ?_)
   refine wp_exit (qaz (qaz (qaR (qab (qar [(8,.v (.slice A_ ((qao flex (z5 ac af ag ae ah ai ab aa v n1 s2 b3 l4 u5) 0 4 ++ (([]:List Tree).take k).flatMap (qaL (qaV d aa v flex) ab false flex)).length) c_))] aE bC fun fq cu=>?_)))))
   refine wp_ret (qaD (qaE cu aE.cells (v:=.slice A_ ((qao flex (z5 ac af ag ae ah ai ab aa v n1 s2 b3 l4 u5) 0 4 ++ (([]:List Tree).take k).flatMap (qaL (qaV d aa v flex) ab false flex)).length) c_) kz ?_))
   exact qa8 aE (k:=0) rfl (by rw [qfZ ‹_› ‹_›]; simp)
  refine wp_skip (qab (qae [0,1,2,3,4,5] kz ?_))
  refine qak [0,1,2,3] [4,5] [(1,.v (.int .i64 v)),(2,.v (.bool flex)),(4,.p 0 0),(10,.v (.slice A8 ((qaw l4).length) c9)),(24,.v (.bool flex)),(25,.v (.bool (z5 ac af ag ae ah ai ab aa v n1 s2 b3 l4 u5))),(27,.v (.int .i64 (((qaw l4).length:Nat):Int)))] aB bO fun fr cv=>?_
  refine qam (qal cv (f:=110) (vs:=[.bool flex,.bool (Fld.nul (Fld.mk ac af ag ae ah ai ab aa) v (Tree.mk n1 s2 b3 l4 u5)),.int .i64 (((qaw l4).length:Nat):Int),.int .i64 4]) (d:=28) kz Tryz.call110 (qep flex (Fld.nul (Fld.mk ac af ag ae ah ai ab aa) v (Tree.mk n1 s2 b3 l4 u5)) ((qaw l4).length) 4 (by first | omega | exact Nat.le_trans (qbp _) (by decide) | exact Nat.le_trans (qc4 _) (by decide) | (simp; done) | (have:=hroom; omega)) (by first | decide | omega) _) ?_)
  rintro e_ ft ⟨aM,aN,rfl,cw,cz⟩
  refine ⟨_,rfl,fun fu cA=>?_⟩
  obtain ⟨aO,eF⟩:=aB.frFresh cz (brow aM aN 5 (qao flex (z5 ac af ag ae ah ai ab aa v n1 s2 b3 l4 u5) ((qaw l4).length) 4)) (Nat.le_refl _) cw
  refine qak [5] [] [(1,.v (.int .i64 v)),(2,.v (.bool flex)),(4,.p 0 0),(10,.v (.slice A8 ((qaw l4).length) c9)),(11,.v (.slice aM ((qao flex (z5 ac af ag ae ah ai ab aa v n1 s2 b3 l4 u5) ((qaw l4).length) 4).length) aN))] aO cA fun fv cB=>?_
  refine qaf (qab ?_)
  refine wp_seq (qar [(1,.v (.int .i64 v)),(2,.v (.bool flex)),(4,.p 0 0),(10,.v (.slice A8 ((qaw l4).length) c9)),(11,.v (.slice aM ((qao flex (z5 ac af ag ae ah ai ab aa v n1 s2 b3 l4 u5) ((qaw l4).length) 4).length) aN)),(30,.v (.int .i64 (((qaw l4).length:Nat):Int))),(31,.v (.int .i64 0))] aO cB fun fw bD=>?_)
  refine wp_block ?_
  have hr2:(qao flex (Fld.nul (Fld.mk ac af ag ae ah ai ab aa) v (Tree.mk n1 s2 b3 l4 u5)) ((qaw l4).length) 4 ++ (qaw l4).flatMap (qaL (qaV d aa v flex) ab false flex)).length ≤ 1099511627776:=by have h_:=hroom; rw [qgP ‹_› ‹_›] at h_; exact h_
  rw [List.length_append] at hr2
  have hr3:=qcA (qaw l4) (qaL (qaV d aa v flex) ab false flex)
  have hsm3:(qaw l4).length ≤ 32767:=by simp only [qaw,List.length_take]; omega
  have bE:(qao flex (Fld.nul (Fld.mk ac af ag ae ah ai ab aa) v (Tree.mk n1 s2 b3 l4 u5)) ((qaw l4).length) 4) = (qao flex (Fld.nul (Fld.mk ac af ag ae ah ai ab aa) v (Tree.mk n1 s2 b3 l4 u5)) ((qaw l4).length) 4 ++ ((qaw l4).take 0).flatMap (qaL (qaV d aa v flex) ab false flex)):=by simp
  have cC:=congrArg (brow aM aN 5) bE
  obtain ⟨bF,eG⟩:=aO.rowEq 0 [brow aM aN 5 (qao flex (z5 ac af ag ae ah ai ab aa v n1 s2 b3 l4 u5) ((qaw l4).length) 4 ++ ((qaw l4).take 0).flatMap (qaL (qaV d aa v flex) ab false flex))] cC
  rw [bE] at bD
  refine wp_loop_ghost (fun n_ a_ w_=>∃ (k:Nat) (A_:Option Addr) (c_:Nat),n_ = (qaw l4).length - k ∧ k ≤ (qaw l4).length ∧ LInv bF 76 [⟨ey,0,[.int .i64 ac,.int .i64 af,.int .i64 ag,.int .i64 ae,.int .i64 ah,.int .i64 ai,.int .i64 ab,.slice ay aa.length az],true⟩,⟨ez,0,[.int .i64 n1,.slice A6 s2.length c7,.bool b3,.slice A8 l4.length c9,.slice aK u5.length aL],true⟩] [brow A_ c_ 5 (qao flex (Fld.nul (Fld.mk ac af ag ae ah ai ab aa) v (Tree.mk n1 s2 b3 l4 u5)) ((qaw l4).length) 4 ++ ((qaw l4).take k).flatMap (qaL (qaV d aa v flex) ab false flex))] [(1,.v (.int .i64 v)),(2,.v (.bool flex)),(4,.p 0 0),(10,.v (.slice A8 ((qaw l4).length) c9)),(11,.v (.slice A_ ((qao flex (Fld.nul (Fld.mk ac af ag ae ah ai ab aa) v (Tree.mk n1 s2 b3 l4 u5)) ((qaw l4).length) 4 ++ ((qaw l4).take k).flatMap (qaL (qaV d aa v flex) ab false flex)).length) c_)),(30,.v (.int .i64 (((qaw l4).length:Nat):Int))),(31,.v (.int .i64 ((k:Nat):Int)))] a_ w_) ((qaw l4).length) ⟨0,aM,aN,by omega,by omega,bD.pk,bF,Fr.refl _ _ _⟩ ?_
  rintro fx fy fz ⟨k,A_,c_,eH,eI,cD,ax,cE⟩
  refine qar [(1,.v (.int .i64 v)),(2,.v (.bool flex)),(4,.p 0 0),(10,.v (.slice A8 ((qaw l4).length) c9)),(11,.v (.slice A_ ((qao flex (z5 ac af ag ae ah ai ab aa v n1 s2 b3 l4 u5) ((qaw l4).length) 4 ++ ((qaw l4).take k).flatMap (qaL (qaV d aa v flex) ab false flex)).length) c_)),(30,.v (.int .i64 (((qaw l4).length:Nat):Int))),(31,.v (.int .i64 ((k:Nat):Int))),(32,.v (.bool (decide (((k:Nat):Int) < (((qaw l4).length:Nat):Int)))))] ax cD fun fA aP=>?_
  refine wp_seq (qay aP (b:=decide (((k:Nat):Int) < (((qaw l4).length:Nat):Int))) kz (fun aQ=>?_) (fun aQ=>?_))
  ·
   have eJ:=of_decide_eq_true aQ
   refine wp_skip (qab (wp_seq (wp_block (qar [(1,.v (.int .i64 v)),(2,.v (.bool flex)),(4,.p 0 0),(10,.v (.slice A8 ((qaw l4).length) c9)),(11,.v (.slice A_ ((qao flex (z5 ac af ag ae ah ai ab aa v n1 s2 b3 l4 u5) ((qaw l4).length) 4 ++ ((qaw l4).take k).flatMap (qaL (qaV d aa v flex) ab false flex)).length) c_)),(12,.v (.int .i64 ((k:Nat):Int))),(30,.v (.int .i64 (((qaw l4).length:Nat):Int))),(31,.v (.int .i64 ((k:Nat):Int)))] ax aP fun fB cG=>?_))))
   refine qhW 13 kz ax fun fC cH ar aR=>?_
   refine qa0 [0,1,2,3,4,5,6,7,8] [(1,.v (.int .i64 v)),(2,.v (.bool flex)),(4,.p 0 0),(10,.v (.slice A8 ((qaw l4).length) c9)),(11,.v (.slice A_ ((qao flex (z5 ac af ag ae ah ai ab aa v n1 s2 b3 l4 u5) ((qaw l4).length) 4 ++ ((qaw l4).take k).flatMap (qaL (qaV d aa v flex) ab false flex)).length) c_)),(30,.v (.int .i64 (((qaw l4).length:Nat):Int))),(31,.v (.int .i64 ((k:Nat):Int))),(34,.v (.slice A_ ((qao flex (z5 ac af ag ae ah ai ab aa v n1 s2 b3 l4 u5) ((qaw l4).length) 4 ++ ((qaw l4).take k).flatMap (qaL (qaV d aa v flex) ab false flex)).length) c_)),(36,.v (.int .i64 ab)),(38,.v (.slice ay aa.length az)),(39,.v (.int .i64 v)),(40,.v (.bool flex)),(41,.v (.slice A8 ((qaw l4).length) c9)),(42,.v (.int .i64 ((k:Nat):Int)))] 5 (qai (qac (qac (qai (qac (qac qah)))))) (fun _ h=>h.cells) aR cG fun fD cI=>?_
   obtain ⟨bQ,bR,cJ,eK,aS⟩:=Slots.get (qgM dV) (i:=k) (by omega)
   obtain ⟨ej,aF⟩:∃ x,(qaw l4)[k]? = some x:=⟨_,List.getElem?_eq_getElem (by omega)⟩
   have aT:=(qhp eY) k ej aF
   obtain ⟨ak,al,am,ao,ap,aU,aV,aW,aX,aY,aZ,eL,rfl,ba,ek,em,fE,fF⟩:=aT.open_
   rw [ba] at aT
   have eo:=ek.small
   have ep:=em.small
   rw [ba] at aS
   refine qbe cI (i:=9) (t:=25) (A:=A8) (m:=((qaw l4).length)) (q:=((k:Nat):Int)) (d:=43) kz (e:=28) (size:=5) (bytes:=88) kz cJ rfl (by omega) kz kz (qai (qac (qac (qai (qac (qac qah)))))) aR fun fG cK=>?_
   refine qbd cK (i:=10) (t:=28) (b:=bQ) (o:=bR + k * 5) (d:=44) kz (cs:=(z9 ak aU al.length aV am aW ao.length aX aY ap.length aZ)) (v:=.agg #[.int .i64 ak,.slice aU al.length aV,.bool am,.slice aW ao.length aX,.slice aY ap.length aZ]) kz (fun w' h'=>(AtF.move aS (TT.step0 ar h') nilM qbg).at_) kz kz (qai (qac (qac (qai (qac (qac qah)))))) aR fun fH cL=>?_
   refine qaO (i:=11) kz (qal cL (f:=111) (vs:=[.int .i64 ab,.slice ay aa.length az,.bool false,.int .i64 v,.bool flex,.agg #[.int .i64 ak,.slice aU al.length aV,.bool am,.slice aW ao.length aX,.slice aY ap.length aZ]]) (d:=45) kz Tryz.call111 (qj0 hp ab _ _ aa false v flex _ (Tree.mk ak al am ao ap) _ _ ⟨bw,(b8.move ar.step nilM ar.imm),(fun i_ x_ h_=>((dU i_ x_ h_).move ar.step nilM ar.imm))⟩ hd (aT.move ar.step nilM ar.imm) (by have:=qfY (g:=qaL (qaV d aa v flex) ab false flex) aF; omega)) ?_)
   rintro e_ fI ⟨bd,bf,rfl,cM,cN⟩
   refine ⟨_,rfl,fun fJ cO=>?_⟩
   obtain ⟨aG,bg⟩:=ar.frFresh cN (brow bd bf 5 (qaL (qaV d aa v flex) ab false flex (Tree.mk ak al am ao ap))) (Nat.le_refl _) cM
   have cP:=TT.ofW bg aG
   refine ⟨fun _=>cP,?_⟩
   refine qaO (i:=12) kz (qaJ aG cO (k:=0) (d:=46) (t:=24) (e:=5) (size:=1) (bytes:=1) (A:=A_) (As:=bd) (m0:=((qao flex (Fld.nul (Fld.mk ac af ag ae ah ai ab aa) v (Tree.mk n1 s2 b3 l4 u5)) ((qaw l4).length) 4 ++ ((qaw l4).take k).flatMap (qaL (qaV d aa v flex) ab false flex)).length)) (c:=c_) (m:=((qaL (qaV d aa v flex) ab false flex (Tree.mk ak al am ao ap)).length)) (cs:=bf) (xs:=(bc (qao flex (Fld.nul (Fld.mk ac af ag ae ah ai ab aa) v (Tree.mk n1 s2 b3 l4 u5)) ((qaw l4).length) 4 ++ ((qaw l4).take k).flatMap (qaL (qaV d aa v flex) ab false flex)))) (news:=bc (qaL (qaV d aa v flex) ab false flex (Tree.mk ak al am ao ap))) kz kz rfl (qbZ (aG.own 1 _ rfl) (qcq _)) (qcc (aG.own 1 _ rfl)) (by rw [List.length_append]; have h8_:=hr3 k; have h9_:=qfY (g:=qaL (qaV d aa v flex) ab false flex) aF; omega) fun av aw fK fL bG cQ cR=>?_)
   have cS:(⟨av,aw,5,1,(qao flex (z5 ac af ag ae ah ai ab aa v n1 s2 b3 l4 u5) ((qaw l4).length) 4 ++ ((qaw l4).take k).flatMap (qaL (qaV d aa v flex) ab false flex)).length + (qaL (qaV d aa v flex) ab false flex (Tree.mk ak al am ao ap)).length,bc (qao flex (z5 ac af ag ae ah ai ab aa v n1 s2 b3 l4 u5) ((qaw l4).length) 4 ++ ((qaw l4).take k).flatMap (qaL (qaV d aa v flex) ab false flex)) ++ bc (qaL (qaV d aa v flex) ab false flex (Tree.mk ak al am ao ap))⟩:Rw) = brow av aw 5 (qao flex (z5 ac af ag ae ah ai ab aa v n1 s2 b3 l4 u5) ((qaw l4).length) 4 ++ ((qaw l4).take k).flatMap (qaL (qaV d aa v flex) ab false flex) ++ (qaL (qaV d aa v flex) ab false flex (Tree.mk ak al am ao ap))):=qa2 (rfl) rfl
   obtain ⟨aH,bH⟩:=cQ.rowEq 0 [brow av aw 5 (qao flex (z5 ac af ag ae ah ai ab aa v n1 s2 b3 l4 u5) ((qaw l4).length) 4 ++ ((qaw l4).take k).flatMap (qaL (qaV d aa v flex) ab false flex) ++ (qaL (qaV d aa v flex) ab false flex (Tree.mk ak al am ao ap))),brow bd bf 5 (qaL (qaV d aa v flex) ab false flex (Tree.mk ak al am ao ap))] cS
   have cT:=EnvOk.pick cR (ks:=[1,2,4,10,11,30,31,34,36,38,39,40,41,42,43,44,45,46]) (env':=[(1,.v (.int .i64 v)),(2,.v (.bool flex)),(4,.p 0 0),(10,.v (.slice A8 ((qaw l4).length) c9)),(11,.v (.slice A_ ((qao flex (z5 ac af ag ae ah ai ab aa v n1 s2 b3 l4 u5) ((qaw l4).length) 4 ++ ((qaw l4).take k).flatMap (qaL (qaV d aa v flex) ab false flex)).length) c_)),(30,.v (.int .i64 (((qaw l4).length:Nat):Int))),(31,.v (.int .i64 ((k:Nat):Int))),(34,.v (.slice A_ ((qao flex (z5 ac af ag ae ah ai ab aa v n1 s2 b3 l4 u5) ((qaw l4).length) 4 ++ ((qaw l4).take k).flatMap (qaL (qaV d aa v flex) ab false flex)).length) c_)),(36,.v (.int .i64 ab)),(38,.v (.slice ay aa.length az)),(39,.v (.int .i64 v)),(40,.v (.bool flex)),(41,.v (.slice A8 ((qaw l4).length) c9)),(42,.v (.int .i64 ((k:Nat):Int))),(43,.v (.pointer (some ⟨bQ,bR + k * 5,none⟩))),(44,.v (.agg #[.int .i64 ak,.slice aU al.length aV,.bool am,.slice aW ao.length aX,.slice aY ap.length aZ])),(45,.v (.slice bd ((qaL (qaV d aa v flex) ab false flex (Tree.mk ak al am ao ap)).length) bf)),(46,.v (.slice av ((qao flex (z5 ac af ag ae ah ai ab aa v n1 s2 b3 l4 u5) ((qaw l4).length) 4 ++ ((qaw l4).take k).flatMap (qaL (qaV d aa v flex) ab false flex)).length + (qaL (qaV d aa v flex) ab false flex (Tree.mk ak al am ao ap)).length) aw))]) kz
   have cU:=cT.cast (env':=[(1,.v (.int .i64 v)),(2,.v (.bool flex)),(4,.p 0 0),(10,.v (.slice A8 ((qaw l4).length) c9)),(11,.v (.slice A_ ((qao flex (Fld.nul (Fld.mk ac af ag ae ah ai ab aa) v (Tree.mk n1 s2 b3 l4 u5)) ((qaw l4).length) 4 ++ ((qaw l4).take k).flatMap (qaL (qaV d aa v flex) ab false flex)).length) c_)),(30,.v (.int .i64 (((qaw l4).length:Nat):Int))),(31,.v (.int .i64 ((k:Nat):Int))),(34,.v (.slice A_ ((qao flex (Fld.nul (Fld.mk ac af ag ae ah ai ab aa) v (Tree.mk n1 s2 b3 l4 u5)) ((qaw l4).length) 4 ++ ((qaw l4).take k).flatMap (qaL (qaV d aa v flex) ab false flex)).length) c_)),(36,.v (.int .i64 ab)),(38,.v (.slice ay aa.length az)),(39,.v (.int .i64 v)),(40,.v (.bool flex)),(41,.v (.slice A8 ((qaw l4).length) c9)),(42,.v (.int .i64 ((k:Nat):Int))),(43,.v (.pointer (some ⟨bQ,bR + k * 5,none⟩))),(44,.v (.agg #[.int .i64 ak,.slice aU al.length aV,.bool am,.slice aW ao.length aX,.slice aY ap.length aZ])),(45,.v (.slice bd ((qaL (qaV d aa v flex) ab false flex (Tree.mk ak al am ao ap)).length) bf)),(46,.v (.slice av ((qao flex (Fld.nul (Fld.mk ac af ag ae ah ai ab aa) v (Tree.mk n1 s2 b3 l4 u5)) ((qaw l4).length) 4 ++ ((qaw l4).take k).flatMap (qaL (qaV d aa v flex) ab false flex) ++ (qaL (qaV d aa v flex) ab false flex (Tree.mk ak al am ao ap))).length) aw))]) (by simp only [List.length_append,List.length_cons,List.length_nil,Nat.zero_add])
   have cV:=TT.ofW ((bg.trans bG).trans bH) aH
   refine ⟨fun _=>cV,?_⟩
   refine qaO (i:=13) kz (qcf [1,2,4,10,11,30,31] aH.cells cU (env':=[(1,.v (.int .i64 v)),(2,.v (.bool flex)),(4,.p 0 0),(10,.v (.slice A8 ((qaw l4).length) c9)),(11,.v (.slice av ((qao flex (z5 ac af ag ae ah ai ab aa v n1 s2 b3 l4 u5) ((qaw l4).length) 4 ++ ((qaw l4).take k).flatMap (qaL (qaV d aa v flex) ab false flex) ++ (qaL (qaV d aa v flex) ab false flex (Tree.mk ak al am ao ap))).length) aw)),(30,.v (.int .i64 (((qaw l4).length:Nat):Int))),(31,.v (.int .i64 ((k:Nat):Int)))]) kz fun fM cW=>?_)
   refine ⟨fun h=>absurd rfl h,?_⟩
   refine qaZ kz ?_ _
   refine qaF (qab (qas [0,1] kz ?_))
   refine qak [0,1] [] [(1,.v (.int .i64 v)),(2,.v (.bool flex)),(4,.p 0 0),(10,.v (.slice A8 ((qaw l4).length) c9)),(11,.v (.slice av ((qao flex (z5 ac af ag ae ah ai ab aa v n1 s2 b3 l4 u5) ((qaw l4).length) 4 ++ ((qaw l4).take k).flatMap (qaL (qaV d aa v flex) ab false flex) ++ (qaL (qaV d aa v flex) ab false flex (Tree.mk ak al am ao ap))).length) aw)),(30,.v (.int .i64 (((qaw l4).length:Nat):Int))),(31,.v (.int .i64 (IntKind.i64.wrap (((k:Nat):Int) + 1))))] aH cW fun fN bh=>?_
   refine qaf (qab ?_)
   obtain ⟨cX,cY⟩:=aH.cutR 1 [brow av aw 5 (qao flex (z5 ac af ag ae ah ai ab aa v n1 s2 b3 l4 u5) ((qaw l4).length) 4 ++ ((qaw l4).take k).flatMap (qaL (qaV d aa v flex) ab false flex) ++ (qaL (qaV d aa v flex) ab false flex (Tree.mk ak al am ao ap)))]
   have bI:(qao flex (Fld.nul (Fld.mk ac af ag ae ah ai ab aa) v (Tree.mk n1 s2 b3 l4 u5)) ((qaw l4).length) 4 ++ ((qaw l4).take k).flatMap (qaL (qaV d aa v flex) ab false flex) ++ (qaL (qaV d aa v flex) ab false flex (Tree.mk ak al am ao ap))) = (qao flex (Fld.nul (Fld.mk ac af ag ae ah ai ab aa) v (Tree.mk n1 s2 b3 l4 u5)) ((qaw l4).length) 4 ++ ((qaw l4).take (k + 1)).flatMap (qaL (qaV d aa v flex) ab false flex)):=by rw [qcJ aF,List.append_assoc]
   have cZ:=congrArg (brow av aw 5) bI
   obtain ⟨c5,da⟩:=cX.rowEq 0 [brow av aw 5 (qao flex (z5 ac af ag ae ah ai ab aa v n1 s2 b3 l4 u5) ((qaw l4).length) 4 ++ ((qaw l4).take (k + 1)).flatMap (qaL (qaV d aa v flex) ab false flex))] cZ
   rw [bI] at bh
   have db:IntKind.i64.wrap (((k:Nat):Int) + 1) = ((k + 1:Nat):Int):=qbh (by omega)
   rw [db] at bh
   exact ⟨(qaw l4).length - (k + 1),by omega,k + 1,av,aw,rfl,by omega,bh.pk,c5,((((((cE.trans cH).trans bg).trans bG).trans bH).trans cY).trans da)⟩
  have eM:=of_decide_eq_false aQ
  refine wp_exit (qaz (qaz (qaR (qab (qar [(8,.v (.slice A_ ((qao flex (z5 ac af ag ae ah ai ab aa v n1 s2 b3 l4 u5) ((qaw l4).length) 4 ++ ((qaw l4).take k).flatMap (qaL (qaV d aa v flex) ab false flex)).length) c_))] ax aP fun fO dc=>?_)))))
  refine wp_ret (qaD (qaE dc ax.cells (v:=.slice A_ ((qao flex (z5 ac af ag ae ah ai ab aa v n1 s2 b3 l4 u5) ((qaw l4).length) 4 ++ ((qaw l4).take k).flatMap (qaL (qaV d aa v flex) ab false flex)).length) c_) kz ?_))
  have hkk:(qaw l4).take k = qaw l4:=List.take_of_length_le (by omega)
  exact qa8 ax (k:=0) rfl (by rw [hkk,qgP ‹_› ‹_›]; rfl)
 have eN:ac ≠ 11:=by simpa using bN
 refine wp_skip (qab (wp_seq (qae [0,1,2,3,4,5,6,7] kz ?_)))
 refine qak [0,1,2,3] [4,5,6,7] [(1,.v (.int .i64 v)),(2,.v (.bool flex)),(4,.p 0 0),(7,.p 1 0),(9,.v (.bool (z5 ac af ag ae ah ai ab aa v n1 s2 b3 l4 u5))),(52,.v (.bool (ac == 10)))] aj bM fun fP bJ=>?_
 refine (Bool.eq_false_or_eq_true (ac == 10)).elim (fun aA=>?_) (fun aA=>?_)
 ·
  have eO:ac = 10:=by simpa using aA
  have de:=bJ
  rw [aA] at de
  refine qak [4,5,6,7] [] [(1,.v (.int .i64 v)),(2,.v (.bool flex)),(4,.p 0 0),(7,.p 1 0),(9,.v (.bool (z5 ac af ag ae ah ai ab aa v n1 s2 b3 l4 u5))),(56,.v (.bool (decide (ae ≥ 0))))] aj de fun fQ bi=>?_
  refine qaf (qab ?_)
  refine qay bi (b:=decide (ae ≥ 0)) kz (fun bj=>?_) (fun bj=>?_)
  ·
   have eP:=of_decide_eq_true bj
   refine wp_seq (qar [(1,.v (.int .i64 v)),(2,.v (.bool flex)),(4,.p 0 0),(7,.p 1 0),(57,.v (.bool (z5 ac af ag ae ah ai ab aa v n1 s2 b3 l4 u5)))] aj bi fun fR bk=>?_)
   refine qay bk (b:=Fld.nul (Fld.mk ac af ag ae ah ai ab aa) v (Tree.mk n1 s2 b3 l4 u5)) kz (fun df=>?_) (fun df=>?_)
   ·
    refine qae [0,1] kz ?_
    refine qam (qal bk (f:=46) (vs:=[.int .i64 (-1),.int .i64 1]) (d:=58) kz Tryz.call46 (qcV (-1) 1 (by first | decide | exact qbb _ | omega) _) ?_)
    rintro e_ fS ⟨bS,bT,rfl,dg,dh⟩
    refine ⟨_,rfl,fun fT di=>?_⟩
    obtain ⟨bn,eQ⟩:=aj.frFresh dh (brow bS bT 5 (be 1 (-1))) (Nat.le_refl _) dg
    refine qak [1] [] [(8,.v (.slice bS ((be 1 (-1)).length) bT))] bn di fun fU dj=>?_
    refine qaf (qab ?_)
    refine wp_ret (qaD (qaD (qaE dj bn.cells (v:=.slice bS ((be 1 (-1)).length) bT) kz ?_)))
    exact qa8 bn (k:=0) rfl (by first | rw [qec ‹_› ‹_›] | rw [qeb ‹_› ‹_› ‹_›] | rw [qdp ‹_› ‹_› ‹_› ‹_›] | rw [qea ‹_› ‹_› ‹_› ‹_›])
   refine wp_skip (qab (qbm 8 kz aj fun fV eR dl dp=>?_))
   refine qa0 [1,2,3,4,5] [(61,.v (.slice ay aa.length az)),(62,.v (.int .i64 v)),(63,.v (.bool flex)),(64,.v (.agg #[.int .i64 n1,.slice A6 s2.length c7,.bool b3,.slice A8 l4.length c9,.slice aK u5.length aL]))] 4 (qac (qac qah)) (fun _ h=>h.cells) dp bk fun fW dq=>?_
   refine qaO (i:=0) kz (qal dq (f:=46) (vs:=[.int .i64 1,.int .i64 1]) (d:=59) kz Tryz.call46 (qcV 1 1 (by first | decide | exact qbb _ | omega) _) ?_)
   rintro e_ fX ⟨bz,bA,rfl,dr,dt⟩
   refine ⟨_,rfl,fun fY du=>?_⟩
   obtain ⟨au,bo⟩:=dl.frFresh dt (brow bz bA 5 (be 1 1)) (Nat.le_refl _) dr
   have dv:=TT.ofW bo au
   refine ⟨fun _=>dv,?_⟩
   refine qaO (i:=6) kz (qal du (f:=42) (vs:=[.slice ay aa.length az,.int .i64 v,.bool flex,.agg #[.int .i64 n1,.slice A6 s2.length c7,.bool b3,.slice A8 l4.length c9,.slice aK u5.length aL]]) (d:=65) kz Tryz.call42 (hp _ _ aa v flex _ (Tree.mk n1 s2 b3 l4 u5) _ _ ⟨bw,(b8.move au.step nilM au.imm),(fun i_ x_ h_=>((dU i_ x_ h_).move au.step nilM au.imm))⟩ hd (ht.move au.step nilM au.imm) (by have h9_:=hroom; rw [qdp ‹_› ‹_› ‹_› ‹_›,List.length_append] at h9_; omega)) ?_)
   rintro e_ fZ ⟨bp,bq,rfl,dw,dx⟩
   refine ⟨_,rfl,fun f5 dy=>?_⟩
   obtain ⟨aI,bK⟩:=au.frFresh dx (brow bp bq 5 (qaV d aa v flex (Tree.mk n1 s2 b3 l4 u5))) (Nat.le_refl _) dw
   have dz:=TT.ofW (bo.trans bK) aI
   refine ⟨fun _=>dz,?_⟩
   refine qaO (i:=7) kz (qaJ aI dy (k:=0) (d:=66) (t:=24) (e:=5) (size:=1) (bytes:=1) (A:=bz) (As:=bp) (m0:=((be 1 1).length)) (c:=bA) (m:=((qaV d aa v flex (Tree.mk n1 s2 b3 l4 u5)).length)) (cs:=bq) (xs:=(bc (be 1 1))) (news:=bc (qaV d aa v flex (Tree.mk n1 s2 b3 l4 u5))) kz kz rfl (qbZ (aI.own 1 _ rfl) (qcq _)) (qcc (aI.own 1 _ rfl)) (by have h9_:=hroom; rw [qdp ‹_› ‹_› ‹_› ‹_›,List.length_append] at h9_; omega) fun aC aD f7 f8 dA dB dC=>?_)
   have dD:(⟨aC,aD,5,1,(be 1 1).length + (qaV d aa v flex (Tree.mk n1 s2 b3 l4 u5)).length,bc (be 1 1) ++ bc (qaV d aa v flex (Tree.mk n1 s2 b3 l4 u5))⟩:Rw) = brow aC aD 5 (be 1 1 ++ (qaV d aa v flex (Tree.mk n1 s2 b3 l4 u5))):=qa2 (rfl) rfl
   obtain ⟨aJ,dE⟩:=dB.rowEq 0 [brow aC aD 5 (be 1 1 ++ (qaV d aa v flex (Tree.mk n1 s2 b3 l4 u5))),brow bp bq 5 (qaV d aa v flex (Tree.mk n1 s2 b3 l4 u5))] dD
   have dF:=EnvOk.pick dC (ks:=[61,62,63,64,59,65,66]) (env':=[(61,.v (.slice ay aa.length az)),(62,.v (.int .i64 v)),(63,.v (.bool flex)),(64,.v (.agg #[.int .i64 n1,.slice A6 s2.length c7,.bool b3,.slice A8 l4.length c9,.slice aK u5.length aL])),(59,.v (.slice bz ((be 1 1).length) bA)),(65,.v (.slice bp ((qaV d aa v flex (Tree.mk n1 s2 b3 l4 u5)).length) bq)),(66,.v (.slice aC ((be 1 1).length + (qaV d aa v flex (Tree.mk n1 s2 b3 l4 u5)).length) aD))]) kz
   have dG:=dF.cast (env':=[(61,.v (.slice ay aa.length az)),(62,.v (.int .i64 v)),(63,.v (.bool flex)),(64,.v (.agg #[.int .i64 n1,.slice A6 s2.length c7,.bool b3,.slice A8 l4.length c9,.slice aK u5.length aL])),(59,.v (.slice bz ((be 1 1).length) bA)),(65,.v (.slice bp ((qaV d aa v flex (Tree.mk n1 s2 b3 l4 u5)).length) bq)),(66,.v (.slice aC ((be 1 1 ++ (qaV d aa v flex (Tree.mk n1 s2 b3 l4 u5))).length) aD))]) (by simp only [List.length_append,List.length_cons,List.length_nil,Nat.zero_add])
   have dH:=TT.ofW (((bo.trans bK).trans dA).trans dE) aJ
   refine ⟨fun _=>dH,?_⟩
   refine qaO (i:=8) kz (qcf [8] aJ.cells dG (env':=[(8,.v (.slice aC ((be 1 1 ++ (qaV d aa v flex (Tree.mk n1 s2 b3 l4 u5))).length) aD))]) kz fun f9 dI=>?_)
   refine ⟨fun h=>absurd rfl h,?_⟩
   refine qaZ kz ?_ _
   refine qab (wp_ret (qaD (qaE dI aJ.cells (v:=.slice aC ((be 1 1 ++ (qaV d aa v flex (Tree.mk n1 s2 b3 l4 u5))).length) aD) kz ?_)))
   exact qa8 aJ (k:=0) rfl (by first | rw [qec ‹_› ‹_›] | rw [qeb ‹_› ‹_› ‹_›] | rw [qdp ‹_› ‹_› ‹_› ‹_›] | rw [qea ‹_› ‹_› ‹_› ‹_›])
  have eS:=of_decide_eq_false bj
  refine wp_skip (qab (qae [0,1,2,3,4,5,6,7,8,9] kz ?_))
  refine qak [0,1,2,3,4,5,6,7] [8,9] [(68,.v (.int .i64 ac)),(70,.v (.slice ay aa.length az)),(71,.v (.bool (z5 ac af ag ae ah ai ab aa v n1 s2 b3 l4 u5))),(72,.v (.int .i64 v)),(73,.v (.bool flex)),(74,.v (.agg #[.int .i64 n1,.slice A6 s2.length c7,.bool b3,.slice A8 l4.length c9,.slice aK u5.length aL]))] aj bi fun ga dJ=>?_
  refine qam (qal dJ (f:=111) (vs:=[.int .i64 ac,.slice ay aa.length az,.bool (Fld.nul (Fld.mk ac af ag ae ah ai ab aa) v (Tree.mk n1 s2 b3 l4 u5)),.int .i64 v,.bool flex,.agg #[.int .i64 n1,.slice A6 s2.length c7,.bool b3,.slice A8 l4.length c9,.slice aK u5.length aL]]) (d:=75) kz Tryz.call111 (qj0 hp ac _ _ aa (Fld.nul (Fld.mk ac af ag ae ah ai ab aa) v (Tree.mk n1 s2 b3 l4 u5)) v flex _ (Tree.mk n1 s2 b3 l4 u5) _ _ ⟨bw,(b8.move aj.step nilM aj.imm),(fun i_ x_ h_=>((dU i_ x_ h_).move aj.step nilM aj.imm))⟩ hd (ht.move aj.step nilM aj.imm) (by have h_:=hroom; (first | rw [qec ‹_› ‹_›] at h_ | rw [qeb ‹_› ‹_› ‹_›] at h_); exact h_)) ?_)
  rintro e_ gb ⟨bU,bV,rfl,dK,dL⟩
  refine ⟨_,rfl,fun gc dM=>?_⟩
  obtain ⟨bt,eT⟩:=aj.frFresh dL (brow bU bV 5 (qaL (qaV d aa v flex) ac (z5 ac af ag ae ah ai ab aa v n1 s2 b3 l4 u5) flex (Tree.mk n1 s2 b3 l4 u5))) (Nat.le_refl _) dK
  refine qak [9] [] [(8,.v (.slice bU ((qaL (qaV d aa v flex) ac (z5 ac af ag ae ah ai ab aa v n1 s2 b3 l4 u5) flex (Tree.mk n1 s2 b3 l4 u5)).length) bV))] bt dM fun gd dN=>?_
  refine qaf (qab ?_)
  refine wp_ret (qaE dN bt.cells (v:=.slice bU ((qaL (qaV d aa v flex) ac (z5 ac af ag ae ah ai ab aa v n1 s2 b3 l4 u5) flex (Tree.mk n1 s2 b3 l4 u5)).length) bV) kz ?_)
  exact qa8 bt (k:=0) rfl (by first | rw [qec ‹_› ‹_›] | rw [qeb ‹_› ‹_› ‹_›] | rw [qdp ‹_› ‹_› ‹_› ‹_›] | rw [qea ‹_› ‹_› ‹_› ‹_›])
 have eU:ac ≠ 10:=by simpa using aA
 have dO:=bJ.cast (env':=[(1,.v (.int .i64 v)),(2,.v (.bool flex)),(4,.p 0 0),(7,.p 1 0),(9,.v (.bool (Fld.nul (Fld.mk ac af ag ae ah ai ab aa) v (Tree.mk n1 s2 b3 l4 u5)))),(52,.v (.bool false))]) (by rw [aA])
 refine qak [4,5,6,7] [] [(1,.v (.int .i64 v)),(2,.v (.bool flex)),(4,.p 0 0),(7,.p 1 0),(9,.v (.bool (z5 ac af ag ae ah ai ab aa v n1 s2 b3 l4 u5))),(56,.v (.bool false))] aj dO fun ge bL=>?_
 refine qaf (qab ?_)
 refine qau bL (b:=false) kz rfl ?_
 refine wp_skip (qab (qae [0,1,2,3,4,5,6,7,8,9] kz ?_))
 refine qak [0,1,2,3,4,5,6,7] [8,9] [(68,.v (.int .i64 ac)),(70,.v (.slice ay aa.length az)),(71,.v (.bool (z5 ac af ag ae ah ai ab aa v n1 s2 b3 l4 u5))),(72,.v (.int .i64 v)),(73,.v (.bool flex)),(74,.v (.agg #[.int .i64 n1,.slice A6 s2.length c7,.bool b3,.slice A8 l4.length c9,.slice aK u5.length aL]))] aj bL fun gg dP=>?_
 refine qam (qal dP (f:=111) (vs:=[.int .i64 ac,.slice ay aa.length az,.bool (Fld.nul (Fld.mk ac af ag ae ah ai ab aa) v (Tree.mk n1 s2 b3 l4 u5)),.int .i64 v,.bool flex,.agg #[.int .i64 n1,.slice A6 s2.length c7,.bool b3,.slice A8 l4.length c9,.slice aK u5.length aL]]) (d:=75) kz Tryz.call111 (qj0 hp ac _ _ aa (Fld.nul (Fld.mk ac af ag ae ah ai ab aa) v (Tree.mk n1 s2 b3 l4 u5)) v flex _ (Tree.mk n1 s2 b3 l4 u5) _ _ ⟨bw,(b8.move aj.step nilM aj.imm),(fun i_ x_ h_=>((dU i_ x_ h_).move aj.step nilM aj.imm))⟩ hd (ht.move aj.step nilM aj.imm) (by have h_:=hroom; (first | rw [qec ‹_› ‹_›] at h_ | rw [qeb ‹_› ‹_› ‹_›] at h_); exact h_)) ?_)
 rintro e_ gh ⟨bW,bX,rfl,dQ,dR⟩
 refine ⟨_,rfl,fun gi dS=>?_⟩
 obtain ⟨bu,eV⟩:=aj.frFresh dR (brow bW bX 5 (qaL (qaV d aa v flex) ac (z5 ac af ag ae ah ai ab aa v n1 s2 b3 l4 u5) flex (Tree.mk n1 s2 b3 l4 u5))) (Nat.le_refl _) dQ
 refine qak [9] [] [(8,.v (.slice bW ((qaL (qaV d aa v flex) ac (z5 ac af ag ae ah ai ab aa v n1 s2 b3 l4 u5) flex (Tree.mk n1 s2 b3 l4 u5)).length) bX))] bu dS fun gj dT=>?_
 refine qaf (qab ?_)
 refine wp_ret (qaE dT bu.cells (v:=.slice bW ((qaL (qaV d aa v flex) ac (z5 ac af ag ae ah ai ab aa v n1 s2 b3 l4 u5) flex (Tree.mk n1 s2 b3 l4 u5)).length) bX) kz ?_)
 exact qa8 bu (k:=0) rfl (by first | rw [qec ‹_› ‹_›] | rw [qeb ‹_› ‹_› ‹_›] | rw [qdp ‹_› ‹_› ‹_› ‹_›] | rw [qea ‹_› ‹_› ‹_› ‹_›])
theorem qii (Af:Option Addr) (cf:Nat) (l:List Fld) (A:Option Addr) (c:Nat) (u:List (Int × Bs)) (w:World) (F:Nat → Nat → Prop) (hl:FldsR w F Af cf l) (hu:TagsR w F A c u) :
  Calls Tryz.prog 86 #[.slice Af l.length cf,.slice A u.length c] w (qk4 w F (qan l u)):=by
 obtain ⟨xf,hf1,hf2⟩:=hl.ex
 obtain ⟨xu,hu1,hu2⟩:=hu.ex
 have hsmu:=hu1.small
 have hule:(u.take 32767).length ≤ 32767:=by rw [List.length_take]; omega
 refine enter (n:=85) Tryz.func86 rfl Tryz.ntmps86 kz fun a hE=>?_
 have hW:=WOk.start w Nil
 refine qar [(0,.v (.slice Af l.length cf)),(1,.v (.slice A u.length c))] hW hE fun a1 hE2=>?_
 refine qae [0,1,2] kz ?_
 refine qak [0] [1,2] [(1,.v (.slice A u.length c)),(11,.v (.slice Af l.length cf))] hW hE2 fun a3 hE4=>?_
 refine qam (qal hE4 (f:=83) (vs:=[.slice Af l.length cf]) (d:=12) kz Tryz.call83 (qlc _ _ l _ _ ⟨xf,(hf1.move hW.step nilM hW.imm),(fun i_ x_ h_=>((hf2 i_ x_ h_).move hW.step nilM hW.imm))⟩) ?_)
 rintro e_ w6 ⟨rfl,hs5⟩
 refine ⟨_,rfl,fun a7 hE8=>?_⟩
 have hW9:=hW.next_nil hs5
 have fz:=hW.frN hs5
 refine qak [2] [] [(1,.v (.slice A u.length c)),(5,.v (.int .u32 (qat l)))] hW9 hE8 fun hK eE=>?_
 refine qaf (qab ?_)
 refine qar [(1,.v (.slice A u.length c)),(5,.v (.int .u32 (qat l))),(6,.v (.slice none 0 0))] hW9 eE fun hZ eF=>?_
 refine wp_seq (qae [0,1,2,3,4,5,6] kz ?_)
 refine qak [0,1,2,3] [4,5,6] [(5,.v (.int .u32 (qat l))),(6,.v (.slice none 0 0)),(13,.v (.slice A u.length c)),(16,.v (.int .i64 (if 32767 < ((u.length:Nat):Int) then 32767 else ((u.length:Nat):Int))))] hW9 eF fun ia eG=>?_
 refine qam (qbH eG (t:=26) (A:=A) (m:=u.length) (cp:=c) (q:=(if 32767 < ((u.length:Nat):Int) then 32767 else ((u.length:Nat):Int))) (d:=17) (j:=(u.take 32767).length) kz (e:=73) (size:=2) (bytes:=32) kz (by simpa using qhm u.length) (by rw [List.length_take]; have:=hu1.le; omega) fun ib eH=>?_)
 refine qak [5,6] [] [(5,.v (.int .u32 (qat l))),(6,.v (.slice none 0 0)),(17,.v (.slice A ((u.take 32767).length) c)),(18,.v (.int .i64 (((u.take 32767).length:Nat):Int))),(19,.v (.int .i64 0))] hW9 eH fun ic eI=>?_
 refine qaf (qab ?_)
 refine wp_block ?_
 have cI:=hW9.addNil 73 2
 have fA:=hW9.frNil 73 2
 refine wp_loop_ghost (fun n_ a_ w_=>∃ (k:Nat) (A_:Option Addr) (c_:Nat) (out:List (Int × Bs)) (css:List (List Value)),n_ = (u.take 32767).length - k ∧ k ≤ (u.take 32767).length ∧ (TagsE w_ (Imm F w w_ [] [⟨A_,c_,73,2,out.length,css.flatten⟩]) out css) ∧ (out = ((u.take 32767).take k).foldl (qb5 (qat l)) []) ∧ (out.length ≤ k) ∧ LInv cI 85 [] [⟨A_,c_,73,2,out.length,css.flatten⟩] [(5,.v (.int .u32 (qat l))),(6,.v (.slice A_ out.length c_)),(17,.v (.slice A ((u.take 32767).length) c)),(18,.v (.int .i64 (((u.take 32767).length:Nat):Int))),(19,.v (.int .i64 ((k:Nat):Int)))] a_ w_) ((u.take 32767).length) ⟨0,none,0,[],[],by omega,by omega,TagsE.nil _ _,rfl,Nat.zero_le _,eI.pk,cI,Fr.refl _ _ _⟩ ?_
 rintro ig ii ij ⟨k,A_,c_,out,css,fB,fC,hT,hout,hlen,eJ,aO,aR⟩
 refine qar [(5,.v (.int .u32 (qat l))),(6,.v (.slice A_ out.length c_)),(17,.v (.slice A ((u.take 32767).length) c)),(18,.v (.int .i64 (((u.take 32767).length:Nat):Int))),(19,.v (.int .i64 ((k:Nat):Int))),(20,.v (.bool (decide (((k:Nat):Int) < (((u.take 32767).length:Nat):Int)))))] aO eJ fun ik cA=>?_
 refine wp_seq (qay cA (b:=decide (((k:Nat):Int) < (((u.take 32767).length:Nat):Int))) kz (fun cB=>?_) (fun cB=>?_))
 ·
  have fD:=of_decide_eq_true cB
  refine wp_skip (qab (wp_seq (wp_block (qae [0,1,2,3] kz ?_))))
  obtain ⟨fE,fF,eK,fG,bF⟩:=Slots.get (qfD hu1 32767) (i:=k) (by omega)
  obtain ⟨⟨al,ax⟩,aP⟩:∃ x,(u.take 32767)[k]? = some x:=⟨_,List.getElem?_eq_getElem (by omega)⟩
  obtain ⟨⟨aI,aJ,cJ,cK⟩,e9,fa⟩:=(qfR hu2 32767) k al ax aP
  rw [cJ] at bF
  refine qam (qax cA (t:=26) (A:=A) (m:=((u.take 32767).length)) (q:=((k:Nat):Int)) (d:=21) kz (e:=73) (size:=2) (bytes:=32) kz eK rfl (by omega) fun il eL=>?_)
  refine qam (qaH eL (t:=73) (b:=fE) (o:=fF + k * 2) (d:=22) kz (cs:=[.int .u32 al,.slice aI ax.length aJ]) (v:=.agg #[.int .u32 al,.slice aI ax.length aJ]) kz (AtF.move bF aO.step nilM qbg).at_ fun im eM=>?_)
  refine qam (qbc aO eM (d:=8) (cs:=[.int .u32 0,.slice none 0 0]) kz fun eN io ip fH fI ac eO eP=>?_)
  refine qam (qaM eO eP (oi:=0) (cs:=[.int .u32 al,.slice aI ax.length aJ]) kz fun iq ae cC eQ=>?_)
  refine qaf (qab ?_)
  refine qar [(5,.v (.int .u32 (qat l))),(6,.v (.slice A_ out.length c_)),(8,.p 0 0),(9,.v (.int .i64 0)),(17,.v (.slice A ((u.take 32767).length) c)),(18,.v (.int .i64 (((u.take 32767).length:Nat):Int))),(19,.v (.int .i64 ((k:Nat):Int)))] cC eQ fun ir eR=>?_
  refine wp_seq (wp_block (wp_loop_ghost (fun n_ a_ w_=>∃ (i:Nat),n_ = out.length - i ∧ (i ≤ out.length) ∧ (∀ q,q < i → (out.getD q (0,[])).1 < al) ∧ LInv cC 85 [⟨eN,0,[.int .u32 al,.slice aI ax.length aJ],true⟩] [⟨A_,c_,73,2,out.length,css.flatten⟩] [(5,.v (.int .u32 (qat l))),(6,.v (.slice A_ out.length c_)),(8,.p 0 0),(9,.v (.int .i64 ((i:Nat):Int))),(17,.v (.slice A ((u.take 32767).length) c)),(18,.v (.int .i64 (((u.take 32767).length:Nat):Int))),(19,.v (.int .i64 ((k:Nat):Int)))] a_ w_) (out.length - 0) ⟨0,rfl,Nat.zero_le _,fun q h_=>absurd h_ (Nat.not_lt_zero q),eR.pk,cC,Fr.refl _ _ _⟩ ?_))
  rintro iu iv iw ⟨i,fJ,hi,hlt,eS,eT,aa⟩
  refine wp_seq (qch kz eT fun ix ab aB=>?_)
  refine qa0 [0,1,2,3,4] [(5,.v (.int .u32 (qat l))),(6,.v (.slice A_ out.length c_)),(8,.p 0 0),(9,.v (.int .i64 ((i:Nat):Int))),(17,.v (.slice A ((u.take 32767).length) c)),(18,.v (.int .i64 (((u.take 32767).length:Nat):Int))),(19,.v (.int .i64 ((k:Nat):Int))),(27,.v (.bool (decide (((i:Nat):Int) < ((out.length:Nat):Int)))))] 9 (qac (qac (qac (qai (qac (qai (qac (qac (qai (qac qah)))))))))) (fun _ h=>h ▸ aB.cells) rfl eS fun iy cL=>?_
  refine (Bool.eq_false_or_eq_true (decide (((i:Nat):Int) < ((out.length:Nat):Int)))).elim (fun aN=>?_) (fun aN=>?_)
  ·
   have fK:=of_decide_eq_true aN
   have eU:=cL
   rw [aN] at eU
   refine qa0 [5,6,10,11] [(5,.v (.int .u32 (qat l))),(6,.v (.slice A_ out.length c_)),(8,.p 0 0),(9,.v (.int .i64 ((i:Nat):Int))),(17,.v (.slice A ((u.take 32767).length) c)),(18,.v (.int .i64 (((u.take 32767).length:Nat):Int))),(19,.v (.int .i64 ((k:Nat):Int))),(27,.v (.bool true)),(28,.v (.slice A_ out.length c_)),(29,.v (.int .i64 ((i:Nat):Int))),(34,.v (.int .u32 al))] 5 (qac (qac (qac (qai (qac (qai (qac (qac (qai (qac qah)))))))))) (fun _ h=>h ▸ aB.cells) rfl eU fun iz eV=>?_
   obtain ⟨eW,cM⟩:=qcL (aB.own 0 _ rfl) (show 0 < out.length by omega)
   obtain ⟨⟨eD,iA⟩,bu⟩:∃ x,out[i]? = some x:=⟨_,List.getElem?_eq_getElem (by omega)⟩
   obtain ⟨iB,iC,eX,fL,iD,iE⟩:=TagsE.get2 (hT.move (((ac.trans ae).trans aa).trans ab).step immM (((ac.trans ae).trans aa).trans ab).to') bu
   have cN:=qgO (aB.own 0 _ rfl) cM (qeh (hT.move (((ac.trans ae).trans aa).trans ab).step immM (((ac.trans ae).trans aa).trans ab).to').two eX)
   refine qbe eV (i:=7) (t:=26) (A:=A_) (m:=out.length) (q:=((i:Nat):Int)) (d:=30) kz (e:=73) (size:=2) (bytes:=32) kz (b:=eW) (o:=0) (j:=i) cM (rfl) (by omega) kz kz (qac (qac (qac (qai (qac (qai (qac (qac (qai (qac qah)))))))))) rfl fun iF eY=>?_
   refine qa0 [8] [(5,.v (.int .u32 (qat l))),(6,.v (.slice A_ out.length c_)),(8,.p 0 0),(9,.v (.int .i64 ((i:Nat):Int))),(17,.v (.slice A ((u.take 32767).length) c)),(18,.v (.int .i64 (((u.take 32767).length:Nat):Int))),(19,.v (.int .i64 ((k:Nat):Int))),(27,.v (.bool true)),(31,.v (.pointer (some ⟨eW,0 + i * 2,none⟩))),(34,.v (.int .u32 al))] 3 (qac (qac (qac (qai (qac (qai (qac (qac (qai (qac qah)))))))))) (fun _ h=>h ▸ aB.cells) rfl eY fun iG eZ=>?_
   refine qbd eZ (i:=9) (t:=71) (b:=eW) (o:=0 + i * 2) (d:=32) kz (cs:=[.int .u32 eD]) (v:=.int .u32 eD) kz (fun w' h'=>h' ▸ (At.drop cN 0 1)) kz kz (qac (qac (qac (qai (qac (qai (qac (qac (qai (qac qah)))))))))) rfl fun fM cO=>?_
   refine qa0 [12,13] [(5,.v (.int .u32 (qat l))),(6,.v (.slice A_ out.length c_)),(8,.p 0 0),(9,.v (.int .i64 ((i:Nat):Int))),(17,.v (.slice A ((u.take 32767).length) c)),(18,.v (.int .i64 (((u.take 32767).length:Nat):Int))),(19,.v (.int .i64 ((k:Nat):Int))),(36,.v (.bool (decide (eD < al))))] 0 (qac (qac (qac (qai (qac (qai (qac (qac (qai (qac qah)))))))))) (fun _ h=>h ▸ aB.cells) rfl cO fun fN aS=>?_
   refine qaZ kz ?_ _
   refine qab (qay aS (b:=decide (eD < al)) kz (fun aT=>?_) (fun aT=>?_))
   ·
    have fb:=of_decide_eq_true aT
    refine wp_skip (qab (wp_block (qas [0,1,2] kz ?_)))
    refine qak [0,1,2] [] [(5,.v (.int .u32 (qat l))),(6,.v (.slice A_ out.length c_)),(8,.p 0 0),(9,.v (.int .i64 (IntKind.i64.wrap (((i:Nat):Int) + 1)))),(17,.v (.slice A ((u.take 32767).length) c)),(18,.v (.int .i64 (((u.take 32767).length:Nat):Int))),(19,.v (.int .i64 ((k:Nat):Int)))] aB aS fun fO bG=>?_
    refine qaf (qaF (qab ?_))
    have cP:IntKind.i64.wrap (((i:Nat):Int) + 1) = ((i + 1:Nat):Int):=qbh (by omega)
    rw [cP] at bG
    exact ⟨out.length - (i + 1),by omega,(i + 1),rfl,by omega,fun q hq=>by rcases Nat.lt_succ_iff_lt_or_eq.1 hq with h_ | h_; exact hlt q h_; rw [h_,qjy bu]; assumption,bG.pk,aB,(aa.trans ab)⟩
   have fe:=of_decide_eq_false aT
   refine wp_exit (qaz (qaz (qaR (qab (wp_seq (qch kz aB fun fP af ap=>?_))))))
   refine qa0 [0,1,2,3,4] [(5,.v (.int .u32 (qat l))),(6,.v (.slice A_ out.length c_)),(8,.p 0 0),(9,.v (.int .i64 ((i:Nat):Int))),(17,.v (.slice A ((u.take 32767).length) c)),(18,.v (.int .i64 (((u.take 32767).length:Nat):Int))),(19,.v (.int .i64 ((k:Nat):Int))),(43,.v (.bool (decide (al < (qat l)))))] 15 (qac (qac (qai (qac (qac (qai (qac qah))))))) (fun _ h=>h ▸ ap.cells) rfl aS fun fQ bH=>?_
   refine (Bool.eq_false_or_eq_true (decide (al < (qat l)))).elim (fun aK=>?_) (fun aK=>?_)
   ·
    have ff:=of_decide_eq_true aK
    have cQ:=bH
    rw [aK] at cQ
    refine qa0 [5,6,7,8,9,10,11,12,13,14,15,16,17,18,19] [(5,.v (.int .u32 (qat l))),(6,.v (.slice A_ out.length c_)),(8,.p 0 0),(9,.v (.int .i64 ((i:Nat):Int))),(17,.v (.slice A ((u.take 32767).length) c)),(18,.v (.int .i64 (((u.take 32767).length:Nat):Int))),(19,.v (.int .i64 ((k:Nat):Int))),(58,.v (.bool true))] 0 (qac (qac (qai (qac (qac (qai (qac qah))))))) (fun _ h=>h ▸ ap.cells) rfl cQ fun fR bI=>?_
    refine qaZ kz ?_ _
    refine qab (qbw bI (b:=true) kz rfl ?_)
    refine wp_exit (qaz (qaR (qab (qas [0,1] kz ?_))))
    refine qak [0,1] [] [(5,.v (.int .u32 (qat l))),(6,.v (.slice A_ out.length c_)),(17,.v (.slice A ((u.take 32767).length) c)),(18,.v (.int .i64 (((u.take 32767).length:Nat):Int))),(19,.v (.int .i64 (IntKind.i64.wrap (((k:Nat):Int) + 1))))] ap bI fun fS cR=>?_
    refine qaf (qab ?_)
    obtain ⟨bJ,cS,aU⟩:=ap.cutB cR 0 [] [(5,.v (.int .u32 (qat l))),(6,.v (.slice A_ out.length c_)),(17,.v (.slice A ((u.take 32767).length) c)),(18,.v (.int .i64 (((u.take 32767).length:Nat):Int))),(19,.v (.int .i64 (IntKind.i64.wrap (((k:Nat):Int) + 1))))]
    have cT:IntKind.i64.wrap (((k:Nat):Int) + 1) = ((k + 1:Nat):Int):=qbh (by omega)
    rw [cT] at bJ
    exact ⟨(u.take 32767).length - (k + 1),by omega,k + 1,A_,c_,out,css,rfl,by omega,(hT.move (((((ac.trans ae).trans aa).trans ab).trans af).trans aU).step immM (((((ac.trans ae).trans aa).trans ab).trans af).trans aU).to'),by rw [qci aP,← hout]; exact (qjz ‹_›).symm,by omega,bJ.pk,cS,((((((aR.trans ac).trans ae).trans aa).trans ab).trans af).trans aU)⟩
   have fg:=of_decide_eq_false aK
   have cU:=bH
   rw [aK] at cU
   refine qa0 [5,6,7,8,9] [(5,.v (.int .u32 (qat l))),(6,.v (.slice A_ out.length c_)),(8,.p 0 0),(9,.v (.int .i64 ((i:Nat):Int))),(17,.v (.slice A ((u.take 32767).length) c)),(18,.v (.int .i64 (((u.take 32767).length:Nat):Int))),(19,.v (.int .i64 ((k:Nat):Int))),(43,.v (.bool false)),(48,.v (.bool (decide (((i:Nat):Int) < ((out.length:Nat):Int)))))] 10 (qac (qac (qai (qac (qac (qai (qac qah))))))) (fun _ h=>h ▸ ap.cells) rfl cU fun fT cV=>?_
   have cW:(decide (((i:Nat):Int) < ((out.length:Nat):Int))) = true:=aN
   have cX:=cV
   rw [cW] at cX
   refine qa0 [10,11,15,16] [(5,.v (.int .u32 (qat l))),(6,.v (.slice A_ out.length c_)),(8,.p 0 0),(9,.v (.int .i64 ((i:Nat):Int))),(17,.v (.slice A ((u.take 32767).length) c)),(18,.v (.int .i64 (((u.take 32767).length:Nat):Int))),(19,.v (.int .i64 ((k:Nat):Int))),(43,.v (.bool false)),(48,.v (.bool true)),(49,.v (.slice A_ out.length c_)),(50,.v (.int .i64 ((i:Nat):Int))),(55,.v (.int .u32 al))] 6 (qac (qac (qai (qac (qac (qai (qac qah))))))) (fun _ h=>h ▸ ap.cells) rfl cX fun fU cY=>?_
   obtain ⟨cD,bK⟩:=qcL (ap.own 0 _ rfl) (show 0 < out.length by omega)
   obtain ⟨⟨aQ,fV⟩,aL⟩:∃ x,out[i]? = some x:=⟨_,List.getElem?_eq_getElem (by omega)⟩
   obtain ⟨fW,fX,cZ,fh,fY,fZ⟩:=TagsE.get2 (hT.move ((((ac.trans ae).trans aa).trans ab).trans af).step immM ((((ac.trans ae).trans aa).trans ab).trans af).to') aL
   have cE:=qgO (ap.own 0 _ rfl) bK (qeh (hT.move ((((ac.trans ae).trans aa).trans ab).trans af).step immM ((((ac.trans ae).trans aa).trans ab).trans af).to').two cZ)
   refine qbe cY (i:=12) (t:=26) (A:=A_) (m:=out.length) (q:=((i:Nat):Int)) (d:=51) kz (e:=73) (size:=2) (bytes:=32) kz (b:=cD) (o:=0) (j:=i) bK (rfl) (by omega) kz kz (qac (qac (qai (qac (qac (qai (qac qah))))))) rfl fun f5 c5=>?_
   refine qa0 [13] [(5,.v (.int .u32 (qat l))),(6,.v (.slice A_ out.length c_)),(8,.p 0 0),(9,.v (.int .i64 ((i:Nat):Int))),(17,.v (.slice A ((u.take 32767).length) c)),(18,.v (.int .i64 (((u.take 32767).length:Nat):Int))),(19,.v (.int .i64 ((k:Nat):Int))),(43,.v (.bool false)),(48,.v (.bool true)),(52,.v (.pointer (some ⟨cD,0 + i * 2,none⟩))),(55,.v (.int .u32 al))] 4 (qac (qac (qai (qac (qac (qai (qac qah))))))) (fun _ h=>h ▸ ap.cells) rfl c5 fun f7 da=>?_
   refine qbd da (i:=14) (t:=71) (b:=cD) (o:=0 + i * 2) (d:=53) kz (cs:=[.int .u32 aQ]) (v:=.int .u32 aQ) kz (fun w' h'=>h' ▸ (At.drop cE 0 1)) kz kz (qac (qac (qai (qac (qac (qai (qac qah))))))) rfl fun f8 db=>?_
   refine qa0 [17,18,19] [(5,.v (.int .u32 (qat l))),(6,.v (.slice A_ out.length c_)),(8,.p 0 0),(9,.v (.int .i64 ((i:Nat):Int))),(17,.v (.slice A ((u.take 32767).length) c)),(18,.v (.int .i64 (((u.take 32767).length:Nat):Int))),(19,.v (.int .i64 ((k:Nat):Int))),(58,.v (.bool (aQ == al)))] 0 (qac (qac (qai (qac (qac (qai (qac qah))))))) (fun _ h=>h ▸ ap.cells) rfl db fun f9 aV=>?_
   refine qaZ kz ?_ _
   refine qab (qay aV (b:=aQ == al) kz (fun aW=>?_) (fun aW=>?_))
   ·
    have fi:aQ = al:=by simpa using aW
    refine wp_exit (qaz (qaR (qab (qas [0,1] kz ?_))))
    refine qak [0,1] [] [(5,.v (.int .u32 (qat l))),(6,.v (.slice A_ out.length c_)),(17,.v (.slice A ((u.take 32767).length) c)),(18,.v (.int .i64 (((u.take 32767).length:Nat):Int))),(19,.v (.int .i64 (IntKind.i64.wrap (((k:Nat):Int) + 1))))] ap aV fun ga dc=>?_
    refine qaf (qab ?_)
    obtain ⟨bL,de,aX⟩:=ap.cutB dc 0 [] [(5,.v (.int .u32 (qat l))),(6,.v (.slice A_ out.length c_)),(17,.v (.slice A ((u.take 32767).length) c)),(18,.v (.int .i64 (((u.take 32767).length:Nat):Int))),(19,.v (.int .i64 (IntKind.i64.wrap (((k:Nat):Int) + 1))))]
    have df:IntKind.i64.wrap (((k:Nat):Int) + 1) = ((k + 1:Nat):Int):=qbh (by omega)
    rw [df] at bL
    exact ⟨(u.take 32767).length - (k + 1),by omega,k + 1,A_,c_,out,css,rfl,by omega,(hT.move (((((ac.trans ae).trans aa).trans ab).trans af).trans aX).step immM (((((ac.trans ae).trans aa).trans ab).trans af).trans aX).to'),by rw [qci aP,← hout]; exact (qkG (qfC hi hlt (fun _=>by rw [qei aL]; omega)) (by omega) (by rw [qei aL]; omega)).symm,by omega,bL.pk,de,((((((aR.trans ac).trans ae).trans aa).trans ab).trans af).trans aX)⟩
   have fj:aQ ≠ al:=by simpa using aW
   refine wp_skip (qab (qae [0,1,2,3,4] kz ?_))
   refine qak [0,1] [2,3,4] [(5,.v (.int .u32 (qat l))),(8,.p 0 0),(9,.v (.int .i64 ((i:Nat):Int))),(17,.v (.slice A ((u.take 32767).length) c)),(18,.v (.int .i64 (((u.take 32767).length:Nat):Int))),(19,.v (.int .i64 ((k:Nat):Int))),(59,.v (.slice A_ out.length c_)),(60,.v (.agg #[.int .u32 0,.slice none 0 0]))] ap aV fun gb dg=>?_
   refine qbu ap dg (k:=0) (e:=73) (size:=2) (len:=1) (cs:=[.int .u32 0,.slice none 0 0]) (d1:=61) (d:=62) kz (t:=26) (bytes:=32) kz (fun _=>by kernel_rfl) rfl kz (by omega) fun ag ai gc gd am aY ⟨_,dh⟩=>?_
   refine qak [4] [] [(5,.v (.int .u32 (qat l))),(6,.v (.slice ag (out.length + 1) ai)),(8,.p 0 0),(9,.v (.int .i64 ((i:Nat):Int))),(17,.v (.slice A ((u.take 32767).length) c)),(18,.v (.int .i64 (((u.take 32767).length:Nat):Int))),(19,.v (.int .i64 ((k:Nat):Int)))] aY dh fun ge di=>?_
   refine qaf (qab ?_)
   refine wp_seq (qar [(5,.v (.int .u32 (qat l))),(6,.v (.slice ag (out.length + 1) ai)),(8,.p 0 0),(9,.v (.int .i64 ((i:Nat):Int))),(10,.v (.int .i64 (IntKind.i64.wrap (((out.length + 1:Nat):Int) - 1)))),(17,.v (.slice A ((u.take 32767).length) c)),(18,.v (.int .i64 (((u.take 32767).length:Nat):Int))),(19,.v (.int .i64 ((k:Nat):Int)))] aY di fun gg bM=>?_)
   refine wp_block ?_
   have hcl0:=(hT.move (((((ac.trans ae).trans aa).trans ab).trans af).trans am).step immM (((((ac.trans ae).trans aa).trans ab).trans af).trans am).to').len
   have dj:(⟨ag,ai,73,2,out.length + 1,css.flatten ++ [.int .u32 0,.slice none 0 0]⟩:Rw) = ⟨ag,ai,73,2,out.length + 1,(qb4 css [.int .u32 0,.slice none 0 0] out.length).flatten⟩:=by rw [qh3 hcl0]
   obtain ⟨bN,av⟩:=aY.rowEq 0 [⟨ag,ai,73,2,out.length + 1,(qb4 css [.int .u32 0,.slice none 0 0] out.length).flatten⟩] dj
   have dl:IntKind.i64.wrap (((out.length + 1:Nat):Int) - 1) = ((out.length:Nat):Int):=by rw [wrap_i64 (by omega) (by omega)]; omega
   rw [dl] at bM
   refine wp_loop_ghost (fun n_ a_ w_=>∃ (j:Nat),n_ = j ∧ (i ≤ j) ∧ (j ≤ out.length) ∧ LInv bN 85 [⟨eN,0,[.int .u32 al,.slice aI ax.length aJ],true⟩] [⟨ag,ai,73,2,out.length + 1,(qb4 css [.int .u32 0,.slice none 0 0] j).flatten⟩] [(5,.v (.int .u32 (qat l))),(6,.v (.slice ag (out.length + 1) ai)),(8,.p 0 0),(9,.v (.int .i64 ((i:Nat):Int))),(10,.v (.int .i64 ((j:Nat):Int))),(17,.v (.slice A ((u.take 32767).length) c)),(18,.v (.int .i64 (((u.take 32767).length:Nat):Int))),(19,.v (.int .i64 ((k:Nat):Int)))] a_ w_) (out.length) ⟨out.length,rfl,hi,Nat.le_refl _,bM.pk,bN,Fr.refl _ _ _⟩ ?_
   rintro gh gi gj ⟨j,fk,hij,hjl,dp,ay,ar⟩
   refine wp_seq (qar [(5,.v (.int .u32 (qat l))),(6,.v (.slice ag (out.length + 1) ai)),(8,.p 0 0),(9,.v (.int .i64 ((i:Nat):Int))),(10,.v (.int .i64 ((j:Nat):Int))),(17,.v (.slice A ((u.take 32767).length) c)),(18,.v (.int .i64 (((u.take 32767).length:Nat):Int))),(19,.v (.int .i64 ((k:Nat):Int))),(68,.v (.bool (decide (((j:Nat):Int) > ((i:Nat):Int)))))] ay dp fun gk aZ=>?_)
   refine qay aZ (b:=decide (((j:Nat):Int) > ((i:Nat):Int))) kz (fun ba=>?_) (fun ba=>?_)
   ·
    have fl:=of_decide_eq_true ba
    refine wp_skip (qab (wp_seq (wp_block (qas [0,1,2,3,4,5,6,7,8] kz ?_))))
    refine qak [0,1,2,3,4] [5,6,7,8] [(5,.v (.int .u32 (qat l))),(6,.v (.slice ag (out.length + 1) ai)),(8,.p 0 0),(9,.v (.int .i64 ((i:Nat):Int))),(10,.v (.int .i64 ((j:Nat):Int))),(17,.v (.slice A ((u.take 32767).length) c)),(18,.v (.int .i64 (((u.take 32767).length:Nat):Int))),(19,.v (.int .i64 ((k:Nat):Int))),(71,.v (.slice ag (out.length + 1) ai)),(72,.v (.int .i64 ((j:Nat):Int))),(73,.v (.slice ag (out.length + 1) ai)),(75,.v (.int .i64 (IntKind.i64.wrap (((j:Nat):Int) - 1))))] ay aZ fun gl dq=>?_
    obtain ⟨dr,bO⟩:=qcL (ay.own 0 _ rfl) (show 0 < out.length + 1 by omega)
    obtain ⟨⟨bw,bx⟩,dt⟩:∃ x,out[j - 1]? = some x:=⟨_,List.getElem?_eq_getElem (by omega)⟩
    obtain ⟨bz,bA,bP,fm,gm,gn⟩:=TagsE.get2 (hT.move (((((((ac.trans ae).trans aa).trans ab).trans af).trans am).trans av).trans ar).step immM (((((((ac.trans ae).trans aa).trans ab).trans af).trans am).trans av).trans ar).to') dt
    have cG:=qgO (ay.own 0 _ rfl) bO (qeh (qeV (hT.move (((((((ac.trans ae).trans aa).trans ab).trans af).trans am).trans av).trans ar).step immM (((((((ac.trans ae).trans aa).trans ab).trans af).trans am).trans av).trans ar).to').two rfl j) (qgU (show j - 1 < j by omega) bP))
    refine qam (qax dq (t:=26) (A:=ag) (m:=(out.length + 1)) (q:=(IntKind.i64.wrap (((j:Nat):Int) - 1))) (d:=76) kz (e:=73) (size:=2) (bytes:=32) kz (b:=dr) (o:=0) (j:=(j - 1)) bO (by rw [wrap_i64 (by omega) (by omega)]; omega) (by omega) fun gp du=>?_)
    refine qam (qaH du (t:=73) (b:=dr) (o:=0 + (j - 1) * 2) (d:=77) kz (cs:=[.int .u32 bw,.slice bz bx.length bA]) (v:=.agg #[.int .u32 bw,.slice bz bx.length bA]) kz cG fun gq dv=>?_)
    obtain ⟨dw,bQ⟩:=qcL (ay.own 0 _ rfl) (show 0 < out.length + 1 by omega)
    refine qam (qax dv (t:=26) (A:=ag) (m:=(out.length + 1)) (q:=((j:Nat):Int)) (d:=78) kz (e:=73) (size:=2) (bytes:=32) kz (b:=dw) (o:=0) (j:=j) bQ (rfl) (by omega) fun gt dx=>?_)
    refine qam (qdx ay dx (k:=0) (g:=dw) (o:=j * 2) (c:=ai) (m:=(out.length + 1)) (size:=2) (e:=73) (A:=ag) (xs:=((qb4 css [.int .u32 0,.slice none 0 0] j).flatten)) (vs:=[.int .u32 bw,.slice bz bx.length bA]) kz rfl bQ (by simp only [List.length_cons,List.length_nil]; omega) fun gv bd bR dy=>?_)
    refine qaf (qaF (qab (qas [0,1,2] kz ?_)))
    refine qak [0,1,2] [] [(5,.v (.int .u32 (qat l))),(6,.v (.slice ag (out.length + 1) ai)),(8,.p 0 0),(9,.v (.int .i64 ((i:Nat):Int))),(10,.v (.int .i64 (IntKind.i64.wrap (((j:Nat):Int) - 1)))),(17,.v (.slice A ((u.take 32767).length) c)),(18,.v (.int .i64 (((u.take 32767).length:Nat):Int))),(19,.v (.int .i64 ((k:Nat):Int)))] bR dy fun gw bS=>?_
    refine qaf (qab ?_)
    have dz:(⟨ag,ai,73,2,out.length + 1,qbr ((qb4 css [.int .u32 0,.slice none 0 0] j).flatten) (j * 2) [.int .u32 bw,.slice bz bx.length bA]⟩:Rw) = ⟨ag,ai,73,2,out.length + 1,(qb4 css [.int .u32 0,.slice none 0 0] (j - 1)).flatten⟩:=by rw [qgV (hT.move ((((((((ac.trans ae).trans aa).trans ab).trans af).trans am).trans av).trans ar).trans bd).step immM ((((((((ac.trans ae).trans aa).trans ab).trans af).trans am).trans av).trans ar).trans bd).to').two rfl (by omega) (by omega) bP]
    obtain ⟨dA,dB⟩:=bR.rowEq 0 [⟨ag,ai,73,2,out.length + 1,(qb4 css [.int .u32 0,.slice none 0 0] (j - 1)).flatten⟩] dz
    have dC:IntKind.i64.wrap (((j:Nat):Int) - 1) = ((j - 1:Nat):Int):=by rw [wrap_i64 (by omega) (by omega)]; omega
    rw [dC] at bS
    exact ⟨(j - 1),by omega,(j - 1),rfl,by omega,by omega,bS.pk,dA,((ar.trans bd).trans dB)⟩
   have fo:=of_decide_eq_false ba
   refine wp_exit (qaz (qaz (qaR (qab (qas [0,1,2,3,4] kz ?_)))))
   refine qak [0,1,2] [3,4] [(5,.v (.int .u32 (qat l))),(6,.v (.slice ag (out.length + 1) ai)),(17,.v (.slice A ((u.take 32767).length) c)),(18,.v (.int .i64 (((u.take 32767).length:Nat):Int))),(19,.v (.int .i64 ((k:Nat):Int))),(79,.v (.slice ag (out.length + 1) ai)),(80,.v (.int .i64 ((i:Nat):Int))),(81,.v (.agg #[.int .u32 al,.slice aI ax.length aJ]))] ay aZ fun gx dD=>?_
   have hji:j = i:=by omega
   have dE:(⟨ag,ai,73,2,out.length + 1,(qb4 css [.int .u32 0,.slice none 0 0] j).flatten⟩:Rw) = ⟨ag,ai,73,2,out.length + 1,(qb4 css [.int .u32 0,.slice none 0 0] i).flatten⟩:=by rw [hji]
   obtain ⟨bT,aC⟩:=ay.rowEq 0 [⟨ag,ai,73,2,out.length + 1,(qb4 css [.int .u32 0,.slice none 0 0] i).flatten⟩] dE
   obtain ⟨dF,bU⟩:=qcL (bT.own 0 _ rfl) (show 0 < out.length + 1 by omega)
   refine qam (qax dD (t:=26) (A:=ag) (m:=(out.length + 1)) (q:=((i:Nat):Int)) (d:=82) kz (e:=73) (size:=2) (bytes:=32) kz (b:=dF) (o:=0) (j:=i) bU (rfl) (by omega) fun gy dG=>?_)
   refine qam (qdx bT dG (k:=0) (g:=dF) (o:=i * 2) (c:=ai) (m:=(out.length + 1)) (size:=2) (e:=73) (A:=ag) (xs:=((qb4 css [.int .u32 0,.slice none 0 0] i).flatten)) (vs:=[.int .u32 al,.slice aI ax.length aJ]) kz rfl bU (by simp only [List.length_cons,List.length_nil]; omega) fun gz aD bV dH=>?_)
   refine qaf (qaF (qab (qas [0,1] kz ?_)))
   refine qak [0,1] [] [(5,.v (.int .u32 (qat l))),(6,.v (.slice ag (out.length + 1) ai)),(17,.v (.slice A ((u.take 32767).length) c)),(18,.v (.int .i64 (((u.take 32767).length:Nat):Int))),(19,.v (.int .i64 (IntKind.i64.wrap (((k:Nat):Int) + 1))))] bV dH fun gA dI=>?_
   refine qaf (qab ?_)
   obtain ⟨bf,dJ,aE⟩:=bV.cutB dI 0 [] [(5,.v (.int .u32 (qat l))),(6,.v (.slice ag (out.length + 1) ai)),(17,.v (.slice A ((u.take 32767).length) c)),(18,.v (.int .i64 (((u.take 32767).length:Nat):Int))),(19,.v (.int .i64 (IntKind.i64.wrap (((k:Nat):Int) + 1))))]
   have hcl:=(hT.move ((((((((((ac.trans ae).trans aa).trans ab).trans af).trans am).trans av).trans ar).trans aC).trans aD).trans aE).step immM ((((((((((ac.trans ae).trans aa).trans ab).trans af).trans am).trans av).trans ar).trans aC).trans aD).trans aE).to').len
   have dK:(⟨ag,ai,73,2,out.length + 1,qbr ((qb4 css [.int .u32 0,.slice none 0 0] i).flatten) (i * 2) [.int .u32 al,.slice aI ax.length aJ]⟩:Rw) = ⟨ag,ai,73,2,(out.take i ++ (al,ax) :: out.drop i).length,(css.take i ++ [.int .u32 al,.slice aI ax.length aJ] :: css.drop i).flatten⟩:=by rw [qgW (hT.move ((((((((((ac.trans ae).trans aa).trans ab).trans af).trans am).trans av).trans ar).trans aC).trans aD).trans aE).step immM ((((((((((ac.trans ae).trans aa).trans ab).trans af).trans am).trans av).trans ar).trans aC).trans aD).trans aE).to').two rfl (by omega) rfl,qc1 (al,ax) hi]
   obtain ⟨bg,bh⟩:=dJ.rowEq 0 [⟨ag,ai,73,2,(out.take i ++ (al,ax) :: out.drop i).length,(css.take i ++ [.int .u32 al,.slice aI ax.length aJ] :: css.drop i).flatten⟩] dK
   have dL:IntKind.i64.wrap (((k:Nat):Int) + 1) = ((k + 1:Nat):Int):=qbh (by omega)
   rw [dL] at bf
   have dM:out.length + 1 = (out.take i ++ (al,ax) :: out.drop i).length:=qc1 (al,ax) hi
   rw [dM] at bf
   exact ⟨(u.take 32767).length - (k + 1),by omega,k + 1,ag,ai,(out.take i ++ (al,ax) :: out.drop i),(css.take i ++ [.int .u32 al,.slice aI ax.length aJ] :: css.drop i),rfl,by omega,(hT.move (((((((((((ac.trans ae).trans aa).trans ab).trans af).trans am).trans av).trans ar).trans aC).trans aD).trans aE).trans bh).step immM (((((((((((ac.trans ae).trans aa).trans ab).trans af).trans am).trans av).trans ar).trans aC).trans aD).trans aE).trans bh).to').ins ⟨⟨aI,aJ,rfl,(cK.move bg.step nilM bg.imm)⟩,e9,fa⟩ hi,by rw [qci aP,← hout]; exact (qjA (qfC hi hlt (fun _=>by first | (rw [qei bu]; omega) | (rw [qei aL]; omega))) ‹_› (fun _=>by first | (rw [qei bu]; omega) | (rw [qei aL]; omega))).symm,by rw [← qc1 (al,ax) hi]; omega,bf.pk,bg,((((((((((((aR.trans ac).trans ae).trans aa).trans ab).trans af).trans am).trans av).trans ar).trans aC).trans aD).trans aE).trans bh)⟩
  have fq:=of_decide_eq_false aN
  have dN:=cL.cast (env':=[(5,.v (.int .u32 (qat l))),(6,.v (.slice A_ out.length c_)),(8,.p 0 0),(9,.v (.int .i64 ((i:Nat):Int))),(17,.v (.slice A ((u.take 32767).length) c)),(18,.v (.int .i64 (((u.take 32767).length:Nat):Int))),(19,.v (.int .i64 ((k:Nat):Int))),(27,.v (.bool false))]) (by rw [aN])
  refine qa0 [5,6,7,8,9,10,11,12,13] [(5,.v (.int .u32 (qat l))),(6,.v (.slice A_ out.length c_)),(8,.p 0 0),(9,.v (.int .i64 ((i:Nat):Int))),(17,.v (.slice A ((u.take 32767).length) c)),(18,.v (.int .i64 (((u.take 32767).length:Nat):Int))),(19,.v (.int .i64 ((k:Nat):Int))),(36,.v (.bool false))] 0 (qac (qac (qac (qai (qac (qai (qac (qac (qai (qac qah)))))))))) (fun _ h=>h ▸ aB.cells) rfl dN fun gB bW=>?_
  refine qaZ kz ?_ _
  refine qab (qau bW (b:=false) kz rfl ?_)
  refine wp_exit (qaz (qaz (qaR (qab (wp_seq (qch kz aB fun gC ak az=>?_))))))
  refine qa0 [0,1,2,3,4] [(5,.v (.int .u32 (qat l))),(6,.v (.slice A_ out.length c_)),(8,.p 0 0),(9,.v (.int .i64 ((i:Nat):Int))),(17,.v (.slice A ((u.take 32767).length) c)),(18,.v (.int .i64 (((u.take 32767).length:Nat):Int))),(19,.v (.int .i64 ((k:Nat):Int))),(43,.v (.bool (decide (al < (qat l)))))] 15 (qac (qac (qai (qac (qac (qai (qac qah))))))) (fun _ h=>h ▸ az.cells) rfl bW fun gD bX=>?_
  refine (Bool.eq_false_or_eq_true (decide (al < (qat l)))).elim (fun aM=>?_) (fun aM=>?_)
  ·
   have fr:=of_decide_eq_true aM
   have dO:=bX
   rw [aM] at dO
   refine qa0 [5,6,7,8,9,10,11,12,13,14,15,16,17,18,19] [(5,.v (.int .u32 (qat l))),(6,.v (.slice A_ out.length c_)),(8,.p 0 0),(9,.v (.int .i64 ((i:Nat):Int))),(17,.v (.slice A ((u.take 32767).length) c)),(18,.v (.int .i64 (((u.take 32767).length:Nat):Int))),(19,.v (.int .i64 ((k:Nat):Int))),(58,.v (.bool true))] 0 (qac (qac (qai (qac (qac (qai (qac qah))))))) (fun _ h=>h ▸ az.cells) rfl dO fun gE bY=>?_
   refine qaZ kz ?_ _
   refine qab (qbw bY (b:=true) kz rfl ?_)
   refine wp_exit (qaz (qaR (qab (qas [0,1] kz ?_))))
   refine qak [0,1] [] [(5,.v (.int .u32 (qat l))),(6,.v (.slice A_ out.length c_)),(17,.v (.slice A ((u.take 32767).length) c)),(18,.v (.int .i64 (((u.take 32767).length:Nat):Int))),(19,.v (.int .i64 (IntKind.i64.wrap (((k:Nat):Int) + 1))))] az bY fun gF dP=>?_
   refine qaf (qab ?_)
   obtain ⟨bZ,dQ,bi⟩:=az.cutB dP 0 [] [(5,.v (.int .u32 (qat l))),(6,.v (.slice A_ out.length c_)),(17,.v (.slice A ((u.take 32767).length) c)),(18,.v (.int .i64 (((u.take 32767).length:Nat):Int))),(19,.v (.int .i64 (IntKind.i64.wrap (((k:Nat):Int) + 1))))]
   have dR:IntKind.i64.wrap (((k:Nat):Int) + 1) = ((k + 1:Nat):Int):=qbh (by omega)
   rw [dR] at bZ
   exact ⟨(u.take 32767).length - (k + 1),by omega,k + 1,A_,c_,out,css,rfl,by omega,(hT.move (((((ac.trans ae).trans aa).trans ab).trans ak).trans bi).step immM (((((ac.trans ae).trans aa).trans ab).trans ak).trans bi).to'),by rw [qci aP,← hout]; exact (qjz ‹_›).symm,by omega,bZ.pk,dQ,((((((aR.trans ac).trans ae).trans aa).trans ab).trans ak).trans bi)⟩
  have ft:=of_decide_eq_false aM
  have dS:=bX
  rw [aM] at dS
  refine qa0 [5,6,7,8,9] [(5,.v (.int .u32 (qat l))),(6,.v (.slice A_ out.length c_)),(8,.p 0 0),(9,.v (.int .i64 ((i:Nat):Int))),(17,.v (.slice A ((u.take 32767).length) c)),(18,.v (.int .i64 (((u.take 32767).length:Nat):Int))),(19,.v (.int .i64 ((k:Nat):Int))),(43,.v (.bool false)),(48,.v (.bool (decide (((i:Nat):Int) < ((out.length:Nat):Int)))))] 10 (qac (qac (qai (qac (qac (qai (qac qah))))))) (fun _ h=>h ▸ az.cells) rfl dS fun gG dT=>?_
  have dU:(decide (((i:Nat):Int) < ((out.length:Nat):Int))) = false:=aN
  have dV:=dT
  rw [dU] at dV
  refine qa0 [10,11,12,13,14,15,16,17,18,19] [(5,.v (.int .u32 (qat l))),(6,.v (.slice A_ out.length c_)),(8,.p 0 0),(9,.v (.int .i64 ((i:Nat):Int))),(17,.v (.slice A ((u.take 32767).length) c)),(18,.v (.int .i64 (((u.take 32767).length:Nat):Int))),(19,.v (.int .i64 ((k:Nat):Int))),(58,.v (.bool false))] 0 (qac (qac (qai (qac (qac (qai (qac qah))))))) (fun _ h=>h ▸ az.cells) rfl dV fun gH b8=>?_
  refine qaZ kz ?_ _
  refine qab (qau b8 (b:=false) kz rfl ?_)
  refine wp_skip (qab (qae [0,1,2,3,4] kz ?_))
  refine qak [0,1] [2,3,4] [(5,.v (.int .u32 (qat l))),(8,.p 0 0),(9,.v (.int .i64 ((i:Nat):Int))),(17,.v (.slice A ((u.take 32767).length) c)),(18,.v (.int .i64 (((u.take 32767).length:Nat):Int))),(19,.v (.int .i64 ((k:Nat):Int))),(59,.v (.slice A_ out.length c_)),(60,.v (.agg #[.int .u32 0,.slice none 0 0]))] az b8 fun gI dW=>?_
  refine qbu az dW (k:=0) (e:=73) (size:=2) (len:=1) (cs:=[.int .u32 0,.slice none 0 0]) (d1:=61) (d:=62) kz (t:=26) (bytes:=32) kz (fun _=>by kernel_rfl) rfl kz (by omega) fun ah aj gJ gK ao bj ⟨_,dX⟩=>?_
  refine qak [4] [] [(5,.v (.int .u32 (qat l))),(6,.v (.slice ah (out.length + 1) aj)),(8,.p 0 0),(9,.v (.int .i64 ((i:Nat):Int))),(17,.v (.slice A ((u.take 32767).length) c)),(18,.v (.int .i64 (((u.take 32767).length:Nat):Int))),(19,.v (.int .i64 ((k:Nat):Int)))] bj dX fun gL dY=>?_
  refine qaf (qab ?_)
  refine wp_seq (qar [(5,.v (.int .u32 (qat l))),(6,.v (.slice ah (out.length + 1) aj)),(8,.p 0 0),(9,.v (.int .i64 ((i:Nat):Int))),(10,.v (.int .i64 (IntKind.i64.wrap (((out.length + 1:Nat):Int) - 1)))),(17,.v (.slice A ((u.take 32767).length) c)),(18,.v (.int .i64 (((u.take 32767).length:Nat):Int))),(19,.v (.int .i64 ((k:Nat):Int)))] bj dY fun gM cd=>?_)
  refine wp_block ?_
  have hcl0:=(hT.move (((((ac.trans ae).trans aa).trans ab).trans ak).trans ao).step immM (((((ac.trans ae).trans aa).trans ab).trans ak).trans ao).to').len
  have dZ:(⟨ah,aj,73,2,out.length + 1,css.flatten ++ [.int .u32 0,.slice none 0 0]⟩:Rw) = ⟨ah,aj,73,2,out.length + 1,(qb4 css [.int .u32 0,.slice none 0 0] out.length).flatten⟩:=by rw [qh3 hcl0]
  obtain ⟨ce,aw⟩:=bj.rowEq 0 [⟨ah,aj,73,2,out.length + 1,(qb4 css [.int .u32 0,.slice none 0 0] out.length).flatten⟩] dZ
  have d5:IntKind.i64.wrap (((out.length + 1:Nat):Int) - 1) = ((out.length:Nat):Int):=by rw [wrap_i64 (by omega) (by omega)]; omega
  rw [d5] at cd
  refine wp_loop_ghost (fun n_ a_ w_=>∃ (j:Nat),n_ = j ∧ (i ≤ j) ∧ (j ≤ out.length) ∧ LInv ce 85 [⟨eN,0,[.int .u32 al,.slice aI ax.length aJ],true⟩] [⟨ah,aj,73,2,out.length + 1,(qb4 css [.int .u32 0,.slice none 0 0] j).flatten⟩] [(5,.v (.int .u32 (qat l))),(6,.v (.slice ah (out.length + 1) aj)),(8,.p 0 0),(9,.v (.int .i64 ((i:Nat):Int))),(10,.v (.int .i64 ((j:Nat):Int))),(17,.v (.slice A ((u.take 32767).length) c)),(18,.v (.int .i64 (((u.take 32767).length:Nat):Int))),(19,.v (.int .i64 ((k:Nat):Int)))] a_ w_) (out.length) ⟨out.length,rfl,hi,Nat.le_refl _,cd.pk,ce,Fr.refl _ _ _⟩ ?_
  rintro gN gO gP ⟨j,fu,hij,hjl,d6,aA,au⟩
  refine wp_seq (qar [(5,.v (.int .u32 (qat l))),(6,.v (.slice ah (out.length + 1) aj)),(8,.p 0 0),(9,.v (.int .i64 ((i:Nat):Int))),(10,.v (.int .i64 ((j:Nat):Int))),(17,.v (.slice A ((u.take 32767).length) c)),(18,.v (.int .i64 (((u.take 32767).length:Nat):Int))),(19,.v (.int .i64 ((k:Nat):Int))),(68,.v (.bool (decide (((j:Nat):Int) > ((i:Nat):Int)))))] aA d6 fun gQ bk=>?_)
  refine qay bk (b:=decide (((j:Nat):Int) > ((i:Nat):Int))) kz (fun bn=>?_) (fun bn=>?_)
  ·
   have fv:=of_decide_eq_true bn
   refine wp_skip (qab (wp_seq (wp_block (qas [0,1,2,3,4,5,6,7,8] kz ?_))))
   refine qak [0,1,2,3,4] [5,6,7,8] [(5,.v (.int .u32 (qat l))),(6,.v (.slice ah (out.length + 1) aj)),(8,.p 0 0),(9,.v (.int .i64 ((i:Nat):Int))),(10,.v (.int .i64 ((j:Nat):Int))),(17,.v (.slice A ((u.take 32767).length) c)),(18,.v (.int .i64 (((u.take 32767).length:Nat):Int))),(19,.v (.int .i64 ((k:Nat):Int))),(71,.v (.slice ah (out.length + 1) aj)),(72,.v (.int .i64 ((j:Nat):Int))),(73,.v (.slice ah (out.length + 1) aj)),(75,.v (.int .i64 (IntKind.i64.wrap (((j:Nat):Int) - 1))))] aA bk fun gR d7=>?_
   obtain ⟨d8,cg⟩:=qcL (aA.own 0 _ rfl) (show 0 < out.length + 1 by omega)
   obtain ⟨⟨bB,bC⟩,d9⟩:∃ x,out[j - 1]? = some x:=⟨_,List.getElem?_eq_getElem (by omega)⟩
   obtain ⟨bD,bE,cm,fw,gS,gT⟩:=TagsE.get2 (hT.move (((((((ac.trans ae).trans aa).trans ab).trans ak).trans ao).trans aw).trans au).step immM (((((((ac.trans ae).trans aa).trans ab).trans ak).trans ao).trans aw).trans au).to') d9
   have cH:=qgO (aA.own 0 _ rfl) cg (qeh (qeV (hT.move (((((((ac.trans ae).trans aa).trans ab).trans ak).trans ao).trans aw).trans au).step immM (((((((ac.trans ae).trans aa).trans ab).trans ak).trans ao).trans aw).trans au).to').two rfl j) (qgU (show j - 1 < j by omega) cm))
   refine qam (qax d7 (t:=26) (A:=ah) (m:=(out.length + 1)) (q:=(IntKind.i64.wrap (((j:Nat):Int) - 1))) (d:=76) kz (e:=73) (size:=2) (bytes:=32) kz (b:=d8) (o:=0) (j:=(j - 1)) cg (by rw [wrap_i64 (by omega) (by omega)]; omega) (by omega) fun gU ea=>?_)
   refine qam (qaH ea (t:=73) (b:=d8) (o:=0 + (j - 1) * 2) (d:=77) kz (cs:=[.int .u32 bB,.slice bD bC.length bE]) (v:=.agg #[.int .u32 bB,.slice bD bC.length bE]) kz cH fun gV eb=>?_)
   obtain ⟨ec,cq⟩:=qcL (aA.own 0 _ rfl) (show 0 < out.length + 1 by omega)
   refine qam (qax eb (t:=26) (A:=ah) (m:=(out.length + 1)) (q:=((j:Nat):Int)) (d:=78) kz (e:=73) (size:=2) (bytes:=32) kz (b:=ec) (o:=0) (j:=j) cq (rfl) (by omega) fun gW ee=>?_)
   refine qam (qdx aA ee (k:=0) (g:=ec) (o:=j * 2) (c:=aj) (m:=(out.length + 1)) (size:=2) (e:=73) (A:=ah) (xs:=((qb4 css [.int .u32 0,.slice none 0 0] j).flatten)) (vs:=[.int .u32 bB,.slice bD bC.length bE]) kz rfl cq (by simp only [List.length_cons,List.length_nil]; omega) fun gX bo cr ef=>?_)
   refine qaf (qaF (qab (qas [0,1,2] kz ?_)))
   refine qak [0,1,2] [] [(5,.v (.int .u32 (qat l))),(6,.v (.slice ah (out.length + 1) aj)),(8,.p 0 0),(9,.v (.int .i64 ((i:Nat):Int))),(10,.v (.int .i64 (IntKind.i64.wrap (((j:Nat):Int) - 1)))),(17,.v (.slice A ((u.take 32767).length) c)),(18,.v (.int .i64 (((u.take 32767).length:Nat):Int))),(19,.v (.int .i64 ((k:Nat):Int)))] cr ef fun gY cu=>?_
   refine qaf (qab ?_)
   have eg:(⟨ah,aj,73,2,out.length + 1,qbr ((qb4 css [.int .u32 0,.slice none 0 0] j).flatten) (j * 2) [.int .u32 bB,.slice bD bC.length bE]⟩:Rw) = ⟨ah,aj,73,2,out.length + 1,(qb4 css [.int .u32 0,.slice none 0 0] (j - 1)).flatten⟩:=by rw [qgV (hT.move ((((((((ac.trans ae).trans aa).trans ab).trans ak).trans ao).trans aw).trans au).trans bo).step immM ((((((((ac.trans ae).trans aa).trans ab).trans ak).trans ao).trans aw).trans au).trans bo).to').two rfl (by omega) (by omega) cm]
   obtain ⟨eh,ei⟩:=cr.rowEq 0 [⟨ah,aj,73,2,out.length + 1,(qb4 css [.int .u32 0,.slice none 0 0] (j - 1)).flatten⟩] eg
   have ej:IntKind.i64.wrap (((j:Nat):Int) - 1) = ((j - 1:Nat):Int):=by rw [wrap_i64 (by omega) (by omega)]; omega
   rw [ej] at cu
   exact ⟨(j - 1),by omega,(j - 1),rfl,by omega,by omega,cu.pk,eh,((au.trans bo).trans ei)⟩
  have fx:=of_decide_eq_false bn
  refine wp_exit (qaz (qaz (qaR (qab (qas [0,1,2,3,4] kz ?_)))))
  refine qak [0,1,2] [3,4] [(5,.v (.int .u32 (qat l))),(6,.v (.slice ah (out.length + 1) aj)),(17,.v (.slice A ((u.take 32767).length) c)),(18,.v (.int .i64 (((u.take 32767).length:Nat):Int))),(19,.v (.int .i64 ((k:Nat):Int))),(79,.v (.slice ah (out.length + 1) aj)),(80,.v (.int .i64 ((i:Nat):Int))),(81,.v (.agg #[.int .u32 al,.slice aI ax.length aJ]))] aA bk fun gZ ek=>?_
  have hji:j = i:=by omega
  have em:(⟨ah,aj,73,2,out.length + 1,(qb4 css [.int .u32 0,.slice none 0 0] j).flatten⟩:Rw) = ⟨ah,aj,73,2,out.length + 1,(qb4 css [.int .u32 0,.slice none 0 0] i).flatten⟩:=by rw [hji]
  obtain ⟨cv,aF⟩:=aA.rowEq 0 [⟨ah,aj,73,2,out.length + 1,(qb4 css [.int .u32 0,.slice none 0 0] i).flatten⟩] em
  obtain ⟨eo,cw⟩:=qcL (cv.own 0 _ rfl) (show 0 < out.length + 1 by omega)
  refine qam (qax ek (t:=26) (A:=ah) (m:=(out.length + 1)) (q:=((i:Nat):Int)) (d:=82) kz (e:=73) (size:=2) (bytes:=32) kz (b:=eo) (o:=0) (j:=i) cw (rfl) (by omega) fun g8 ep=>?_)
  refine qam (qdx cv ep (k:=0) (g:=eo) (o:=i * 2) (c:=aj) (m:=(out.length + 1)) (size:=2) (e:=73) (A:=ah) (xs:=((qb4 css [.int .u32 0,.slice none 0 0] i).flatten)) (vs:=[.int .u32 al,.slice aI ax.length aJ]) kz rfl cw (by simp only [List.length_cons,List.length_nil]; omega) fun g9 aG cz eu=>?_)
  refine qaf (qaF (qab (qas [0,1] kz ?_)))
  refine qak [0,1] [] [(5,.v (.int .u32 (qat l))),(6,.v (.slice ah (out.length + 1) aj)),(17,.v (.slice A ((u.take 32767).length) c)),(18,.v (.int .i64 (((u.take 32767).length:Nat):Int))),(19,.v (.int .i64 (IntKind.i64.wrap (((k:Nat):Int) + 1))))] cz eu fun hC ev=>?_
  refine qaf (qab ?_)
  obtain ⟨bp,ew,aH⟩:=cz.cutB ev 0 [] [(5,.v (.int .u32 (qat l))),(6,.v (.slice ah (out.length + 1) aj)),(17,.v (.slice A ((u.take 32767).length) c)),(18,.v (.int .i64 (((u.take 32767).length:Nat):Int))),(19,.v (.int .i64 (IntKind.i64.wrap (((k:Nat):Int) + 1))))]
  have hcl:=(hT.move ((((((((((ac.trans ae).trans aa).trans ab).trans ak).trans ao).trans aw).trans au).trans aF).trans aG).trans aH).step immM ((((((((((ac.trans ae).trans aa).trans ab).trans ak).trans ao).trans aw).trans au).trans aF).trans aG).trans aH).to').len
  have ey:(⟨ah,aj,73,2,out.length + 1,qbr ((qb4 css [.int .u32 0,.slice none 0 0] i).flatten) (i * 2) [.int .u32 al,.slice aI ax.length aJ]⟩:Rw) = ⟨ah,aj,73,2,(out.take i ++ (al,ax) :: out.drop i).length,(css.take i ++ [.int .u32 al,.slice aI ax.length aJ] :: css.drop i).flatten⟩:=by rw [qgW (hT.move ((((((((((ac.trans ae).trans aa).trans ab).trans ak).trans ao).trans aw).trans au).trans aF).trans aG).trans aH).step immM ((((((((((ac.trans ae).trans aa).trans ab).trans ak).trans ao).trans aw).trans au).trans aF).trans aG).trans aH).to').two rfl (by omega) rfl,qc1 (al,ax) hi]
  obtain ⟨bq,bt⟩:=ew.rowEq 0 [⟨ah,aj,73,2,(out.take i ++ (al,ax) :: out.drop i).length,(css.take i ++ [.int .u32 al,.slice aI ax.length aJ] :: css.drop i).flatten⟩] ey
  have ez:IntKind.i64.wrap (((k:Nat):Int) + 1) = ((k + 1:Nat):Int):=qbh (by omega)
  rw [ez] at bp
  have eB:out.length + 1 = (out.take i ++ (al,ax) :: out.drop i).length:=qc1 (al,ax) hi
  rw [eB] at bp
  exact ⟨(u.take 32767).length - (k + 1),by omega,k + 1,ah,aj,(out.take i ++ (al,ax) :: out.drop i),(css.take i ++ [.int .u32 al,.slice aI ax.length aJ] :: css.drop i),rfl,by omega,(hT.move (((((((((((ac.trans ae).trans aa).trans ab).trans ak).trans ao).trans aw).trans au).trans aF).trans aG).trans aH).trans bt).step immM (((((((((((ac.trans ae).trans aa).trans ab).trans ak).trans ao).trans aw).trans au).trans aF).trans aG).trans aH).trans bt).to').ins ⟨⟨aI,aJ,rfl,(cK.move bq.step nilM bq.imm)⟩,e9,fa⟩ hi,by rw [qci aP,← hout]; exact (qjA (qfC hi hlt (fun h_=>absurd h_ (by omega))) ‹_› (fun h_=>absurd h_ (by omega))).symm,by rw [← qc1 (al,ax) hi]; omega,bp.pk,bq,((((((((((((aR.trans ac).trans ae).trans aa).trans ab).trans ak).trans ao).trans aw).trans au).trans aF).trans aG).trans aH).trans bt)⟩
 have fy:=of_decide_eq_false cB
 refine wp_exit (qaz (qaz (qaR (qab (qar [(4,.v (.slice A_ out.length c_))] aO cA fun hJ eC=>?_)))))
 refine wp_ret (qaE eC aO.cells (v:=.slice A_ out.length c_) kz ?_)
 exact qhC aO (k:=0) rfl rfl rfl hT (by omega) (by rw [hout,List.take_of_length_le (by omega)]; rfl)
def qj1 (d:Nat):Prop:=∀ (cf:List Value) (f:Fld) (ct:List Value) (t:Tree) (w:World) (F:Nat → Nat → Prop),FldR w F cf f → f.depth ≤ d → TreeR w F ct t →
  Calls Tryz.prog 84 #[.agg cf.toArray,.agg ct.toArray] w (qcF w (.bool (f.usual t)))
theorem qhK {d:Nat} (hu:qj1 d) (cf:List Value) (f:Fld) (ct:List Value) (t:Tree) (w:World) (F:Nat → Nat → Prop) (hf:FldR w F cf f) (hd:f.depth ≤ d + 1) (ht:TreeR w F ct t) :
  Calls Tryz.prog 84 #[.agg cf.toArray,.agg ct.toArray] w (qcF w (.bool (f.usual t))):=by
 obtain ⟨k1,y2,y3,y4,y5,y6,y7,l8,A9,aA,dC,rfl,rfl,dD,ek⟩:=hf.open_
 have em:=dD.small
 obtain ⟨af,ab,aC,aK,aB,ah,ai,bS,bT,bt,bu,fb,rfl,rfl,eo,fe,gI,ff⟩:=ht.open_
 have ep:=eo.small
 have eu:=fe.small
 refine enter (n:=91) Tryz.func84 rfl Tryz.ntmps84 kz fun a hE=>?_
 have hW:=WOk.start w Nil
 refine qae [0,1,2] kz ?_
 refine qam (qbk hW hE (d:=2) (cs:=(z7 k1 y2 y3 y4 y5 y6 y7 A9 l8.length aA)) kz fun dE gJ gK fg fh fi dF dG=>?_)
 refine qam (qbk dF dG (d:=3) (cs:=(z9 af ah ab.length ai aC bS aK.length bT bt aB.length bu)) kz fun dH gL gM fj fk fl aa dI=>?_)
 refine qak [2] [] [(2,.p 0 0),(3,.p 1 0)] aa dI fun gN dJ=>?_
 refine qaf (qab ?_)
 refine wp_seq (qar [(2,.p 0 0),(3,.p 1 0),(10,.v (.int .i64 k1))] aa dJ fun gO dK=>?_)
 refine wp_block (qar [(2,.p 0 0),(3,.p 1 0),(10,.v (.int .i64 k1)),(11,.v (.bool (k1 == 0)))] aa dK fun gP bM=>?_)
 refine qay bM (b:=k1 == 0) kz (fun bN=>?_) (fun bN=>?_)
 ·
  have fm:k1 = 0:=by simpa using bN
  refine qar [(4,.v (.bool ((IntKind.i64.wrap (BitVec.ofInt 64 af &&& BitVec.ofInt 64 1).toNat) == y6)))] aa bM fun gQ dL=>?_
  refine wp_ret (qaY (qaD (qaE dL aa.cells (v:=.bool ((IntKind.i64.wrap (BitVec.ofInt 64 af &&& BitVec.ofInt 64 1).toNat) == y6)) kz ?_)))
  refine ⟨congrArg (fun b_=>Ending.returned (Value.bool b_)) ?_,aa.step⟩
  first
   | (rw [qc6 ‹_›]; simp only [and1]; done)
   | (rw [qbS ‹_› ‹_›]; exact qbQ hz (by omega); done)
   | (rw [qbS ‹_› ‹_›]; exact qbC (k:=k) (by omega) (by omega) ‹_›; done)
   | (rw [qcj ‹_› ‹_› (by omega) ‹_›]; done)
   | (rw [qcB ‹_› ‹_› (by omega) ‹_›]; done)
   | (rw [qcC ‹_› ‹_› ‹_› ‹_› ‹_›]; done)
   | (rw [qcu ‹_› ‹_› ‹_› ‹_› ‹_› ‹_›,huu,qb2 (by omega),Bool.true_and]; done)
   | (rw [qb1 ‹_› ‹_› ‹_› ‹_› ‹_› ‹_›]; done)
 have fo:k1 ≠ 0:=by simpa using bN
 refine qar [(2,.p 0 0),(3,.p 1 0),(10,.v (.int .i64 k1)),(19,.v (.bool (k1 == 7)))] aa bM fun gR bO=>?_
 refine qay bO (b:=k1 == 7) kz (fun bP=>?_) (fun bP=>?_)
 ·
  have fq:k1 = 7:=by simpa using bP
  refine wp_seq (qar [(22,.v (.slice ah ab.length ai)),(23,.v (.int .i64 ((ab.length:Nat):Int))),(24,.v (.int .i64 0))] aa bO fun gS dM=>?_)
  refine wp_block (wp_loop_ghost (fun n_ a_ w_=>∃ (k:Nat),n_ = ab.length - k ∧ k ≤ ab.length ∧ (∀ q,q < k → q < 16 → (((ab.getD q 0).toNat:Nat):Int) = 0) ∧ LInv aa 91 [⟨dE,0,[.int .i64 k1,.int .i64 y2,.int .i64 y3,.int .i64 y4,.int .i64 y5,.int .i64 y6,.int .i64 y7,.slice A9 l8.length aA],true⟩,⟨dH,0,[.int .i64 af,.slice ah ab.length ai,.bool aC,.slice bS aK.length bT,.slice bt aB.length bu],true⟩] [] [(22,.v (.slice ah ab.length ai)),(23,.v (.int .i64 ((ab.length:Nat):Int))),(24,.v (.int .i64 ((k:Nat):Int)))] a_ w_) (ab.length) ⟨0,by omega,by omega,fun q h_=>absurd h_ (Nat.not_lt_zero q),dM.pk,aa,Fr.refl _ _ _⟩ ?_)
  rintro gT gU gV ⟨k,fr,ft,hz,dN,ae,bU⟩
  refine qar [(22,.v (.slice ah ab.length ai)),(23,.v (.int .i64 ((ab.length:Nat):Int))),(24,.v (.int .i64 ((k:Nat):Int))),(25,.v (.bool (decide (((k:Nat):Int) < ((ab.length:Nat):Int)))))] ae dN fun gW bQ=>?_
  refine wp_seq (qay bQ (b:=decide (((k:Nat):Int) < ((ab.length:Nat):Int))) kz (fun bR=>?_) (fun bR=>?_))
  ·
   have fu:=of_decide_eq_true bR
   refine wp_skip (qab (wp_seq (wp_block (qae [0,1,2,3,4] kz ?_))))
   refine qak [0] [1,2,3,4] [(22,.v (.slice ah ab.length ai)),(23,.v (.int .i64 ((ab.length:Nat):Int))),(24,.v (.int .i64 ((k:Nat):Int))),(26,.v (.int .i64 ((k:Nat):Int)))] ae bQ fun gX dO=>?_
   obtain ⟨fv,fw,dP,fx,bV⟩:=Slots.get eo (i:=k) (by omega)
   refine qam (qax dO (t:=24) (A:=ah) (m:=ab.length) (q:=((k:Nat):Int)) (d:=27) kz (e:=5) (size:=1) (bytes:=1) kz dP rfl (by omega) fun gY dQ=>?_)
   refine qam (qaH dQ (t:=5) (b:=fv) (o:=fw + k * 1) (d:=28) kz (cs:=[.int .u8 ((ab.getD k 0).toNat:Int)]) (v:=.int .u8 ((ab.getD k 0).toNat:Int)) kz (AtF.move bV ae.step nilM qbg).at_ fun gZ dR=>?_)
   refine qak [3,4] [] [(5,.v (.int .i64 ((k:Nat):Int))),(6,.v (.int .u8 ((ab.getD k 0).toNat:Int))),(22,.v (.slice ah ab.length ai)),(23,.v (.int .i64 ((ab.length:Nat):Int))),(24,.v (.int .i64 ((k:Nat):Int)))] ae dR fun g8 dS=>?_
   refine qaf (qab ?_)
   refine qae [0,1,2,3,4,5] kz ?_
   refine qak [0,1,2] [3,4,5] [(6,.v (.int .u8 ((ab.getD k 0).toNat:Int))),(22,.v (.slice ah ab.length ai)),(23,.v (.int .i64 ((ab.length:Nat):Int))),(24,.v (.int .i64 ((k:Nat):Int))),(31,.v (.bool (decide (((k:Nat):Int) < 16))))] ae dS fun g9 bW=>?_
   refine (Bool.eq_false_or_eq_true (decide (((k:Nat):Int) < 16))).elim (fun aL=>?_) (fun aL=>?_)
   ·
    have fy:=of_decide_eq_true aL
    have dT:=bW
    rw [aL] at dT
    refine qak [3,4,5] [] [(22,.v (.slice ah ab.length ai)),(23,.v (.int .i64 ((ab.length:Nat):Int))),(24,.v (.int .i64 ((k:Nat):Int))),(34,.v (.bool (((ab.getD k 0).toNat:Int) != 0)))] ae dT fun hC aM=>?_
    refine qaf (qab ?_)
    refine qay aM (b:=((ab.getD k 0).toNat:Int) != 0) kz (fun aN=>?_) (fun aN=>?_)
    ·
     have ev:((ab.getD k 0).toNat:Int) ≠ 0:=by simpa using aN
     refine qar [(4,.v (.bool false))] ae aM fun fz bX=>?_
     refine wp_ret (qaY (qaD (qaD (qaY (qaD (qaY (qaD (qaE bX ae.cells (v:=.bool false) kz ?_))))))))
     refine ⟨congrArg (fun b_=>Ending.returned (Value.bool b_)) ?_,ae.step⟩
     first
      | (rw [qc6 ‹_›]; simp only [and1]; done)
      | (rw [qbS ‹_› ‹_›]; exact qbQ hz (by omega); done)
      | (rw [qbS ‹_› ‹_›]; exact qbC (k:=k) (by omega) (by omega) ‹_›; done)
      | (rw [qcj ‹_› ‹_› (by omega) ‹_›]; done)
      | (rw [qcB ‹_› ‹_› (by omega) ‹_›]; done)
      | (rw [qcC ‹_› ‹_› ‹_› ‹_› ‹_›]; done)
      | (rw [qcu ‹_› ‹_› ‹_› ‹_› ‹_› ‹_›,huu,qb2 (by omega),Bool.true_and]; done)
      | (rw [qb1 ‹_› ‹_› ‹_› ‹_› ‹_› ‹_›]; done)
    have ew:((ab.getD k 0).toNat:Int) = 0:=by simpa using aN
    refine wp_skip (qaF (qab (qas [0,1] kz ?_)))
    refine qak [0,1] [] [(22,.v (.slice ah ab.length ai)),(23,.v (.int .i64 ((ab.length:Nat):Int))),(24,.v (.int .i64 (IntKind.i64.wrap (((k:Nat):Int) + 1))))] ae aM fun fA bw=>?_
    refine qaf (qab ?_)
    have bY:IntKind.i64.wrap (((k:Nat):Int) + 1) = ((k + 1:Nat):Int):=qbh (by omega)
    rw [bY] at bw
    exact ⟨ab.length - (k + 1),by omega,k + 1,rfl,by omega,fun q hq bZ=>by rcases Nat.lt_succ_iff_lt_or_eq.1 hq with h_ | h_; exact hz q h_ bZ; rw [h_] at bZ ⊢; first | assumption | omega,bw.pk,ae,bU⟩
   have ey:=of_decide_eq_false aL
   have b8:=bW
   rw [aL] at b8
   refine qak [3,4,5] [] [(22,.v (.slice ah ab.length ai)),(23,.v (.int .i64 ((ab.length:Nat):Int))),(24,.v (.int .i64 ((k:Nat):Int))),(34,.v (.bool false))] ae b8 fun fB bx=>?_
   refine qaf (qab ?_)
   refine qau bx (b:=false) kz rfl ?_
   refine wp_skip (qaF (qab (qas [0,1] kz ?_)))
   refine qak [0,1] [] [(22,.v (.slice ah ab.length ai)),(23,.v (.int .i64 ((ab.length:Nat):Int))),(24,.v (.int .i64 (IntKind.i64.wrap (((k:Nat):Int) + 1))))] ae bx fun fC bz=>?_
   refine qaf (qab ?_)
   have cd:IntKind.i64.wrap (((k:Nat):Int) + 1) = ((k + 1:Nat):Int):=qbh (by omega)
   rw [cd] at bz
   exact ⟨ab.length - (k + 1),by omega,k + 1,rfl,by omega,fun q hq bZ=>by rcases Nat.lt_succ_iff_lt_or_eq.1 hq with h_ | h_; exact hz q h_ bZ; rw [h_] at bZ ⊢; first | assumption | omega,bz.pk,ae,bU⟩
  have ez:=of_decide_eq_false bR
  refine wp_exit (qaz (qaz (qaR (qab (qar [(4,.v (.bool true))] ae bQ fun fD ce=>?_)))))
  refine wp_ret (qaY (qaD (qaE ce ae.cells (v:=.bool true) kz ?_)))
  refine ⟨congrArg (fun b_=>Ending.returned (Value.bool b_)) ?_,ae.step⟩
  first
   | (rw [qc6 ‹_›]; simp only [and1]; done)
   | (rw [qbS ‹_› ‹_›]; exact qbQ hz (by omega); done)
   | (rw [qbS ‹_› ‹_›]; exact qbC (k:=k) (by omega) (by omega) ‹_›; done)
   | (rw [qcj ‹_› ‹_› (by omega) ‹_›]; done)
   | (rw [qcB ‹_› ‹_› (by omega) ‹_›]; done)
   | (rw [qcC ‹_› ‹_› ‹_› ‹_› ‹_›]; done)
   | (rw [qcu ‹_› ‹_› ‹_› ‹_› ‹_› ‹_›,huu,qb2 (by omega),Bool.true_and]; done)
   | (rw [qb1 ‹_› ‹_› ‹_› ‹_› ‹_› ‹_›]; done)
 have eB:k1 ≠ 7:=by simpa using bP
 refine wp_seq (qar [(2,.p 0 0),(3,.p 1 0),(10,.v (.int .i64 k1)),(36,.v (.bool (k1 == 8)))] aa bO fun fE aD=>?_)
 refine qay aD (b:=k1 == 8) kz (fun aE=>?_) (fun aE=>?_)
 ·
  have eC:k1 = 8:=by simpa using aE
  refine wp_skip (qab (qbw aD (b:=k1 == 8) kz (aE) ?_))
  refine wp_seq (qar [(3,.p 1 0),(41,.v (.bool (decide (y4 ≥ 0))))] aa aD fun fF aO=>?_)
  refine qay aO (b:=decide (y4 ≥ 0)) kz (fun aP=>?_) (fun aP=>?_)
  ·
   have eD:=of_decide_eq_true aP
   refine qar [(4,.v (.bool aC))] aa aO fun fG cg=>?_
   refine wp_ret (qaD (qaY (qaD (qaE cg aa.cells (v:=.bool aC) kz ?_))))
   refine ⟨congrArg (fun b_=>Ending.returned (Value.bool b_)) ?_,aa.step⟩
   first
    | (rw [qc6 ‹_›]; simp only [and1]; done)
    | (rw [qbS ‹_› ‹_›]; exact qbQ hz (by omega); done)
    | (rw [qbS ‹_› ‹_›]; exact qbC (k:=k) (by omega) (by omega) ‹_›; done)
    | (rw [qcj ‹_› ‹_› (by omega) ‹_›]; done)
    | (rw [qcB ‹_› ‹_› (by omega) ‹_›]; done)
    | (rw [qcC ‹_› ‹_› ‹_› ‹_› ‹_›]; done)
    | (rw [qcu ‹_› ‹_› ‹_› ‹_› ‹_› ‹_›,huu,qb2 (by omega),Bool.true_and]; done)
    | (rw [qb1 ‹_› ‹_› ‹_› ‹_› ‹_› ‹_›]; done)
  have eE:=of_decide_eq_false aP
  refine wp_skip (qab (qar [(4,.v (.bool (((ab.length:Nat):Int) == 0)))] aa aO fun fH cm=>?_))
  refine wp_ret (qaY (qaD (qaE cm aa.cells (v:=.bool (((ab.length:Nat):Int) == 0)) kz ?_)))
  refine ⟨congrArg (fun b_=>Ending.returned (Value.bool b_)) ?_,aa.step⟩
  first
   | (rw [qc6 ‹_›]; simp only [and1]; done)
   | (rw [qbS ‹_› ‹_›]; exact qbQ hz (by omega); done)
   | (rw [qbS ‹_› ‹_›]; exact qbC (k:=k) (by omega) (by omega) ‹_›; done)
   | (rw [qcj ‹_› ‹_› (by omega) ‹_›]; done)
   | (rw [qcB ‹_› ‹_› (by omega) ‹_›]; done)
   | (rw [qcC ‹_› ‹_› ‹_› ‹_› ‹_›]; done)
   | (rw [qcu ‹_› ‹_› ‹_› ‹_› ‹_› ‹_›,huu,qb2 (by omega),Bool.true_and]; done)
   | (rw [qb1 ‹_› ‹_› ‹_› ‹_› ‹_› ‹_›]; done)
 have eF:k1 ≠ 8:=by simpa using aE
 refine qas [0,1] kz ?_
 refine qak [0,1] [] [(2,.p 0 0),(3,.p 1 0),(10,.v (.int .i64 k1)),(36,.v (.bool (k1 == 9)))] aa aD fun fI aQ=>?_
 refine qaf (qab ?_)
 refine qay aQ (b:=k1 == 9) kz (fun aR=>?_) (fun aR=>?_)
 ·
  have eG:k1 = 9:=by simpa using aR
  refine wp_seq (qar [(3,.p 1 0),(41,.v (.bool (decide (y4 ≥ 0))))] aa aQ fun fJ aS=>?_)
  refine qay aS (b:=decide (y4 ≥ 0)) kz (fun aT=>?_) (fun aT=>?_)
  ·
   have eH:=of_decide_eq_true aT
   refine qar [(4,.v (.bool aC))] aa aS fun fK cq=>?_
   refine wp_ret (qaD (qaY (qaD (qaE cq aa.cells (v:=.bool aC) kz ?_))))
   refine ⟨congrArg (fun b_=>Ending.returned (Value.bool b_)) ?_,aa.step⟩
   first
    | (rw [qc6 ‹_›]; simp only [and1]; done)
    | (rw [qbS ‹_› ‹_›]; exact qbQ hz (by omega); done)
    | (rw [qbS ‹_› ‹_›]; exact qbC (k:=k) (by omega) (by omega) ‹_›; done)
    | (rw [qcj ‹_› ‹_› (by omega) ‹_›]; done)
    | (rw [qcB ‹_› ‹_› (by omega) ‹_›]; done)
    | (rw [qcC ‹_› ‹_› ‹_› ‹_› ‹_›]; done)
    | (rw [qcu ‹_› ‹_› ‹_› ‹_› ‹_› ‹_›,huu,qb2 (by omega),Bool.true_and]; done)
    | (rw [qb1 ‹_› ‹_› ‹_› ‹_› ‹_› ‹_›]; done)
  have eI:=of_decide_eq_false aT
  refine wp_skip (qab (qar [(4,.v (.bool (((ab.length:Nat):Int) == 0)))] aa aS fun fL cr=>?_))
  refine wp_ret (qaY (qaD (qaE cr aa.cells (v:=.bool (((ab.length:Nat):Int) == 0)) kz ?_)))
  refine ⟨congrArg (fun b_=>Ending.returned (Value.bool b_)) ?_,aa.step⟩
  first
   | (rw [qc6 ‹_›]; simp only [and1]; done)
   | (rw [qbS ‹_› ‹_›]; exact qbQ hz (by omega); done)
   | (rw [qbS ‹_› ‹_›]; exact qbC (k:=k) (by omega) (by omega) ‹_›; done)
   | (rw [qcj ‹_› ‹_› (by omega) ‹_›]; done)
   | (rw [qcB ‹_› ‹_› (by omega) ‹_›]; done)
   | (rw [qcC ‹_› ‹_› ‹_› ‹_› ‹_›]; done)
   | (rw [qcu ‹_› ‹_› ‹_› ‹_› ‹_› ‹_›,huu,qb2 (by omega),Bool.true_and]; done)
   | (rw [qb1 ‹_› ‹_› ‹_› ‹_› ‹_› ‹_›]; done)
 have eJ:k1 ≠ 9:=by simpa using aR
 refine qar [(2,.p 0 0),(3,.p 1 0),(10,.v (.int .i64 k1)),(48,.v (.bool (k1 == 11)))] aa aQ fun fM aU=>?_
 refine qay aU (b:=k1 == 11) kz (fun aV=>?_) (fun aV=>?_)
 ·
  have eK:k1 = 11:=by simpa using aV
  refine qar [(4,.v (.bool (((aK.length:Nat):Int) == 0)))] aa aU fun fN cu=>?_
  refine wp_ret (qaY (qaD (qaE cu aa.cells (v:=.bool (((aK.length:Nat):Int) == 0)) kz ?_)))
  refine ⟨congrArg (fun b_=>Ending.returned (Value.bool b_)) ?_,aa.step⟩
  first
   | (rw [qc6 ‹_›]; simp only [and1]; done)
   | (rw [qbS ‹_› ‹_›]; exact qbQ hz (by omega); done)
   | (rw [qbS ‹_› ‹_›]; exact qbC (k:=k) (by omega) (by omega) ‹_›; done)
   | (rw [qcj ‹_› ‹_› (by omega) ‹_›]; done)
   | (rw [qcB ‹_› ‹_› (by omega) ‹_›]; done)
   | (rw [qcC ‹_› ‹_› ‹_› ‹_› ‹_›]; done)
   | (rw [qcu ‹_› ‹_› ‹_› ‹_› ‹_› ‹_›,huu,qb2 (by omega),Bool.true_and]; done)
   | (rw [qb1 ‹_› ‹_› ‹_› ‹_› ‹_› ‹_›]; done)
 have eL:k1 ≠ 11:=by simpa using aV
 refine qar [(2,.p 0 0),(3,.p 1 0),(54,.v (.bool (k1 == 10)))] aa aU fun fO aW=>?_
 refine qay aW (b:=k1 == 10) kz (fun aX=>?_) (fun aX=>?_)
 ·
  have eM:k1 = 10:=by simpa using aX
  refine wp_seq (qar [(2,.p 0 0),(3,.p 1 0),(57,.v (.slice A9 l8.length aA)),(58,.v (.int .i64 ((l8.length:Nat):Int))),(59,.v (.int .i64 0))] aa aW fun fP cv=>?_)
  refine wp_block (wp_loop_ghost (fun n_ a_ w_=>∃ (k:Nat),n_ = l8.length - k ∧ k ≤ l8.length ∧ (usuals l8 (Tree.mk af ab aC aK aB) 0 = usuals (l8.drop k) (Tree.mk af ab aC aK aB) k) ∧ LInv aa 91 [⟨dE,0,[.int .i64 k1,.int .i64 y2,.int .i64 y3,.int .i64 y4,.int .i64 y5,.int .i64 y6,.int .i64 y7,.slice A9 l8.length aA],true⟩,⟨dH,0,[.int .i64 af,.slice ah ab.length ai,.bool aC,.slice bS aK.length bT,.slice bt aB.length bu],true⟩] [] [(2,.p 0 0),(3,.p 1 0),(57,.v (.slice A9 l8.length aA)),(58,.v (.int .i64 ((l8.length:Nat):Int))),(59,.v (.int .i64 ((k:Nat):Int)))] a_ w_) (l8.length) ⟨0,by omega,by omega,rfl,cv.pk,aa,Fr.refl _ _ _⟩ ?_)
  rintro fQ fR fS ⟨k,eN,eO,huu,cw,ac,cz⟩
  refine qar [(2,.p 0 0),(3,.p 1 0),(57,.v (.slice A9 l8.length aA)),(58,.v (.int .i64 ((l8.length:Nat):Int))),(59,.v (.int .i64 ((k:Nat):Int))),(60,.v (.bool (decide (((k:Nat):Int) < ((l8.length:Nat):Int)))))] ac cw fun fT aY=>?_
  refine wp_seq (qay aY (b:=decide (((k:Nat):Int) < ((l8.length:Nat):Int))) kz (fun aZ=>?_) (fun aZ=>?_))
  ·
   have eP:=of_decide_eq_true aZ
   refine wp_skip (qab (wp_seq (wp_block (qae [0,1,2,3,4,5] kz ?_))))
   refine qak [0] [1,2,3,4,5] [(2,.p 0 0),(3,.p 1 0),(57,.v (.slice A9 l8.length aA)),(58,.v (.int .i64 ((l8.length:Nat):Int))),(59,.v (.int .i64 ((k:Nat):Int))),(61,.v (.int .i64 ((k:Nat):Int)))] ac aY fun fU cA=>?_
   obtain ⟨dU,dV,cB,eQ,ba⟩:=Slots.get dD (i:=k) (by omega)
   obtain ⟨dW,aF⟩:∃ x,l8[k]? = some x:=⟨_,List.getElem?_eq_getElem (by omega)⟩
   have bd:=ek k dW aF
   obtain ⟨aj,ak,al,am,ao,ap,ar,au,aI,aJ,eR,rfl,bf,dX,fV⟩:=bd.open_
   rw [bf] at bd
   have dY:=dX.small
   rw [bf] at ba
   refine qam (qax cA (t:=32) (A:=A9) (m:=l8.length) (q:=((k:Nat):Int)) (d:=62) kz (e:=50) (size:=8) (bytes:=80) kz cB rfl (by omega) fun fW cC=>?_)
   refine qam (qaH cC (t:=50) (b:=dU) (o:=dV + k * 8) (d:=63) kz (cs:=(z7 aj ak al am ao ap ar aI au.length aJ)) (v:=.agg #[.int .i64 aj,.int .i64 ak,.int .i64 al,.int .i64 am,.int .i64 ao,.int .i64 ap,.int .i64 ar,.slice aI au.length aJ]) kz (AtF.move ba ac.step nilM qbg).at_ fun fX cD=>?_)
   refine qam (qbc ac cD (d:=8) (cs:=z20) kz fun fY fZ f5 eS eT cE bA cG=>?_)
   refine qak [4] [5] [(2,.p 0 0),(3,.p 1 0),(7,.v (.int .i64 ((k:Nat):Int))),(8,.p 2 0),(57,.v (.slice A9 l8.length aA)),(58,.v (.int .i64 ((l8.length:Nat):Int))),(59,.v (.int .i64 ((k:Nat):Int))),(63,.v (.agg #[.int .i64 aj,.int .i64 ak,.int .i64 al,.int .i64 am,.int .i64 ao,.int .i64 ap,.int .i64 ar,.slice aI au.length aJ]))] bA cG fun f7 cH=>?_
   refine qam (qaM bA cH (oi:=2) (cs:=(z7 aj ak al am ao ap ar aI au.length aJ)) kz fun f8 cI cJ cK=>?_)
   refine qaf (qab ?_)
   refine qbm 6 kz cJ fun f9 cL av cM=>?_
   refine qa0 [0,1,2] [(2,.p 0 0),(3,.p 1 0),(57,.v (.slice A9 l8.length aA)),(58,.v (.int .i64 ((l8.length:Nat):Int))),(59,.v (.int .i64 ((k:Nat):Int))),(64,.v (.agg #[.int .i64 aj,.int .i64 ak,.int .i64 al,.int .i64 am,.int .i64 ao,.int .i64 ap,.int .i64 ar,.slice aI au.length aJ])),(65,.v (.agg #[.int .i64 af,.slice ah ab.length ai,.bool aC,.slice bS aK.length bT,.slice bt aB.length bu])),(66,.v (.int .i64 ((k:Nat):Int)))] 3 (qac (qai (qac (qac (qai (qac (qai (qac qah)))))))) (fun _ h=>h.cells) cM cK fun ga cN=>?_
   refine qaO (i:=3) kz (qal cN (f:=82) (vs:=[.agg #[.int .i64 af,.slice ah ab.length ai,.bool aC,.slice bS aK.length bT,.slice bt aB.length bu],.int .i64 ((k:Nat):Int)]) (d:=67) kz Tryz.call82 (sAt _ _ k _ _ (ht.move av.step nilM av.imm)) ?_)
   rintro e_ gb ⟨eU,rfl,cO,aw⟩
   have bg:=cO.move aw nilM (fun b o h_ hb_=>av.laid (G:=F) aw b o (.inl h_) (Nat.lt_of_lt_of_le hb_ aw.size))
   obtain ⟨dZ,d5,d6,d7,d8,d9,ea,eb,ec,ee,ef,eV,eW,bh,eg,eh,gc,gd⟩:=bg.open_
   rw [bh] at bg
   have ei:=eg.small
   have ej:=eh.small
   rw [bh]
   refine ⟨_,rfl,fun ge cP=>?_⟩
   have ax:=av.next_nil aw
   have bi:=av.frN aw
   have cQ:=TT.ofW bi ax
   refine ⟨fun _=>cQ,?_⟩
   refine qaO (i:=4) kz (qal cP (f:=84) (vs:=[.agg #[.int .i64 aj,.int .i64 ak,.int .i64 al,.int .i64 am,.int .i64 ao,.int .i64 ap,.int .i64 ar,.slice aI au.length aJ],.agg #[.int .i64 dZ,.slice d9 d5.length ea,.bool d6,.slice eb d7.length ec,.slice ee d8.length ef]]) (d:=68) kz Tryz.call84 ( hu _ _ _ _ _ _ (bd.move ax.step nilM ax.imm) (by have h_:=qej aF; rw [qfo] at hd; omega) bg) ?_)
   rintro e_ gg ⟨rfl,bB⟩
   refine ⟨_,rfl,fun gh cR=>?_⟩
   have ag:=ax.next_nil bB
   have bC:=ax.frN bB
   have bD:=TT.ofW (bi.trans bC) ag
   refine ⟨fun _=>bD,?_⟩
   refine qa0 [5] [(2,.p 0 0),(3,.p 1 0),(57,.v (.slice A9 l8.length aA)),(58,.v (.int .i64 ((l8.length:Nat):Int))),(59,.v (.int .i64 ((k:Nat):Int))),(69,.v (.bool (!(Fld.usual (Fld.mk aj ak al am ao ap ar au) (Tree.at_ (Tree.mk af ab aC aK aB) k)))))] 0 (qac (qai (qac (qac (qai (qac (qai (qac qah)))))))) (fun _ h=>h.cells) bD cR fun gi bj=>?_
   refine qaZ kz ?_ _
   refine qab (qay bj (b:=!(Fld.usual (Fld.mk aj ak al am ao ap ar au) (Tree.at_ (Tree.mk af ab aC aK aB) k))) kz (fun bk=>?_) (fun bk=>?_))
   ·
    refine qar [(4,.v (.bool false))] ag bj fun gj cS=>?_
    refine wp_ret (qaY (qaD (qaD (qaY (qaD (qaY (qaD (qaE cS ag.cells (v:=.bool false) kz ?_))))))))
    refine ⟨congrArg (fun b_=>Ending.returned (Value.bool b_)) ?_,ag.step⟩
    first
     | (rw [qc6 ‹_›]; simp only [and1]; done)
     | (rw [qbS ‹_› ‹_›]; exact qbQ hz (by omega); done)
     | (rw [qbS ‹_› ‹_›]; exact qbC (k:=k) (by omega) (by omega) ‹_›; done)
     | (rw [qcj ‹_› ‹_› (by omega) ‹_›]; done)
     | (rw [qcB ‹_› ‹_› (by omega) ‹_›]; done)
     | (rw [qcC ‹_› ‹_› ‹_› ‹_› ‹_›]; done)
     | (rw [qcu ‹_› ‹_› ‹_› ‹_› ‹_› ‹_›,huu,qb2 (by omega),Bool.true_and]; done)
     | (rw [qb1 ‹_› ‹_› ‹_› ‹_› ‹_› ‹_›]; done)
     | (rw [qcu ‹_› ‹_› ‹_› ‹_› ‹_› ‹_›,huu,qhE aF (by simpa using bk),Bool.false_and]; done)
   refine wp_skip (qaF (qab (qas [0,1] kz ?_)))
   refine qak [0,1] [] [(2,.p 0 0),(3,.p 1 0),(57,.v (.slice A9 l8.length aA)),(58,.v (.int .i64 ((l8.length:Nat):Int))),(59,.v (.int .i64 (IntKind.i64.wrap (((k:Nat):Int) + 1))))] ag bj fun gk cT=>?_
   refine qaf (qab ?_)
   obtain ⟨bE,cU,cV⟩:=ag.cutB cT 2 [⟨dE,0,(z7 k1 y2 y3 y4 y5 y6 y7 A9 l8.length aA),true⟩,⟨dH,0,(z9 af ah ab.length ai aC bS aK.length bT bt aB.length bu),true⟩] [(2,.p 0 0),(3,.p 1 0),(57,.v (.slice A9 l8.length aA)),(58,.v (.int .i64 ((l8.length:Nat):Int))),(59,.v (.int .i64 (IntKind.i64.wrap (((k:Nat):Int) + 1))))]
   have cW:IntKind.i64.wrap (((k:Nat):Int) + 1) = ((k + 1:Nat):Int):=qbh (by omega)
   rw [cW] at bE
   exact ⟨l8.length - (k + 1),by omega,k + 1,rfl,by omega,by rw [huu]; exact qhD aF (by simpa using bk),bE.pk,cU,((((((cz.trans cE).trans cI).trans cL).trans bi).trans bC).trans cV)⟩
  have eX:=of_decide_eq_false aZ
  refine wp_exit (qaz (qaz (qaR (qab (qae [0,1,2,3,4,5,6,7] kz ?_)))))
  refine qak [0,1,2,3] [4,5,6,7] [(72,.v (.slice A9 l8.length aA)),(74,.v (.slice bt aB.length bu))] ac aY fun gl cX=>?_
  refine qam (qal cX (f:=86) (vs:=[.slice A9 l8.length aA,.slice bt aB.length bu]) (d:=75) kz Tryz.call86 (qii _ _ l8 _ _ aB _ _ ⟨dC,(dD.move ac.step nilM ac.imm),(fun i_ x_ h_=>((ek i_ x_ h_).move ac.step nilM ac.imm))⟩ (ff.move ac.step nilM ac.imm)) ?_)
  rintro e_ gm ⟨gn,gp,rfl,cY,bn⟩
  have eY:=cY.move (Step.refl _ Nil) nilM (ac.laid (G:=F) bn)
  refine ⟨_,rfl,fun gq cZ=>?_⟩
  have bo:=ac.next_nil bn
  have eZ:=ac.frN bn
  refine qak [5,6,7] [] [(4,.v (.bool ((((qan l8 aB).length:Nat):Int) == 0)))] bo cZ fun gt c5=>?_
  refine qaf (qab ?_)
  refine wp_ret (qaY (qaD (qaE c5 bo.cells (v:=.bool ((((qan l8 aB).length:Nat):Int) == 0)) kz ?_)))
  refine ⟨congrArg (fun b_=>Ending.returned (Value.bool b_)) ?_,bo.step⟩
  first
   | (rw [qc6 ‹_›]; simp only [and1]; done)
   | (rw [qbS ‹_› ‹_›]; exact qbQ hz (by omega); done)
   | (rw [qbS ‹_› ‹_›]; exact qbC (k:=k) (by omega) (by omega) ‹_›; done)
   | (rw [qcj ‹_› ‹_› (by omega) ‹_›]; done)
   | (rw [qcB ‹_› ‹_› (by omega) ‹_›]; done)
   | (rw [qcC ‹_› ‹_› ‹_› ‹_› ‹_›]; done)
   | (rw [qcu ‹_› ‹_› ‹_› ‹_› ‹_› ‹_›,huu,qb2 (by omega),Bool.true_and]; done)
   | (rw [qb1 ‹_› ‹_› ‹_› ‹_› ‹_› ‹_›]; done)
 have e9:k1 ≠ 10:=by simpa using aX
 refine wp_skip (qaF (qab (qbm 13 kz aa fun gv fa bF da=>?_)))
 refine qa0 [0,1,2,3,6,7,8,9] [(79,.v (.int .i64 af)),(81,.v (.int .i64 k1)),(85,.v (.int .i64 y6)),(87,.v (.int .i64 k1))] 6 (qac qah) (fun _ h=>h.cells) da aW fun gw db=>?_
 refine qaO (i:=4) kz (qal db (f:=112) (vs:=[.int .i64 k1]) (d:=82) kz Tryz.call112 (qjX k1 _) ?_)
 rintro e_ gx ⟨rfl,bG⟩
 refine ⟨_,rfl,fun gy dc=>?_⟩
 have bH:=bF.next_nil bG
 have ay:=bF.frN bG
 have de:=TT.ofW ay bH
 refine ⟨fun _=>de,?_⟩
 refine qaO (i:=5) kz (qal dc (f:=46) (vs:=[.int .i64 af,.int .i64 ((qbB k1:Nat):Int)]) (d:=83) kz Tryz.call46 (qcV af (qbB k1) (by first | decide | exact qbb _ | omega) _) ?_)
 rintro e_ gz ⟨df,dg,rfl,dh,di⟩
 refine ⟨_,rfl,fun gA dj=>?_⟩
 obtain ⟨bp,aG⟩:=bH.frFresh di (brow df dg 5 (be (qbB k1) af)) (Nat.le_refl _) dh
 have dl:=TT.ofW (ay.trans aG) bp
 refine ⟨fun _=>dl,?_⟩
 refine qaO (i:=10) kz (qal dj (f:=112) (vs:=[.int .i64 k1]) (d:=88) kz Tryz.call112 (qjX k1 _) ?_)
 rintro e_ gB ⟨rfl,bI⟩
 refine ⟨_,rfl,fun gC dp=>?_⟩
 have bJ:=bp.next_nil bI
 have bq:=bp.frN bI
 have dq:=TT.ofW ((ay.trans aG).trans bq) bJ
 refine ⟨fun _=>dq,?_⟩
 refine qaO (i:=11) kz (qal dp (f:=46) (vs:=[.int .i64 y6,.int .i64 ((qbB k1:Nat):Int)]) (d:=89) kz Tryz.call46 (qcV y6 (qbB k1) (by first | decide | exact qbb _ | omega) _) ?_)
 rintro e_ gD ⟨dr,dt,rfl,du,dv⟩
 refine ⟨_,rfl,fun gE dw=>?_⟩
 obtain ⟨az,bK⟩:=bJ.frFresh dv (brow dr dt 5 (be (qbB k1) y6)) (Nat.le_refl _) du
 have dx:=TT.ofW (((ay.trans aG).trans bq).trans bK) az
 refine ⟨fun _=>dx,?_⟩
 refine qaO (i:=12) kz (qal dw (f:=17) (vs:=[.slice df ((be (qbB k1) af).length) dg,.slice dr ((be (qbB k1) y6).length) dt]) (d:=90) kz Tryz.call17 (qlC _ _ _ _ (be (qbB k1) af) (be (qbB k1) y6) _ _ (qcK (az.own 0 _ rfl) (by first | omega | (rw [qbv]; decide) | (simp only [be_length]; exact Nat.le_trans (qbb _) (by decide)) | (have:=hroom; omega) | (have:=hmade; omega) | (simp only [List.length_append,List.length_nil]; omega)) (F:=fun _ _=>True) (fun _ _ _=>trivial)) (qcK (az.own 1 _ rfl) (by first | omega | (rw [qbv]; decide) | (simp only [be_length]; exact Nat.le_trans (qbb _) (by decide)) | (have:=hroom; omega) | (have:=hmade; omega) | (simp only [List.length_append,List.length_nil]; omega)) (F:=fun _ _=>True) (fun _ _ _=>trivial))) ?_)
 rintro e_ gF ⟨rfl,bL⟩
 refine ⟨_,rfl,fun gG dy=>?_⟩
 have aH:=az.next_nil bL
 have dz:=az.frN bL
 have dA:=TT.ofW ((((ay.trans aG).trans bq).trans bK).trans dz) aH
 refine ⟨fun _=>dA,?_⟩
 refine qaO (i:=13) kz (qcf [4] aH.cells dy (env':=[(4,.v (.bool (decide (be (qbB k1) af = be (qbB k1) y6))))]) kz fun gH dB=>?_)
 refine ⟨fun h=>absurd rfl h,?_⟩
 refine qaZ kz ?_ _
 refine qab (wp_ret (qaE dB aH.cells (v:=.bool (decide (be (qbB k1) af = be (qbB k1) y6))) kz ?_))
 refine ⟨congrArg (fun b_=>Ending.returned (Value.bool b_)) ?_,aH.step⟩
 first
  | (rw [qc6 ‹_›]; simp only [and1]; done)
  | (rw [qbS ‹_› ‹_›]; exact qbQ hz (by omega); done)
  | (rw [qbS ‹_› ‹_›]; exact qbC (k:=k) (by omega) (by omega) ‹_›; done)
  | (rw [qcj ‹_› ‹_› (by omega) ‹_›]; done)
  | (rw [qcB ‹_› ‹_› (by omega) ‹_›]; done)
  | (rw [qcC ‹_› ‹_› ‹_› ‹_› ‹_›]; done)
  | (rw [qcu ‹_› ‹_› ‹_› ‹_› ‹_› ‹_›,huu,qb2 (by omega),Bool.true_and]; done)
  | (rw [qb1 ‹_› ‹_› ‹_› ‹_› ‹_› ‹_›]; done)
theorem qld:∀ d,qj1 d
 | 0=>fun cf f ct t w F hf hd ht=>by
  obtain ⟨k,x1,x2,x3,x4,x5,x6,l,A,c,xs,rfl,_⟩:=hf.open_
  rw [qfo] at hd; omega
 | d + 1=>qhK (qld d)
end Go.Proofs.YtogokkkdfcgncaaGreatDoor.ME