/- The texts of a claim, put together: the engine, the contracts, the law. Own work. -/
import Derived.Test.YtogokkkdfcgncaaGreatDoorWf2P1
import Derived.Test.YtogokkkdfcgncaaGreatDoorProg
namespace Go.Proofs.YtogokkkdfcgncaaGreatDoor.ME
open Go
open Go.RowKit
set_option linter.unusedVariables false
set_option linter.unusedSimpArgs false
set_option maxRecDepth 20000
abbrev z6 (x0) (x1) (x2) (x3) (x4) (x5) (x6) (x7) (x8) (x9):=([.int .i64 x0,.int .i64 x1,.int .i64 x2,.int .i64 x3,.int .i64 x4,.int .i64 x5,.int .i64 x6,.slice x7 x8 x9]:List Value)
theorem sHas (k x1 x2 x3 x4 x5 x6:Int) (fs:List Fld) (AF:Option Addr) (cF:Nat) (v:Int) (w:World) :
  Calls Tryz.prog 80 #[.agg #[.int .i64 k,.int .i64 x1,.int .i64 x2,.int .i64 x3,.int .i64 x4,.int .i64 x5,.int .i64 x6,.slice AF fs.length cF],.int .i64 v] w (qcF w (.bool (Fld.has (Fld.mk k x1 x2 x3 x4 x5 x6 fs) v))):=by
 refine enter (n:=20) Tryz.func80 rfl Tryz.ntmps80 kz fun a hE=>?_
 have hW:=WOk.start w Nil
 refine qae [0,1] kz ?_
 refine qam (qbk hW hE (d:=2) (cs:=(z6 k x1 x2 x3 x4 x5 x6 AF fs.length cF)) kz fun b1 a2 w3 hb4 hz5 hF6 hW7 hE8=>?_)
 refine qaj [1] [] [(1,.v (.int .i64 v)),(2,.p 0 0)] hW7 hE8 fun a9 af=>?_
 refine qaf (qaa ?_)
 refine qae [0,1,2,3,4,5,6,7,8,9,10,11,12,13,14,15] kz ?_
 refine qaj [0,1,2,3,4] [5,6,7,8,9,10,11,12,13,14,15] [(1,.v (.int .i64 v)),(2,.p 0 0),(9,.v (.bool (decide (x1 ≤ v))))] hW7 af fun av ac=>?_
 refine (Bool.eq_false_or_eq_true (decide (x1 ≤ v))).elim (fun aa=>?_) (fun aa=>?_)
 ·
  have ao:=of_decide_eq_true aa
  have ag:=ac
  rw [aa] at ag
  refine qaj [5,6,7,8] [9,10,11,12,13,14,15] [(1,.v (.int .i64 v)),(2,.p 0 0),(9,.v (.bool true)),(13,.v (.bool (decide (x2 < 0))))] hW7 ag fun aw ae=>?_
  refine (Bool.eq_false_or_eq_true (decide (x2 < 0))).elim (fun ab=>?_) (fun ab=>?_)
  ·
   have ap:=of_decide_eq_true ab
   have ah:=ae
   rw [ab] at ah
   refine qaj [9,10,11,12,13,14,15] [] [(4,.v (.bool true))] hW7 ah fun ax ai=>?_
   refine qaf (qaa ?_)
   refine wp_ret (qaD ai hW7.cells (v:=.bool true) kz ?_)
   exact ⟨by simp only [Fld.has,aa,ab,Bool.true_and,Bool.and_true,Bool.false_and,Bool.and_false,Bool.true_or,Bool.false_or,Bool.or_true,Bool.or_false],hW7.step⟩
  have ar:=of_decide_eq_false ab
  have aj:=ae
  rw [ab] at aj
  refine qaj [9,10,11,12,13,14,15] [] [(4,.v (.bool (decide (v ≤ x2))))] hW7 aj fun ay ak=>?_
  refine qaf (qaa ?_)
  refine wp_ret (qaD ak hW7.cells (v:=.bool (decide (v ≤ x2))) kz ?_)
  exact ⟨by simp only [Fld.has,aa,ab,Bool.true_and,Bool.and_true,Bool.false_and,Bool.and_false,Bool.true_or,Bool.false_or,Bool.or_true,Bool.or_false],hW7.step⟩
 have au:=of_decide_eq_false aa
 have al:=ac
 rw [aa] at al
 refine qaj [5,6,7,8,9,10,11,12,13,14,15] [] [(4,.v (.bool false))] hW7 al fun az am=>?_
 refine qaf (qaa ?_)
 refine wp_ret (qaD am hW7.cells (v:=.bool false) kz ?_)
 exact ⟨by simp only [Fld.has,aa,Bool.true_and,Bool.and_true,Bool.false_and,Bool.and_false,Bool.true_or,Bool.false_or,Bool.or_true,Bool.or_false],hW7.step⟩
abbrev z10 (x0) (x1) (x2) (x3) (x4) (x5) (x6) (x7) (x8) (x9) (x10):=([.int .i64 x0,.slice x1 x2 x3,.bool x4,.slice x5 x6 x7,.slice x8 x9 x10]:List Value)
theorem qmC (k x1 x2 x3 x4 x5 x6:Int) (fs:List Fld) (AF:Option Addr) (cF:Nat) (v:Int) (n:Int) (s:Bs) (b:Bool) (l:List Tree) (u:List (Int × Bs)) (A1:Option Addr) (c1:Nat) (A2:Option Addr) (c2:Nat) (A3:Option Addr) (c3:Nat) (w:World) :
  Calls Tryz.prog 108 #[.agg #[.int .i64 k,.int .i64 x1,.int .i64 x2,.int .i64 x3,.int .i64 x4,.int .i64 x5,.int .i64 x6,.slice AF fs.length cF],.int .i64 v,.agg #[.int .i64 n,.slice A1 s.length c1,.bool b,.slice A2 l.length c2,.slice A3 u.length c3]] w (qcF w (.bool (Fld.nul (Fld.mk k x1 x2 x3 x4 x5 x6 fs) v (Tree.mk n s b l u)))):=by
 refine enter (n:=20) Tryz.func108 rfl Tryz.ntmps108 kz fun a hE=>?_
 have hW:=WOk.start w Nil
 refine qae [0,1,2] kz ?_
 refine qam (qbk hW hE (d:=3) (cs:=(z6 k x1 x2 x3 x4 x5 x6 AF fs.length cF)) kz fun b1 a2 w3 hb4 hz5 hF6 hW7 hE8=>?_)
 refine qam (qbk hW7 hE8 (d:=5) (cs:=(z10 n A1 s.length c1 b A2 l.length c2 A3 u.length c3)) kz fun b9 ay az ar au av aa ag=>?_)
 refine qaj [2] [] [(1,.v (.int .i64 v)),(3,.p 0 0),(5,.p 1 0)] aa ag fun aA ah=>?_
 refine qaf (qaa ?_)
 refine qae [0,1,2,3,4,5,6,7,8,9,10,11,12,13] kz ?_
 refine qaj [0,1,2] [3,4,5,6,7,8,9,10,11,12,13] [(1,.v (.int .i64 v)),(3,.p 0 0),(9,.v (.bool b))] aa ah fun aB ae=>?_
 refine (Bool.eq_false_or_eq_true (b)).elim (fun ac=>?_) (fun ac=>?_)
 ·
  have ai:=ae.cast (env':=[(1,.v (.int .i64 v)),(3,.p 0 0),(9,.v (.bool true))]) (by rw [ac])
  refine qaj [3,4,5,6,7] [8,9,10,11,12,13] [(1,.v (.int .i64 v)),(3,.p 0 0),(14,.v (.bool (decide (x3 ≥ 0))))] aa ai fun aC af=>?_
  refine (Bool.eq_false_or_eq_true (decide (x3 ≥ 0))).elim (fun ab=>?_) (fun ab=>?_)
  ·
   have aw:=of_decide_eq_true ab
   have aj:=af
   rw [ab] at aj
   refine qaj [8,9,10,11,12,13] [] [(6,.v (.bool (decide (v ≥ x3))))] aa aj fun aD ak=>?_
   refine qaf (qaa ?_)
   refine wp_ret (qaD ak aa.cells (v:=.bool (decide (v ≥ x3))) kz ?_)
   exact ⟨by simp only [Fld.nul,ac,ab,Bool.true_and,Bool.and_true,Bool.false_and,Bool.and_false,Bool.true_or,Bool.false_or,Bool.or_true,Bool.or_false],aa.step⟩
  have ax:=of_decide_eq_false ab
  have al:=af
  rw [ab] at al
  refine qaj [8,9,10,11,12,13] [] [(6,.v (.bool false))] aa al fun aE am=>?_
  refine qaf (qaa ?_)
  refine wp_ret (qaD am aa.cells (v:=.bool false) kz ?_)
  exact ⟨by simp only [Fld.nul,ac,ab,Bool.true_and,Bool.and_true,Bool.false_and,Bool.and_false,Bool.true_or,Bool.false_or,Bool.or_true,Bool.or_false],aa.step⟩
 have ao:=ae.cast (env':=[(1,.v (.int .i64 v)),(3,.p 0 0),(9,.v (.bool false))]) (by rw [ac])
 refine qaj [3,4,5,6,7,8,9,10,11,12,13] [] [(6,.v (.bool false))] aa ao fun aF ap=>?_
 refine qaf (qaa ?_)
 refine wp_ret (qaD ap aa.cells (v:=.bool false) kz ?_)
 exact ⟨by simp only [Fld.nul,ac,Bool.true_and,Bool.and_true,Bool.false_and,Bool.and_false,Bool.true_or,Bool.false_or,Bool.or_true,Bool.or_false],aa.step⟩
theorem qjX (k:Int) (w:World):Calls Tryz.prog 112 #[.int .i64 k] w (qcF w (.int .i64 ((qbz k:Nat):Int))):=by
 refine enter (n:=11) Tryz.func112 rfl Tryz.ntmps112 kz fun a hE=>?_
 have hW:=WOk.start w Nil
 refine qas [(0,.v (.int .i64 k))] hW hE fun a1 hE2=>?_
 refine wp_seq (qas [(3,.v (.int .i64 k))] hW hE2 fun a3 hE4=>?_)
 refine wp_block (qas [(3,.v (.int .i64 k)),(4,.v (.bool (k == 1)))] hW hE4 fun a5 hE6=>?_)
 refine qax hE6 (b:=k == 1) kz (fun hc7=>?_) (fun hc7=>?_)
 ·
  have hf8:k = 1:=by simpa using hc7
  refine qas [(2,.v (.int .i64 1))] hW hE6 fun a9 ah=>?_
  refine wp_ret (qaW (qaC (qaD ah hW.cells (v:=.int .i64 1) kz ?_)))
  exact ⟨by simp_all [qbz],hW.step⟩
 have am:k ≠ 1:=by simpa using hc7
 refine wp_seq (qas [(3,.v (.int .i64 k)),(6,.v (.bool (k == 2)))] hW hE6 fun ax aa=>?_)
 refine qax aa (b:=k == 2) kz (fun ab=>?_) (fun ab=>?_)
 ·
  have ao:k = 2:=by simpa using ab
  refine wp_skip (qaa (qbF aa (b:=k == 2) kz (ab) ?_))
  refine qas [(2,.v (.int .i64 2))] hW aa fun ay ai=>?_
  refine wp_ret (qaW (qaC (qaD ai hW.cells (v:=.int .i64 2) kz ?_)))
  exact ⟨by simp_all [qbz],hW.step⟩
 have ap:k ≠ 2:=by simpa using ab
 refine qar [0,1] kz ?_
 refine qaj [0,1] [] [(3,.v (.int .i64 k)),(6,.v (.bool (k == 5)))] hW aa fun az ac=>?_
 refine qaf (qaa ?_)
 refine qax ac (b:=k == 5) kz (fun ae=>?_) (fun ae=>?_)
 ·
  have ar:k = 5:=by simpa using ae
  refine qas [(2,.v (.int .i64 2))] hW ac fun aA aj=>?_
  refine wp_ret (qaW (qaC (qaD aj hW.cells (v:=.int .i64 2) kz ?_)))
  exact ⟨by simp_all [qbz],hW.step⟩
 have au:k ≠ 5:=by simpa using ae
 refine qas [(9,.v (.bool (k == 3)))] hW ac fun aB af=>?_
 refine qax af (b:=k == 3) kz (fun ag=>?_) (fun ag=>?_)
 ·
  have av:k = 3:=by simpa using ag
  refine qas [(2,.v (.int .i64 4))] hW af fun aC ak=>?_
  refine wp_ret (qaW (qaC (qaD ak hW.cells (v:=.int .i64 4) kz ?_)))
  exact ⟨by simp_all [qbz],hW.step⟩
 have aw:k ≠ 3:=by simpa using ag
 refine wp_skip (qaE (qaa (qas [(2,.v (.int .i64 8))] hW af fun aD al=>?_)))
 refine wp_ret (qaD al hW.cells (v:=.int .i64 8) kz ?_)
 exact ⟨by simp_all [qbz],hW.step⟩
theorem qjY (A:Option Addr) (c:Nat) (s:Bs) (hc:s.length ≤ c) (w:World) :
  Calls Tryz.prog 87 #[.slice A s.length c] w (qcF w (.slice A (qaB s).length c)):=by
 refine enter (n:=8) Tryz.func87 rfl Tryz.ntmps87 kz fun a hE=>?_
 have hW:=WOk.start w Nil
 refine qas [(0,.v (.slice A s.length c))] hW hE fun a1 hE2=>?_
 refine qae [0,1,2,3,4,5] kz ?_
 refine qaj [0,1,2,3] [4,5] [(3,.v (.slice A s.length c)),(6,.v (.int .i64 (if 32767 < ((s.length:Nat):Int) then 32767 else ((s.length:Nat):Int))))] hW hE2 fun a3 hE4=>?_
 refine qam (qbD hE4 (t:=24) (A:=A) (m:=s.length) (cp:=c) (q:=(if 32767 < ((s.length:Nat):Int) then 32767 else ((s.length:Nat):Int))) (d:=7) (j:=(qaB s).length) kz (e:=5) (size:=1) (bytes:=1) kz (by simpa [qaB] using qhl s.length) (by simp only [qaB,List.length_take]; omega) fun a5 hE6=>?_)
 refine qaj [5] [] [(2,.v (.slice A ((qaB s).length) c))] hW hE6 fun a7 hE8=>?_
 refine qaf (qaa ?_)
 refine wp_ret (qaD hE8 hW.cells (v:=.slice A ((qaB s).length) c) kz ?_)
 exact ⟨rfl,hW.step⟩
theorem qlC (A:Option Addr) (c:Nat) (s:List Tree) (hc:s.length ≤ c) (w:World) :
  Calls Tryz.prog 109 #[.slice A s.length c] w (qcF w (.slice A (qaw s).length c)):=by
 refine enter (n:=8) Tryz.func109 rfl Tryz.ntmps109 kz fun a hE=>?_
 have hW:=WOk.start w Nil
 refine qas [(0,.v (.slice A s.length c))] hW hE fun a1 hE2=>?_
 refine qae [0,1,2,3,4,5] kz ?_
 refine qaj [0,1,2,3] [4,5] [(3,.v (.slice A s.length c)),(6,.v (.int .i64 (if 32767 < ((s.length:Nat):Int) then 32767 else ((s.length:Nat):Int))))] hW hE2 fun a3 hE4=>?_
 refine qam (qbD hE4 (t:=25) (A:=A) (m:=s.length) (cp:=c) (q:=(if 32767 < ((s.length:Nat):Int) then 32767 else ((s.length:Nat):Int))) (d:=7) (j:=(qaw s).length) kz (e:=28) (size:=5) (bytes:=88) kz (by simpa [qaw] using qhl s.length) (by simp only [qaw,List.length_take]; omega) fun a5 hE6=>?_)
 refine qaj [5] [] [(2,.v (.slice A ((qaw s).length) c))] hW hE6 fun a7 hE8=>?_
 refine qaf (qaa ?_)
 refine wp_ret (qaD hE8 hW.cells (v:=.slice A ((qaw s).length) c) kz ?_)
 exact ⟨rfl,hW.step⟩
theorem qlD (A A':Option Addr) (c c':Nat) (s t:Bs) (w:World) (F:Nat → Nat → Prop) (hs:Octs w F A c s) (ht:Octs w F A' c' t) :
  Calls Tryz.prog 17 #[.slice A s.length c,.slice A' t.length c'] w (qcF w (.bool (decide (s = t)))):=by
 refine enter (n:=26) Tryz.func17 rfl Tryz.ntmps17 kz fun a hE=>?_
 have hW:=WOk.start w Nil
 have hl:=Slots.small hs
 refine qas [(0,.v (.slice A s.length c)),(1,.v (.slice A' t.length c'))] hW hE fun a1 hE2=>?_
 refine wp_seq (qas [(0,.v (.slice A s.length c)),(1,.v (.slice A' t.length c')),(10,.v (.bool (((s.length:Nat):Int) != ((t.length:Nat):Int))))] hW hE2 fun a3 hE4=>?_)
 refine qax hE4 (b:=((s.length:Nat):Int) != ((t.length:Nat):Int)) kz (fun hc5=>?_) (fun hc5=>?_)
 ·
  have hf6:((s.length:Nat):Int) ≠ ((t.length:Nat):Int):=by simpa using hc5
  refine qas [(4,.v (.bool false))] hW hE4 fun a7 hE8=>?_
  refine wp_ret (qaC (qaD hE8 hW.cells (v:=.bool false) kz ?_))
  exact ⟨by first | rw [← qgg hq (by omega) hlen] | rw [← qhn ‹_›] | rw [← qgf ‹_›],hW.step⟩
 have hf9:((s.length:Nat):Int) = ((t.length:Nat):Int):=by simpa using hc5
 refine wp_skip (qaa (wp_seq (qas [(0,.v (.slice A s.length c)),(1,.v (.slice A' t.length c')),(12,.v (.int .i64 ((s.length:Nat):Int))),(13,.v (.int .i64 0))] hW hE4 fun aP ak=>?_)))
 refine wp_block ?_
 have hlen:s.length = t.length:=by omega
 refine wp_loop_ghost (fun n_ a_ w_=>∃ (k:Nat),n_ = s.length - k ∧ k ≤ s.length ∧ (s.take k = t.take k) ∧ LInv hW 26 [] [] [(0,.v (.slice A s.length c)),(1,.v (.slice A' t.length c')),(12,.v (.int .i64 ((s.length:Nat):Int))),(13,.v (.int .i64 ((k:Nat):Int)))] a_ w_) (s.length) ⟨0,by omega,by omega,rfl,ak.pk,hW,Fr.refl _ _ _⟩ ?_
 rintro aQ aR aS ⟨k,aD,aE,hq,al,ab,am⟩
 refine qas [(0,.v (.slice A s.length c)),(1,.v (.slice A' t.length c')),(12,.v (.int .i64 ((s.length:Nat):Int))),(13,.v (.int .i64 ((k:Nat):Int))),(14,.v (.bool (decide (((k:Nat):Int) < ((s.length:Nat):Int)))))] ab al fun aT ac=>?_
 refine wp_seq (qax ac (b:=decide (((k:Nat):Int) < ((s.length:Nat):Int))) kz (fun ae=>?_) (fun ae=>?_))
 ·
  have aF:=of_decide_eq_true ae
  refine wp_skip (qaa (wp_seq (wp_block (qas [(0,.v (.slice A s.length c)),(1,.v (.slice A' t.length c')),(5,.v (.int .i64 ((k:Nat):Int))),(12,.v (.int .i64 ((s.length:Nat):Int))),(13,.v (.int .i64 ((k:Nat):Int)))] ab ac fun aU ao=>?_))))
  refine qcf kz ab fun aV ap aa=>?_
  refine qaY [0,1,4,5] [(0,.v (.slice A s.length c)),(1,.v (.slice A' t.length c')),(12,.v (.int .i64 ((s.length:Nat):Int))),(13,.v (.int .i64 ((k:Nat):Int))),(16,.v (.slice A s.length c)),(17,.v (.int .i64 ((k:Nat):Int))),(20,.v (.slice A' t.length c')),(21,.v (.int .i64 ((k:Nat):Int)))] 5 (qad (qai (qad (qad (qai (qad qah)))))) (fun _ h=>h ▸ aa.cells) rfl ao fun aW ar=>?_
  obtain ⟨aG,aH,au,aI,ah⟩:=Slots.get hs (i:=k) (by omega)
  refine qbc ar (i:=2) (t:=24) (A:=A) (m:=s.length) (q:=((k:Nat):Int)) (d:=18) kz (e:=5) (size:=1) (bytes:=1) kz au rfl (by omega) kz kz (qad (qai (qad (qad (qai (qad qah)))))) rfl fun aX av=>?_
  refine qba av (i:=3) (t:=5) (b:=aG) (o:=aH + k * 1) (d:=19) kz (cs:=[.int .u8 ((s.getD k 0).toNat:Int)]) (v:=.int .u8 ((s.getD k 0).toNat:Int)) kz (fun w' h'=>h' ▸ (AtF.move ah aa.step nilM qbf).at_) kz kz (qad (qai (qad (qad (qai (qad qah)))))) rfl fun aY aw=>?_
  obtain ⟨aJ,aK,ax,aL,ai⟩:=Slots.get ht (i:=k) (by omega)
  refine qbc aw (i:=6) (t:=24) (A:=A') (m:=t.length) (q:=((k:Nat):Int)) (d:=22) kz (e:=5) (size:=1) (bytes:=1) kz ax rfl (by omega) kz kz (qad (qai (qad (qad (qai (qad qah)))))) rfl fun aZ ay=>?_
  refine qba ay (i:=7) (t:=5) (b:=aJ) (o:=aK + k * 1) (d:=23) kz (cs:=[.int .u8 ((t.getD k 0).toNat:Int)]) (v:=.int .u8 ((t.getD k 0).toNat:Int)) kz (fun w' h'=>h' ▸ (AtF.move ai aa.step nilM qbf).at_) kz kz (qad (qai (qad (qad (qai (qad qah)))))) rfl fun ba az=>?_
  refine qaY [8] [(0,.v (.slice A s.length c)),(1,.v (.slice A' t.length c')),(12,.v (.int .i64 ((s.length:Nat):Int))),(13,.v (.int .i64 ((k:Nat):Int))),(24,.v (.bool (((s.getD k 0).toNat:Int) != ((t.getD k 0).toNat:Int))))] 0 (qad (qai (qad (qad (qai (qad qah)))))) (fun _ h=>h ▸ aa.cells) rfl az fun bd af=>?_
  refine qaX kz ?_ _
  refine qaa (qax af (b:=((s.getD k 0).toNat:Int) != ((t.getD k 0).toNat:Int)) kz (fun ag=>?_) (fun ag=>?_))
  ·
   have aM:((s.getD k 0).toNat:Int) ≠ ((t.getD k 0).toNat:Int):=by simpa using ag
   refine qas [(4,.v (.bool false))] aa af fun bf aA=>?_
   refine wp_ret (qaW (qaC (qaC (qaW (qaC (qaD aA aa.cells (v:=.bool false) kz ?_))))))
   exact ⟨by first | rw [← qgg hq (by omega) hlen] | rw [← qhn ‹_›] | rw [← qgf ‹_›],aa.step⟩
  have aN:((s.getD k 0).toNat:Int) = ((t.getD k 0).toNat:Int):=by simpa using ag
  refine wp_skip (qaE (qaa (qar [0,1] kz ?_)))
  refine qaj [0,1] [] [(0,.v (.slice A s.length c)),(1,.v (.slice A' t.length c')),(12,.v (.int .i64 ((s.length:Nat):Int))),(13,.v (.int .i64 (IntKind.i64.wrap (((k:Nat):Int) + 1))))] aa af fun bg aj=>?_
  refine qaf (qaa ?_)
  have aB:IntKind.i64.wrap (((k:Nat):Int) + 1) = ((k + 1:Nat):Int):=qbh (by omega)
  rw [aB] at aj
  exact ⟨s.length - (k + 1),by omega,k + 1,rfl,by omega,qi3 hq (by omega) hlen ‹_›,aj.pk,aa,(am.trans ap)⟩
 have aO:=of_decide_eq_false ae
 refine wp_exit (qaz (qaz (qaQ (qaa (qas [(4,.v (.bool true))] ab ac fun bh aC=>?_)))))
 refine wp_ret (qaD aC ab.cells (v:=.bool true) kz ?_)
 exact ⟨by first | rw [← qgg hq (by omega) hlen] | rw [← qhn ‹_›] | rw [← qgf ‹_›],ab.step⟩
theorem sAt (ct:List Value) (t:Tree) (i:Nat) (w:World) (F:Nat → Nat → Prop) (ht:TreeR w F ct t) :
  Calls Tryz.prog 82 #[.agg ct.toArray,.int .i64 (i:Int)] w (ql0 w F (t.at_ i)):=by
 obtain ⟨n1,s2,b3,l4,u5,A6,c7,A8,c9,aO,aP,aQ,rfl,rfl,aR,aJ,aS,bp⟩:=ht.open_
 have aK:=aR.small
 have aL:=aJ.small
 refine enter (n:=16) Tryz.func82 rfl Tryz.ntmps82 kz fun a hE=>?_
 have hW:=WOk.start w Nil
 refine qae [0,1] kz ?_
 refine qam (qbk hW hE (d:=2) (cs:=(z10 n1 A6 s2.length c7 b3 A8 l4.length c9 aO u5.length aP)) kz fun bq bt bu aT aU aV az aA=>?_)
 refine qam (qa9 az aA (d:=4) (cs:=[.int .i64 0,.slice none 0 0,.bool false,.slice none 0 0,.slice none 0 0]) kz fun bw bx bz aW aX aY aa aB=>?_)
 refine qaf (qaa ?_)
 refine wp_seq (qas [(1,.v (.int .i64 ((i:Nat):Int))),(2,.p 0 0),(4,.p 1 0),(9,.v (.bool (decide (((i:Nat):Int) < ((l4.length:Nat):Int)))))] aa aB fun bA ae=>?_)
 refine qax ae (b:=decide (((i:Nat):Int) < ((l4.length:Nat):Int))) kz (fun af=>?_) (fun af=>?_)
 ·
  have aZ:=of_decide_eq_true af
  refine qae [0,1,2,3,4,5] kz ?_
  refine qaj [0,1,2] [3,4,5] [(4,.p 1 0),(11,.v (.slice A8 l4.length c9)),(12,.v (.int .i64 ((i:Nat):Int)))] aa ae fun bB aC=>?_
  obtain ⟨ba,bd,aD,bf,ab⟩:=Slots.get aJ (i:=i) (by omega)
  obtain ⟨bg,ah⟩:∃ x,l4[i]? = some x:=⟨_,List.getElem?_eq_getElem (by omega)⟩
  have ag:=aS i bg ah
  obtain ⟨ak,al,am,ao,ap,ar,au,av,aw,ax,ay,bh,rfl,ac,bi,bj,bC,bD⟩:=ag.open_
  rw [ac] at ag
  have aM:=bi.small
  have aN:=bj.small
  rw [ac] at ab
  refine qam (qay aC (t:=25) (A:=A8) (m:=l4.length) (q:=((i:Nat):Int)) (d:=13) kz (e:=28) (size:=5) (bytes:=88) kz aD rfl (by omega) fun bE aE=>?_)
  refine qam (qaH aE (t:=28) (b:=ba) (o:=bd + i * 5) (d:=14) kz (cs:=(z10 ak ar al.length au am av ao.length aw ax ap.length ay)) (v:=.agg #[.int .i64 ak,.slice ar al.length au,.bool am,.slice av ao.length aw,.slice ax ap.length ay]) kz (AtF.move ab aa.step nilM qbf).at_ fun bF aF=>?_)
  refine qam (qaI aa aF (oi:=1) (cs:=(z10 ak ar al.length au am av ao.length aw ax ap.length ay)) kz fun bG bk ai aG=>?_)
  refine qaf (qaa ?_)
  refine wp_ret (qaC (qaD aG ai.cells (v:=.agg #[.int .i64 ak,.slice ar al.length au,.bool am,.slice av ao.length aw,.slice ax ap.length ay]) kz ?_))
  exact ⟨_,rfl,by rw [qlp ah]; exact ag,ai.step⟩
 have bn:=of_decide_eq_false af
 refine wp_skip (qaa (qae [0,1] kz ?_))
 refine qaj [0] [1] [(4,.p 1 0),(15,.v (.agg #[.int .i64 0,.slice none 0 0,.bool false,.slice none 0 0,.slice none 0 0]))] aa ae fun bH aH=>?_
 refine qam (qaI aa aH (oi:=1) (cs:=[.int .i64 0,.slice none 0 0,.bool false,.slice none 0 0,.slice none 0 0]) kz fun bI bo aj aI=>?_)
 refine qaf (qaa ?_)
 refine wp_ret (qaD aI aj.cells (v:=.agg #[.int .i64 0,.slice none 0 0,.bool false,.slice none 0 0,.slice none 0 0]) kz ?_)
 exact ⟨_,rfl,by rw [qlq (by omega)]; exact TreeR.zero _ _,aj.step⟩
theorem qcR (x:Int) (size:Nat) (hsz:size ≤ 8) (w:World) :
  Calls Tryz.prog 46 #[.int .i64 x,.int .i64 ((size:Nat):Int)] w (qdP w 5 (be size x)):=by
 refine enter (n:=22) Tryz.func46 rfl Tryz.ntmps46 kz fun a hE=>?_
 have hW:=WOk.start w Nil
 refine qas [(0,.v (.int .i64 x)),(1,.v (.int .i64 ((size:Nat):Int)))] hW hE fun a1 hE2=>?_
 refine qas [(0,.v (.int .i64 x)),(1,.v (.int .i64 ((size:Nat):Int))),(5,.v (.slice none 0 0))] hW hE2 fun a3 hE4=>?_
 refine wp_seq (qas [(0,.v (.int .i64 x)),(5,.v (.slice none 0 0)),(6,.v (.int .i64 (IntKind.i64.wrap (((size:Nat):Int) - 1))))] hW hE4 fun a5 hE6=>?_)
 refine wp_block ?_
 have hW7:=hW.addNil 5 1
 have hF8:=hW.frNil 5 1
 have aj:IntKind.i64.wrap (((size:Nat):Int) - 1) = ((size:Nat):Int) - 1 - ((0:Nat):Int):=by rw [wrap_i64 (by omega) (by omega)]; omega
 rw [aj] at hE6
 refine wp_loop_ghost (fun n_ a_ w_=>∃ (k:Nat) (A:Option Addr) (c:Nat),n_ = size - k ∧ k ≤ size ∧ LInv hW7 22 [] [brow A c 5 ((be size x).take k)] [(0,.v (.int .i64 x)),(5,.v (.slice A (((be size x).take k).length) c)),(6,.v (.int .i64 (((size:Nat):Int) - 1 - ((k:Nat):Int))))] a_ w_) (size) ⟨0,none,0,by omega,by omega,hE6.pk,hW7,Fr.refl _ _ _⟩ ?_
 rintro n9 aK aL ⟨k,A,c,aG,aH,ak,aa,al⟩
 refine wp_seq (qas [(0,.v (.int .i64 x)),(5,.v (.slice A (((be size x).take k).length) c)),(6,.v (.int .i64 (((size:Nat):Int) - 1 - ((k:Nat):Int)))),(10,.v (.bool (decide ((((size:Nat):Int) - 1 - ((k:Nat):Int)) ≥ 0))))] aa ak fun aM ae=>?_)
 refine qax ae (b:=decide ((((size:Nat):Int) - 1 - ((k:Nat):Int)) ≥ 0)) kz (fun af=>?_) (fun af=>?_)
 ·
  have aI:=of_decide_eq_true af
  refine wp_skip (qaa (wp_seq (wp_block (qar [0,1,2,3,4,5,6,7,8] kz ?_))))
  refine qaj [0,1,2,3] [4,5,6,7,8] [(0,.v (.int .i64 x)),(6,.v (.int .i64 (((size:Nat):Int) - 1 - ((k:Nat):Int)))),(13,.v (.slice A (((be size x).take k).length) c)),(14,.v (.int .i64 x)),(16,.v (.int .i64 (IntKind.i64.wrap (8 * (((size:Nat):Int) - 1 - ((k:Nat):Int))))))] aa ae fun aN am=>?_
  refine qam (qkp am (k:=.i64) (p:=x) (q:=(IntKind.i64.wrap (8 * (((size:Nat):Int) - 1 - ((k:Nat):Int))))) (d:=17) (j:=8 * (size - 1 - k)) kz (by rw [wrap_i64 (by omega) (by omega)]; omega) (by simp only [IntKind.bits]; omega) fun aO ao=>?_)
  refine qaj [5] [6,7,8] [(0,.v (.int .i64 x)),(6,.v (.int .i64 (((size:Nat):Int) - 1 - ((k:Nat):Int)))),(13,.v (.slice A (((be size x).take k).length) c)),(18,.v (.int .u8 (IntKind.u8.wrap (x / 2 ^ (8 * (size - 1 - k))))))] aa ao fun aP ap=>?_
  refine qbu aa ap (k:=0) (e:=5) (size:=1) (len:=1) (cs:=[.int .u8 (IntKind.u8.wrap (x / 2 ^ (8 * (size - 1 - k))))]) (d1:=19) (d:=20) kz (t:=24) (bytes:=1) kz (fun _=>by kernel_rfl) rfl kz (by first | (have:=hroom; omega) | (simp; done) | (simp; omega)) fun ab ac aQ aR ar au ⟨_,av⟩=>?_
  have aw:(⟨ab,ac,5,1,((be size x).take k).length + 1,bc ((be size x).take k) ++ [.int .u8 (IntKind.u8.wrap (x / 2 ^ (8 * (size - 1 - k))))]⟩:Rw) = brow ab ac 5 ((be size x).take k ++ [by8 (x / 2 ^ (8 * (size - 1 - k)))]):=qa0 (by simp only [bc,List.map,qbC]; try rfl) rfl
  obtain ⟨ag,ax⟩:=au.rowEq 0 [brow ab ac 5 ((be size x).take k ++ [by8 (x / 2 ^ (8 * (size - 1 - k)))])] aw
  have ay:=EnvOk.pick av (ks:=[0,6,13,18,20]) (env':=[(0,.v (.int .i64 x)),(6,.v (.int .i64 (((size:Nat):Int) - 1 - ((k:Nat):Int)))),(13,.v (.slice A (((be size x).take k).length) c)),(18,.v (.int .u8 (IntKind.u8.wrap (x / 2 ^ (8 * (size - 1 - k)))))),(20,.v (.slice ab (((be size x).take k).length + 1) ac))]) kz
  have az:=ay.cast (env':=[(0,.v (.int .i64 x)),(6,.v (.int .i64 (((size:Nat):Int) - 1 - ((k:Nat):Int)))),(13,.v (.slice A (((be size x).take k).length) c)),(18,.v (.int .u8 (IntKind.u8.wrap (x / 2 ^ (8 * (size - 1 - k)))))),(20,.v (.slice ab (((be size x).take k ++ [by8 (x / 2 ^ (8 * (size - 1 - k)))]).length) ac))]) (by simp only [List.length_append,List.length_cons,List.length_nil,Nat.zero_add])
  refine qaj [8] [] [(0,.v (.int .i64 x)),(5,.v (.slice ab (((be size x).take k ++ [by8 (x / 2 ^ (8 * (size - 1 - k)))]).length) ac)),(6,.v (.int .i64 (((size:Nat):Int) - 1 - ((k:Nat):Int))))] ag az fun aS aA=>?_
  refine qaf (qaE (qaa (qar [0,1,2] kz ?_)))
  refine qaj [0,1,2] [] [(0,.v (.int .i64 x)),(5,.v (.slice ab (((be size x).take k ++ [by8 (x / 2 ^ (8 * (size - 1 - k)))]).length) ac)),(6,.v (.int .i64 (IntKind.i64.wrap ((((size:Nat):Int) - 1 - ((k:Nat):Int)) - 1))))] ag aA fun aT ah=>?_
  refine qaf (qaa ?_)
  have ai:((be size x).take k ++ [by8 (x / 2 ^ (8 * (size - 1 - k)))]) = ((be size x).take (k + 1)):=(qgL (by omega)).symm
  have aB:=congrArg (brow ab ac 5) ai
  obtain ⟨aC,aD⟩:=ag.rowEq 0 [brow ab ac 5 ((be size x).take (k + 1))] aB
  rw [ai] at ah
  have aE:IntKind.i64.wrap ((((size:Nat):Int) - 1 - ((k:Nat):Int)) - 1) = ((size:Nat):Int) - 1 - (((k + 1):Nat):Int):=by rw [wrap_i64 (by omega) (by omega)]; omega
  rw [aE] at ah
  exact ⟨size - (k + 1),by omega,k + 1,ab,ac,rfl,by omega,ah.pk,aC,(((al.trans ar).trans ax).trans aD)⟩
 have aJ:=of_decide_eq_false af
 refine wp_exit (qaz (qaz (qaQ (qaa (qas [(4,.v (.slice A (((be size x).take k).length) c))] aa ae fun aU aF=>?_)))))
 refine wp_ret (qaD aF aa.cells (v:=.slice A (((be size x).take k).length) c) kz ?_)
 exact qa4 aa (k:=0) rfl (List.take_of_length_le (by simp; omega))
theorem qeo (x:Nat) (hx:x < 18446744073709551616) (w:World) :
  Calls Tryz.prog 85 #[.int .u64 ((x:Nat):Int)] w (qdP w 5 (uv x)):=by
 refine enter (n:=20) Tryz.func85 rfl Tryz.ntmps85 kz fun a hE=>?_
 have hW:=WOk.start w Nil
 refine qas [(0,.v (.int .u64 ((x:Nat):Int)))] hW hE fun a1 hE2=>?_
 refine qas [(0,.v (.int .u64 ((x:Nat):Int))),(3,.v (.slice none 0 0))] hW hE2 fun a3 hE4=>?_
 refine wp_seq (wp_block ?_)
 have hW5:=hW.addNil 5 1
 have hF6:=hW.frNil 5 1
 refine wp_loop_ghost (fun n_ a_ w_=>∃ (A:Option Addr) (c:Nat) (pre:Bs) (m:Nat),n_ = m ∧ (pre ++ uv m = uv x) ∧ (m < 18446744073709551616) ∧ LInv hW5 20 [] [brow A c 5 pre] [(0,.v (.int .u64 ((m:Nat):Int))),(3,.v (.slice A pre.length c))] a_ w_) (x) ⟨none,0,[],x,rfl,rfl,hx,hE4.pk,hW5,Fr.refl _ _ _⟩ ?_
 rintro n7 a8 w9 ⟨A,c,pre,m,aM,hp,hm,am,aa,ao⟩
 refine wp_seq (qas [(0,.v (.int .u64 ((m:Nat):Int))),(3,.v (.slice A pre.length c)),(5,.v (.bool (decide (((m:Nat):Int) > 127))))] aa am fun aR ae=>?_)
 refine qax ae (b:=decide (((m:Nat):Int) > 127)) kz (fun af=>?_) (fun af=>?_)
 ·
  have aN:=of_decide_eq_true af
  refine wp_skip (qaa (wp_block (qae [0,1,2,3,4,5,6,7] kz ?_)))
  refine qaj [0,1,2,3,4] [5,6,7] [(0,.v (.int .u64 ((m:Nat):Int))),(6,.v (.slice A pre.length c)),(10,.v (.int .u8 (IntKind.u8.wrap (BitVec.ofInt 8 (IntKind.u8.wrap (IntKind.u64.wrap (BitVec.ofInt 64 ((m:Nat):Int) &&& BitVec.ofInt 64 127).toNat)) ||| BitVec.ofInt 8 128).toNat)))] aa ae fun aS ap=>?_
  refine qbu aa ap (k:=0) (e:=5) (size:=1) (len:=1) (cs:=[.int .u8 (IntKind.u8.wrap (BitVec.ofInt 8 (IntKind.u8.wrap (IntKind.u64.wrap (BitVec.ofInt 64 ((m:Nat):Int) &&& BitVec.ofInt 64 127).toNat)) ||| BitVec.ofInt 8 128).toNat)]) (d1:=11) (d:=12) kz (t:=24) (bytes:=1) kz (fun _=>by kernel_rfl) rfl kz (by have h1_:=qeS x hx; rw [← hp,List.length_append] at h1_; omega) fun ab ac aT aU ar au ⟨_,av⟩=>?_
  have aw:(⟨ab,ac,5,1,pre.length + 1,bc pre ++ [.int .u8 (IntKind.u8.wrap (BitVec.ofInt 8 (IntKind.u8.wrap (IntKind.u64.wrap (BitVec.ofInt 64 ((m:Nat):Int) &&& BitVec.ofInt 64 127).toNat)) ||| BitVec.ofInt 8 128).toNat)]⟩:Rw) = brow ab ac 5 (pre ++ [by8 (BitVec.ofInt 8 (IntKind.u8.wrap (IntKind.u64.wrap (BitVec.ofInt 64 ((m:Nat):Int) &&& BitVec.ofInt 64 127).toNat)) ||| BitVec.ofInt 8 128).toNat]):=qa0 (by simp only [bc,List.map,qbC]; try rfl) rfl
  obtain ⟨ag,ax⟩:=au.rowEq 0 [brow ab ac 5 (pre ++ [by8 (BitVec.ofInt 8 (IntKind.u8.wrap (IntKind.u64.wrap (BitVec.ofInt 64 ((m:Nat):Int) &&& BitVec.ofInt 64 127).toNat)) ||| BitVec.ofInt 8 128).toNat])] aw
  have ay:=EnvOk.pick av (ks:=[0,6,10,12]) (env':=[(0,.v (.int .u64 ((m:Nat):Int))),(6,.v (.slice A pre.length c)),(10,.v (.int .u8 (IntKind.u8.wrap (BitVec.ofInt 8 (IntKind.u8.wrap (IntKind.u64.wrap (BitVec.ofInt 64 ((m:Nat):Int) &&& BitVec.ofInt 64 127).toNat)) ||| BitVec.ofInt 8 128).toNat))),(12,.v (.slice ab (pre.length + 1) ac))]) kz
  have az:=ay.cast (env':=[(0,.v (.int .u64 ((m:Nat):Int))),(6,.v (.slice A pre.length c)),(10,.v (.int .u8 (IntKind.u8.wrap (BitVec.ofInt 8 (IntKind.u8.wrap (IntKind.u64.wrap (BitVec.ofInt 64 ((m:Nat):Int) &&& BitVec.ofInt 64 127).toNat)) ||| BitVec.ofInt 8 128).toNat))),(12,.v (.slice ab ((pre ++ [by8 (BitVec.ofInt 8 (IntKind.u8.wrap (IntKind.u64.wrap (BitVec.ofInt 64 ((m:Nat):Int) &&& BitVec.ofInt 64 127).toNat)) ||| BitVec.ofInt 8 128).toNat]).length) ac))]) (by simp only [List.length_append,List.length_cons,List.length_nil,Nat.zero_add])
  refine qaj [7] [] [(0,.v (.int .u64 ((m:Nat):Int))),(3,.v (.slice ab ((pre ++ [by8 (BitVec.ofInt 8 (IntKind.u8.wrap (IntKind.u64.wrap (BitVec.ofInt 64 ((m:Nat):Int) &&& BitVec.ofInt 64 127).toNat)) ||| BitVec.ofInt 8 128).toNat]).length) ac))] ag az fun aV aA=>?_
  refine qaf (qaa ?_)
  refine qar [0,1,2] kz ?_
  refine qaj [0,1,2] [] [(0,.v (.int .u64 (Int.fdiv ((m:Nat):Int) 128))),(3,.v (.slice ab ((pre ++ [by8 (BitVec.ofInt 8 (IntKind.u8.wrap (IntKind.u64.wrap (BitVec.ofInt 64 ((m:Nat):Int) &&& BitVec.ofInt 64 127).toNat)) ||| BitVec.ofInt 8 128).toNat]).length) ac))] ag aA fun aW ah=>?_
  refine qaf (qaE (qaa ?_))
  have al:(pre ++ [by8 (BitVec.ofInt 8 (IntKind.u8.wrap (IntKind.u64.wrap (BitVec.ofInt 64 ((m:Nat):Int) &&& BitVec.ofInt 64 127).toNat)) ||| BitVec.ofInt 8 128).toNat]) = (pre ++ [UInt8.ofNat (m % 128 + 128)]):=by rw [qkx m (by omega)]
  have aB:=congrArg (brow ab ac 5) al
  obtain ⟨aC,aD⟩:=ag.rowEq 0 [brow ab ac 5 (pre ++ [UInt8.ofNat (m % 128 + 128)])] aB
  rw [al] at ah
  have aE:Int.fdiv ((m:Nat):Int) 128 = ((m / 128:Nat):Int):=qlt m
  rw [aE] at ah
  exact ⟨m / 128,by omega,ab,ac,pre ++ [UInt8.ofNat (m % 128 + 128)],m / 128,rfl,by rw [← hp,qdQ (show 128 ≤ m by omega)]; simp,by omega,ah.pk,aC,(((ao.trans ar).trans ax).trans aD)⟩
 have aO:=of_decide_eq_false af
 refine wp_exit (qaz (qaz (qaQ (qaa (qae [0,1,2,3,4,5] kz ?_)))))
 refine qaj [0,1,2] [3,4,5] [(15,.v (.slice A pre.length c)),(17,.v (.int .u8 (IntKind.u8.wrap ((m:Nat):Int))))] aa ae fun aX aF=>?_
 refine qbu aa aF (k:=0) (e:=5) (size:=1) (len:=1) (cs:=[.int .u8 (IntKind.u8.wrap ((m:Nat):Int))]) (d1:=18) (d:=19) kz (t:=24) (bytes:=1) kz (fun _=>by kernel_rfl) rfl kz (by have h1_:=qeS x hx; rw [← hp,List.length_append] at h1_; omega) fun ai aj aY aZ aP aG ⟨_,aH⟩=>?_
 have aI:(⟨ai,aj,5,1,pre.length + 1,bc pre ++ [.int .u8 (IntKind.u8.wrap ((m:Nat):Int))]⟩:Rw) = brow ai aj 5 (pre ++ [by8 ((m:Nat):Int)]):=qa0 (by simp only [bc,List.map,qbC]; try rfl) rfl
 obtain ⟨ak,aQ⟩:=aG.rowEq 0 [brow ai aj 5 (pre ++ [by8 ((m:Nat):Int)])] aI
 have aJ:=EnvOk.pick aH (ks:=[15,17,19]) (env':=[(15,.v (.slice A pre.length c)),(17,.v (.int .u8 (IntKind.u8.wrap ((m:Nat):Int)))),(19,.v (.slice ai (pre.length + 1) aj))]) kz
 have aK:=aJ.cast (env':=[(15,.v (.slice A pre.length c)),(17,.v (.int .u8 (IntKind.u8.wrap ((m:Nat):Int)))),(19,.v (.slice ai ((pre ++ [by8 ((m:Nat):Int)]).length) aj))]) (by simp only [List.length_append,List.length_cons,List.length_nil,Nat.zero_add])
 refine qaj [5] [] [(2,.v (.slice ai ((pre ++ [by8 ((m:Nat):Int)]).length) aj))] ak aK fun ba aL=>?_
 refine qaf (qaa ?_)
 refine wp_ret (qaD aL ak.cells (v:=.slice ai ((pre ++ [by8 ((m:Nat):Int)]).length) aj) kz ?_)
 exact qa4 ak (k:=0) rfl (by rw [← hp,qb6 (show m < 128 by omega),qgk])
theorem qep (flex null:Bool) (m sz:Nat) (hm:m ≤ 1099511627776) (hsz:sz ≤ 8) (w:World) :
  Calls Tryz.prog 110 #[.bool flex,.bool null,.int .i64 ((m:Nat):Int),.int .i64 ((sz:Nat):Int)] w (qdP w 5 (qao flex null m sz)):=by
 refine enter (n:=28) Tryz.func110 rfl Tryz.ntmps110 kz fun a hE=>?_
 have hW:=WOk.start w Nil
 refine qas [(0,.v (.bool flex)),(1,.v (.bool null)),(2,.v (.int .i64 ((m:Nat):Int))),(3,.v (.int .i64 ((sz:Nat):Int)))] hW hE fun a1 hE2=>?_
 refine wp_seq (wp_block (qae [0,1,2,3,4] kz ?_))
 refine qaj [0,1] [2,3,4] [(0,.v (.bool flex)),(1,.v (.bool null)),(2,.v (.int .i64 ((m:Nat):Int))),(3,.v (.int .i64 ((sz:Nat):Int))),(11,.v (.bool flex))] hW hE2 fun a3 hE4=>?_
 refine (Bool.eq_false_or_eq_true (flex)).elim (fun hc5=>?_) (fun hc5=>?_)
 ·
  have hE7:=hE4.cast (env':=[(0,.v (.bool true)),(1,.v (.bool null)),(2,.v (.int .i64 ((m:Nat):Int))),(3,.v (.int .i64 ((sz:Nat):Int))),(11,.v (.bool true))]) (by rw [hc5])
  refine qaj [2,3,4] [] [(0,.v (.bool true)),(1,.v (.bool null)),(2,.v (.int .i64 ((m:Nat):Int))),(3,.v (.int .i64 ((sz:Nat):Int))),(9,.v (.bool null))] hW hE7 fun a8 hE9=>?_
  refine qaf (qaa ?_)
  refine qax hE9 (b:=null) kz (fun aa=>?_) (fun aa=>?_)
  ·
   refine qae [0,1] kz ?_
   refine qam (qd9 hW hE9 (e:=5) (size:=1) (len:=1) (cs:=[.int .u8 0]) (d:=14) kz kz fun ab bf bg aV aW aX am ao=>?_)
   have ap:(⟨some ⟨ab,0,none⟩,1,5,1,1,[.int .u8 0]⟩:Rw) = brow (some ⟨ab,0,none⟩) 1 5 [by8 0]:=by first | rfl | (simp only [brow,bc,List.map,qbC]; try rfl)
   obtain ⟨ac,aY⟩:=am.rowEq 0 [brow (some ⟨ab,0,none⟩) 1 5 [by8 0]] ap
   have ar:=EnvOk.pick ao (ks:=[0,1,2,3,9,14]) (env':=[(0,.v (.bool true)),(1,.v (.bool null)),(2,.v (.int .i64 ((m:Nat):Int))),(3,.v (.int .i64 ((sz:Nat):Int))),(9,.v (.bool null)),(14,.v (.slice (some ⟨ab,0,none⟩) 1 1))]) kz
   have au:=ar.cast (env':=[(0,.v (.bool true)),(1,.v (.bool null)),(2,.v (.int .i64 ((m:Nat):Int))),(3,.v (.int .i64 ((sz:Nat):Int))),(9,.v (.bool null)),(14,.v (.slice (some ⟨ab,0,none⟩) ([by8 0].length) 1))]) rfl
   refine qaj [1] [] [(8,.v (.slice (some ⟨ab,0,none⟩) ([by8 0].length) 1))] ac au fun bh av=>?_
   refine qaf (qaa ?_)
   refine wp_ret (qaW (qaC (qaD av ac.cells (v:=.slice (some ⟨ab,0,none⟩) ([by8 0].length) 1) kz ?_)))
   exact qa4 ac (k:=0) rfl (by simp [qao,hc5,aa]; try rfl)
  refine qas [(1,.v (.bool null)),(2,.v (.int .i64 ((m:Nat):Int))),(3,.v (.int .i64 ((sz:Nat):Int))),(15,.v (.bool true))] hW hE9 fun bi aj=>?_
  refine qbF aj (b:=true) kz rfl ?_
  refine qae [0,1,2,3,4] kz ?_
  refine qaj [0,1,2] [3,4] [(19,.v (.int .u64 (IntKind.u64.wrap ((IntKind.u64.wrap ((m:Nat):Int)) + 1))))] hW aj fun bj aw=>?_
  have ax:IntKind.u64.wrap ((IntKind.u64.wrap ((m:Nat):Int)) + 1) = ((m + 1:Nat):Int):=by simp only [qaF,qaq,qbS,IntKind.wrap_i64,IntKind.wrap_i32]; omega
  have ay:=EnvOk.pick aw (ks:=[19]) (env':=[(19,.v (.int .u64 (IntKind.u64.wrap ((IntKind.u64.wrap ((m:Nat):Int)) + 1))))]) kz
  have az:=ay
  rw [ax] at az
  refine qam (qal az (f:=85) (vs:=[.int .u64 ((m + 1:Nat):Int)]) (d:=20) kz Tryz.call85 (qeo (m + 1) (by omega) _) ?_)
  rintro e_ bk ⟨aA,aB,rfl,aC,aD⟩
  refine ⟨_,rfl,fun bn aE=>?_⟩
  obtain ⟨ae,aZ⟩:=hW.frFresh aD (brow aA aB 5 (uv (m + 1))) (Nat.le_refl _) aC
  refine qaj [4] [] [(8,.v (.slice aA ((uv (m + 1)).length) aB))] ae aE fun bo aF=>?_
  refine qaf (qaa ?_)
  refine wp_ret (qaW (qaC (qaD aF ae.cells (v:=.slice aA ((uv (m + 1)).length) aB) kz ?_)))
  exact qa4 ae (k:=0) rfl (by simp [qao,hc5,aa]; try rfl)
 have aG:=hE4.cast (env':=[(0,.v (.bool false)),(1,.v (.bool null)),(2,.v (.int .i64 ((m:Nat):Int))),(3,.v (.int .i64 ((sz:Nat):Int))),(11,.v (.bool false))]) (by rw [hc5])
 refine qaj [2,3,4] [] [(0,.v (.bool false)),(1,.v (.bool null)),(2,.v (.int .i64 ((m:Nat):Int))),(3,.v (.int .i64 ((sz:Nat):Int))),(9,.v (.bool false))] hW aG fun bp ak=>?_
 refine qaf (qaa ?_)
 refine qau ak (b:=false) kz rfl ?_
 refine qas [(1,.v (.bool null)),(2,.v (.int .i64 ((m:Nat):Int))),(3,.v (.int .i64 ((sz:Nat):Int))),(15,.v (.bool false))] hW ak fun bq al=>?_
 refine qau al (b:=false) kz rfl ?_
 refine qas [(2,.v (.int .i64 ((m:Nat):Int))),(3,.v (.int .i64 ((sz:Nat):Int))),(21,.v (.bool null))] hW al fun bt af=>?_
 refine qax af (b:=null) kz (fun ag=>?_) (fun ag=>?_)
 ·
  refine qae [0,1,2] kz ?_
  refine qaj [0] [1,2] [(23,.v (.int .i64 ((sz:Nat):Int)))] hW af fun bu aH=>?_
  refine qam (qal aH (f:=46) (vs:=[.int .i64 (-1),.int .i64 ((sz:Nat):Int)]) (d:=24) kz Tryz.call46 (qcR (-1) sz (by first | decide | exact qa8 _ | omega) _) ?_)
  rintro e_ bw ⟨aI,aJ,rfl,aK,aL⟩
  refine ⟨_,rfl,fun bx aM=>?_⟩
  obtain ⟨ah,ba⟩:=hW.frFresh aL (brow aI aJ 5 (be sz (-1))) (Nat.le_refl _) aK
  refine qaj [2] [] [(8,.v (.slice aI ((be sz (-1)).length) aJ))] ah aM fun bz aN=>?_
  refine qaf (qaa ?_)
  refine wp_ret (qaW (qaC (qaD aN ah.cells (v:=.slice aI ((be sz (-1)).length) aJ) kz ?_)))
  exact qa4 ah (k:=0) rfl (by simp [qao,hc5,ag]; try rfl)
 refine wp_skip (qaE (qaa (qae [0,1,2,3] kz ?_)))
 refine qaj [0,1] [2,3] [(25,.v (.int .i64 ((m:Nat):Int))),(26,.v (.int .i64 ((sz:Nat):Int)))] hW af fun bA aO=>?_
 refine qam (qal aO (f:=46) (vs:=[.int .i64 ((m:Nat):Int),.int .i64 ((sz:Nat):Int)]) (d:=27) kz Tryz.call46 (qcR ((m:Nat):Int) sz (by first | decide | exact qa8 _ | omega) _) ?_)
 rintro e_ bB ⟨aP,aQ,rfl,aR,aS⟩
 refine ⟨_,rfl,fun bC aT=>?_⟩
 obtain ⟨ai,bd⟩:=hW.frFresh aS (brow aP aQ 5 (be sz ((m:Nat):Int))) (Nat.le_refl _) aR
 refine qaj [3] [] [(8,.v (.slice aP ((be sz ((m:Nat):Int)).length) aQ))] ai aT fun bD aU=>?_
 refine qaf (qaa ?_)
 refine wp_ret (qaD aU ai.cells (v:=.slice aP ((be sz ((m:Nat):Int)).length) aQ) kz ?_)
 exact qa4 ai (k:=0) rfl (by simp [qao,hc5,ag]; try rfl)
abbrev z20 :=([.int .i64 0,.int .i64 0,.int .i64 0,.int .i64 0,.int .i64 0,.int .i64 0,.int .i64 0,.slice none 0 0]:List Value)
theorem qle (A:Option Addr) (c:Nat) (l:List Fld) (w:World) (F:Nat → Nat → Prop) (hl:FldsR w F A c l) :
  Calls Tryz.prog 83 #[.slice A l.length c] w (qcF w (.int .u32 (qat l))):=by
 obtain ⟨xfs,h1,h2⟩:=hl.ex
 have hsm:=h1.small
 refine enter (n:=23) Tryz.func83 rfl Tryz.ntmps83 kz fun a hE=>?_
 have hW:=WOk.start w Nil
 refine qas [(0,.v (.slice A l.length c))] hW hE fun a1 hE2=>?_
 refine qas [(0,.v (.slice A l.length c)),(3,.v (.int .u32 0))] hW hE2 fun a3 hE4=>?_
 refine wp_seq (qas [(3,.v (.int .u32 0)),(6,.v (.slice A l.length c)),(7,.v (.int .i64 ((l.length:Nat):Int))),(8,.v (.int .i64 0))] hW hE4 fun a5 hE6=>?_)
 refine wp_block (wp_loop_ghost (fun n_ a_ w_=>∃ (k:Nat),n_ = l.length - k ∧ k ≤ l.length ∧ LInv hW 23 [] [] [(3,.v (.int .u32 (qat (l.take k)))),(6,.v (.slice A l.length c)),(7,.v (.int .i64 ((l.length:Nat):Int))),(8,.v (.int .i64 ((k:Nat):Int)))] a_ w_) (l.length) ⟨0,by omega,by omega,hE6.pk,hW,Fr.refl _ _ _⟩ ?_)
 rintro n7 a8 w9 ⟨k,ba,bd,av,aa,ao⟩
 refine qas [(3,.v (.int .u32 (qat (l.take k)))),(6,.v (.slice A l.length c)),(7,.v (.int .i64 ((l.length:Nat):Int))),(8,.v (.int .i64 ((k:Nat):Int))),(9,.v (.bool (decide (((k:Nat):Int) < ((l.length:Nat):Int)))))] aa av fun bt ag=>?_
 refine wp_seq (qax ag (b:=decide (((k:Nat):Int) < ((l.length:Nat):Int))) kz (fun ah=>?_) (fun ah=>?_))
 ·
  have bf:=of_decide_eq_true ah
  refine wp_skip (qaa (wp_seq (wp_block (qae [0,1,2,3] kz ?_))))
  obtain ⟨bg,bh,aw,bi,ae⟩:=Slots.get h1 (i:=k) (by omega)
  obtain ⟨bj,ai⟩:∃ x,l[k]? = some x:=⟨_,List.getElem?_eq_getElem (by omega)⟩
  have ap:=h2 k bj ai
  obtain ⟨ax,ay,az,aA,ab,aB,aC,aD,aE,aF,bk,rfl,af,bn,bu⟩:=ap.open_
  rw [af] at ap
  have aZ:=bn.small
  rw [af] at ae
  refine qam (qay ag (t:=32) (A:=A) (m:=l.length) (q:=((k:Nat):Int)) (d:=10) kz (e:=50) (size:=8) (bytes:=80) kz aw rfl (by omega) fun bw aG=>?_)
  refine qam (qaH aG (t:=50) (b:=bg) (o:=bh + k * 8) (d:=11) kz (cs:=(z6 ax ay az aA ab aB aC aE aD.length aF)) (v:=.agg #[.int .i64 ax,.int .i64 ay,.int .i64 az,.int .i64 aA,.int .i64 ab,.int .i64 aB,.int .i64 aC,.slice aE aD.length aF]) kz (AtF.move ae aa.step nilM qbf).at_ fun bx aH=>?_)
  refine qam (qa9 aa aH (d:=5) (cs:=z20) kz fun bz bA bB bo bp ar aI aJ=>?_)
  refine qam (qaI aI aJ (oi:=0) (cs:=(z6 ax ay az aA ab aB aC aE aD.length aF)) kz fun bC au ac aK=>?_)
  refine qaf (qaa ?_)
  refine qas [(3,.v (.int .u32 (qat (l.take k)))),(5,.p 0 0),(6,.v (.slice A l.length c)),(7,.v (.int .i64 ((l.length:Nat):Int))),(8,.v (.int .i64 ((k:Nat):Int))),(14,.v (.bool (decide (ab ≥ 0))))] ac aK fun bD aj=>?_
  refine qax aj (b:=decide (ab ≥ 0)) kz (fun ak=>?_) (fun ak=>?_)
  ·
   have aL:=of_decide_eq_true ak
   refine qar [0,1,2,3,4,5,6] kz ?_
   refine qaj [0,1,2,3,4,5,6] [] [(3,.v (.int .u32 (if IntKind.u32.wrap ((IntKind.u32.wrap ab) + 1) > qat (l.take k) then IntKind.u32.wrap ((IntKind.u32.wrap ab) + 1) else qat (l.take k)))),(6,.v (.slice A l.length c)),(7,.v (.int .i64 ((l.length:Nat):Int))),(8,.v (.int .i64 ((k:Nat):Int)))] ac aj fun bE aM=>?_
   refine qaf (qaE (qaa (qar [0,1] kz ?_)))
   refine qaj [0,1] [] [(3,.v (.int .u32 (if IntKind.u32.wrap ((IntKind.u32.wrap ab) + 1) > qat (l.take k) then IntKind.u32.wrap ((IntKind.u32.wrap ab) + 1) else qat (l.take k)))),(6,.v (.slice A l.length c)),(7,.v (.int .i64 ((l.length:Nat):Int))),(8,.v (.int .i64 (IntKind.i64.wrap (((k:Nat):Int) + 1))))] ac aM fun bF aN=>?_
   refine qaf (qaa ?_)
   obtain ⟨al,aO,aP⟩:=ac.cutB aN 0 [] [(3,.v (.int .u32 (if IntKind.u32.wrap ((IntKind.u32.wrap ab) + 1) > qat (l.take k) then IntKind.u32.wrap ((IntKind.u32.wrap ab) + 1) else qat (l.take k)))),(6,.v (.slice A l.length c)),(7,.v (.int .i64 ((l.length:Nat):Int))),(8,.v (.int .i64 (IntKind.i64.wrap (((k:Nat):Int) + 1))))]
   have aQ:IntKind.i64.wrap (((k:Nat):Int) + 1) = ((k + 1:Nat):Int):=qbh (by omega)
   rw [aQ] at al
   have aR:(if IntKind.u32.wrap ((IntKind.u32.wrap ab) + 1) > qat (l.take k) then IntKind.u32.wrap ((IntKind.u32.wrap ab) + 1) else qat (l.take k)) = qat (l.take (k + 1)):=qjc ai aL
   rw [aR] at al
   exact ⟨l.length - (k + 1),by omega,k + 1,rfl,by omega,al.pk,aO,(((ao.trans ar).trans au).trans aP)⟩
  have aS:=of_decide_eq_false ak
  refine wp_skip (qaE (qaa (qar [0,1] kz ?_)))
  refine qaj [0,1] [] [(3,.v (.int .u32 (qat (l.take k)))),(6,.v (.slice A l.length c)),(7,.v (.int .i64 ((l.length:Nat):Int))),(8,.v (.int .i64 (IntKind.i64.wrap (((k:Nat):Int) + 1))))] ac aj fun bG aT=>?_
  refine qaf (qaa ?_)
  obtain ⟨am,aU,aV⟩:=ac.cutB aT 0 [] [(3,.v (.int .u32 (qat (l.take k)))),(6,.v (.slice A l.length c)),(7,.v (.int .i64 ((l.length:Nat):Int))),(8,.v (.int .i64 (IntKind.i64.wrap (((k:Nat):Int) + 1))))]
  have aW:IntKind.i64.wrap (((k:Nat):Int) + 1) = ((k + 1:Nat):Int):=qbh (by omega)
  rw [aW] at am
  have aX:qat (l.take k) = qat (l.take (k + 1)):=qjd ai aS
  rw [aX] at am
  exact ⟨l.length - (k + 1),by omega,k + 1,rfl,by omega,am.pk,aU,(((ao.trans ar).trans au).trans aV)⟩
 have bq:=of_decide_eq_false ah
 refine wp_exit (qaz (qaz (qaQ (qaa (qas [(2,.v (.int .u32 (qat (l.take k))))] aa ag fun bH aY=>?_)))))
 refine wp_ret (qaD aY aa.cells (v:=.int .u32 (qat (l.take k))) kz ?_)
 exact ⟨by rw [List.take_of_length_le (by omega)],aa.step⟩
def qjZ (d:Nat):Prop:=∀ (A:Option Addr) (c:Nat) (l:List Fld) (v:Int) (flex:Bool) (ct:List Value) (t:Tree) (w:World) (F:Nat → Nat → Prop),FldsR w F A c l → depths l ≤ d → TreeR w F ct t → (qaU d l v flex t).length ≤ 1099511627776 →
  Calls Tryz.prog 42 #[.slice A l.length c,.int .i64 v,.bool flex,.agg ct.toArray] w (qdP w 5 (qaU d l v flex t))
theorem qj0 {d:Nat} (hp:qjZ d) (kind:Int) (A:Option Addr) (c:Nat) (l:List Fld) (null:Bool) (v:Int) (flex:Bool) (ct:List Value) (t:Tree) (w:World) (F:Nat → Nat → Prop) (hl:FldsR w F A c l) (hd:depths l ≤ d) (ht:TreeR w F ct t) (hroom:(qaL (qaU d l v flex) kind null flex t).length ≤ 1099511627776) :
  Calls Tryz.prog 111 #[.int .i64 kind,.slice A l.length c,.bool null,.int .i64 v,.bool flex,.agg ct.toArray] w (qdP w 5 (qaL (qaU d l v flex) kind null flex t)):=by
 obtain ⟨n1,s2,b3,l4,u5,A6,c7,A8,c9,dh,di,d9,rfl,rfl,aX,ea,fy,fz⟩:=ht.open_
 have dM:=aX.small
 have dN:=ea.small
 have hl0:=hl
 obtain ⟨xfs,h1,h2⟩:=hl.ex
 have hsm:=h1.small
 refine enter (n:=70) Tryz.func111 rfl Tryz.ntmps111 kz fun a hE=>?_
 have hW:=WOk.start w Nil
 refine qae [0,1] kz ?_
 refine qam (qbk hW hE (d:=11) (cs:=(z10 n1 A6 s2.length c7 b3 A8 l4.length c9 dh u5.length di)) kz fun fA fB fC eb ec ee aa dj=>?_)
 refine qaj [1] [] [(0,.v (.int .i64 kind)),(1,.v (.slice A l.length c)),(2,.v (.bool null)),(3,.v (.int .i64 v)),(4,.v (.bool flex)),(11,.p 0 0)] aa dj fun fD dl=>?_
 refine qaf (qaa ?_)
 refine wp_seq (qas [(0,.v (.int .i64 kind)),(1,.v (.slice A l.length c)),(2,.v (.bool null)),(3,.v (.int .i64 v)),(4,.v (.bool flex)),(11,.p 0 0),(16,.v (.int .i64 kind))] aa dl fun fE dp=>?_)
 refine wp_block (qas [(0,.v (.int .i64 kind)),(1,.v (.slice A l.length c)),(2,.v (.bool null)),(3,.v (.int .i64 v)),(4,.v (.bool flex)),(11,.p 0 0),(16,.v (.int .i64 kind)),(17,.v (.bool (kind == 0)))] aa dp fun fF bk=>?_)
 refine qax bk (b:=kind == 0) kz (fun ac=>?_) (fun ac=>?_)
 ·
  have dq:kind = 0:=by simpa using ac
  refine qae [0,1,2,3,4,5] kz ?_
  refine qaj [0,1,2,3] [4,5] [(22,.v (.int .u8 (IntKind.u8.wrap (IntKind.i64.wrap (BitVec.ofInt 64 n1 &&& BitVec.ofInt 64 1).toNat))))] aa bk fun fG dr=>?_
  refine qam (qd9 aa dr (e:=5) (size:=1) (len:=1) (cs:=[.int .u8 (IntKind.u8.wrap (IntKind.i64.wrap (BitVec.ofInt 64 n1 &&& BitVec.ofInt 64 1).toNat))]) (d:=23) kz kz fun bn fH fI ef eg eh dt du=>?_)
  have dv:(⟨some ⟨bn,0,none⟩,1,5,1,1,[.int .u8 (IntKind.u8.wrap (IntKind.i64.wrap (BitVec.ofInt 64 n1 &&& BitVec.ofInt 64 1).toNat))]⟩:Rw) = brow (some ⟨bn,0,none⟩) 1 5 [by8 (IntKind.i64.wrap (BitVec.ofInt 64 n1 &&& BitVec.ofInt 64 1).toNat)]:=by first | rfl | (simp only [brow,bc,List.map,qbC]; try rfl)
  obtain ⟨bo,ei⟩:=dt.rowEq 0 [brow (some ⟨bn,0,none⟩) 1 5 [by8 (IntKind.i64.wrap (BitVec.ofInt 64 n1 &&& BitVec.ofInt 64 1).toNat)]] dv
  have dw:=EnvOk.pick du (ks:=[22,23]) (env':=[(22,.v (.int .u8 (IntKind.u8.wrap (IntKind.i64.wrap (BitVec.ofInt 64 n1 &&& BitVec.ofInt 64 1).toNat)))),(23,.v (.slice (some ⟨bn,0,none⟩) 1 1))]) kz
  have dx:=dw.cast (env':=[(22,.v (.int .u8 (IntKind.u8.wrap (IntKind.i64.wrap (BitVec.ofInt 64 n1 &&& BitVec.ofInt 64 1).toNat)))),(23,.v (.slice (some ⟨bn,0,none⟩) ([by8 (IntKind.i64.wrap (BitVec.ofInt 64 n1 &&& BitVec.ofInt 64 1).toNat)].length) 1))]) rfl
  refine qaj [5] [] [(12,.v (.slice (some ⟨bn,0,none⟩) ([by8 (IntKind.i64.wrap (BitVec.ofInt 64 n1 &&& BitVec.ofInt 64 1).toNat)].length) 1))] bo dx fun fJ dy=>?_
  refine qaf (qaa ?_)
  refine wp_ret (qaW (qaC (qaD dy bo.cells (v:=.slice (some ⟨bn,0,none⟩) ([by8 (IntKind.i64.wrap (BitVec.ofInt 64 n1 &&& BitVec.ofInt 64 1).toNat)].length) 1) kz ?_)))
  exact qa4 bo (k:=0) rfl (by (try simp only [and1]); simp [qaL,Tree.S,Tree.N,dq,ac])
 have ak:kind ≠ 0:=by simpa using ac
 refine qas [(0,.v (.int .i64 kind)),(1,.v (.slice A l.length c)),(2,.v (.bool null)),(3,.v (.int .i64 v)),(4,.v (.bool flex)),(11,.p 0 0),(16,.v (.int .i64 kind)),(24,.v (.bool (kind == 7)))] aa bk fun fK bp=>?_
 refine qax bp (b:=kind == 7) kz (fun ae=>?_) (fun ae=>?_)
 ·
  have dz:kind = 7:=by simpa using ae
  refine qae [0,1] kz ?_
  refine qam (qix aa bp (d:=26) (j:=16) (t:=24) (e:=5) (bytes:=1) (z:=.int .u8 0) kz kz kz kz (rfl) (rfl) (by omega) fun aB fL fM ej ek em aC dA=>?_)
  refine qaj [1] [] [(11,.p 0 0),(13,.v (.slice (some ⟨aB,0,none⟩) 16 16))] aC dA fun fN dB=>?_
  refine qaf (qaa ?_)
  refine qae [0,1,2,3] kz ?_
  refine qaj [0,1,2] [3] [(13,.v (.slice (some ⟨aB,0,none⟩) 16 16)),(27,.v (.slice (some ⟨aB,0,none⟩) 16 16)),(29,.v (.slice A6 s2.length c7))] aC dB fun fO dC=>?_
  refine qam (qiw aC dC (k:=0) (d:=30) (t:=24) (u:=24) (e:=5) (bytes:=1) (A:=(some ⟨aB,0,none⟩)) (As:=A6) (m:=s2.length) (cs:=c7) (m0:=16) (c:=16) (xs:=(List.replicate 16 (.int .u8 0))) (news:=bc s2) kz kz rfl (aX.move aC.step nilM aC.imm).src fun fP fQ eo dD dE=>?_)
  have dF:(⟨(some ⟨aB,0,none⟩),16,5,1,16,qbn (List.replicate 16 (.int .u8 0)) 0 ((bc s2).take (min s2.length 16))⟩:Rw) = brow (some ⟨aB,0,none⟩) 16 5 (qeM s2):=qkz _ _ _
  obtain ⟨bq,ep⟩:=dD.rowEq 0 [brow (some ⟨aB,0,none⟩) 16 5 (qeM s2)] dF
  have dG:=EnvOk.pick dE (ks:=[13,27,29,30]) (env':=[(13,.v (.slice (some ⟨aB,0,none⟩) 16 16)),(27,.v (.slice (some ⟨aB,0,none⟩) 16 16)),(29,.v (.slice A6 s2.length c7)),(30,.v (.int .i64 ((min s2.length 16:Nat):Int)))]) kz
  have dH:=dG.cast (env':=[(13,.v (.slice (some ⟨aB,0,none⟩) ((qeM s2).length) 16)),(27,.v (.slice (some ⟨aB,0,none⟩) ((qeM s2).length) 16)),(29,.v (.slice A6 s2.length c7)),(30,.v (.int .i64 ((min s2.length 16:Nat):Int)))]) (by rw [qbv _])
  refine qaf (qaa ?_)
  refine qas [(12,.v (.slice (some ⟨aB,0,none⟩) ((qeM s2).length) 16))] bq dH fun fR dI=>?_
  refine wp_ret (qaW (qaC (qaD dI bq.cells (v:=.slice (some ⟨aB,0,none⟩) ((qeM s2).length) 16) kz ?_)))
  exact qa4 bq (k:=0) rfl (by (try simp only [and1]); simp [qaL,Tree.S,Tree.N,ak,dz,ac,ae])
 have am:kind ≠ 7:=by simpa using ae
 refine qas [(0,.v (.int .i64 kind)),(1,.v (.slice A l.length c)),(2,.v (.bool null)),(3,.v (.int .i64 v)),(4,.v (.bool flex)),(11,.p 0 0),(16,.v (.int .i64 kind)),(32,.v (.bool (kind == 8)))] aa bp fun fS bt=>?_
 refine qax bt (b:=kind == 8) kz (fun ag=>?_) (fun ag=>?_)
 ·
  have bA:kind = 8:=by simpa using ag
  refine qae [0,1,2,3] kz ?_
  refine qaj [0,1] [2,3] [(2,.v (.bool null)),(4,.v (.bool flex)),(35,.v (.slice A6 s2.length c7))] aa bt fun fT dJ=>?_
  have dO:=qbq s2
  refine qam (qal dJ (f:=87) (vs:=[.slice A6 s2.length c7]) (d:=36) kz Tryz.call87 (qjY _ _ s2 (aX.move aa.step nilM aa.imm).le _) ?_)
  rintro e_ fU ⟨rfl,bB⟩
  refine ⟨_,rfl,fun fV dK=>?_⟩
  have ao:=aa.next_nil bB
  have eu:=aa.frN bB
  refine qaj [3] [] [(2,.v (.bool null)),(4,.v (.bool flex)),(14,.v (.slice A6 ((qaB s2).length) c7))] ao dK fun fW bC=>?_
  refine qaf (qaa ?_)
  refine wp_seq (qas [(2,.v (.bool null)),(4,.v (.bool flex)),(14,.v (.slice A6 ((qaB s2).length) c7)),(37,.v (.bool null))] ao bC fun ev aD=>?_)
  refine qax aD (b:=null) kz (fun aE=>?_) (fun aE=>?_)
  ·
   refine qar [0] kz ?_
   refine qaj [0] [] [(2,.v (.bool null)),(4,.v (.bool flex)),(14,.v (.slice none 0 0))] ao aD fun ew bD=>?_
   refine qaf (qaa ?_)
   refine qae [0,1,2,3,4,5,6,7] kz ?_
   refine qaj [0,1,2,3] [4,5,6,7] [(14,.v (.slice none 0 0)),(38,.v (.bool flex)),(39,.v (.bool null)),(41,.v (.int .i64 0))] ao bD fun ey bE=>?_
   refine qam (qal bE (f:=110) (vs:=[.bool flex,.bool null,.int .i64 0,.int .i64 2]) (d:=42) kz Tryz.call110 (qep flex null 0 2 (by first | omega | exact Nat.le_trans (qbq _) (by decide) | exact Nat.le_trans (qc0 _) (by decide) | (simp; done) | (have:=hroom; omega)) (by first | decide | omega) _) ?_)
   rintro e_ ez ⟨aF,aG,rfl,bF,bG⟩
   refine ⟨_,rfl,fun eB bH=>?_⟩
   obtain ⟨aY,dP⟩:=ao.frFresh bG (brow aF aG 5 (qao flex null 0 2)) (Nat.le_refl _) bF
   refine qaj [5] [6,7] [(42,.v (.slice aF ((qao flex null 0 2).length) aG)),(43,.v (.slice none 0 0))] aY bH fun eC bI=>?_
   refine qam (qaJ aY bI (k:=0) (d:=44) (t:=24) (e:=5) (size:=1) (bytes:=1) (A:=aF) (As:=none) (m0:=((qao flex null 0 2).length)) (c:=aG) (m:=0) (cs:=0) (xs:=(bc (qao flex null 0 2))) (news:=bc ([]:Bs)) kz kz rfl (Octs.nil _ (fun _ _=>True)).src (fun _=>rfl) (by first | exact qdR (by omega) (by decide) (by omega) | exact qdR (Nat.le_trans (qbq _) (by decide)) (by decide) (Nat.le_trans (qbq _) (by decide)) | (simp; done)) fun ap ar eD eE dQ bJ bK=>?_)
   have bL:(⟨ap,ar,5,1,(qao flex null 0 2).length + 0,bc (qao flex null 0 2) ++ bc ([]:Bs)⟩:Rw) = brow ap ar 5 (qao flex null 0 2 ++ ([]:Bs)):=qa0 (rfl) rfl
   obtain ⟨aH,dR⟩:=bJ.rowEq 0 [brow ap ar 5 (qao flex null 0 2 ++ ([]:Bs))] bL
   have bM:=EnvOk.pick bK (ks:=[42,43,44]) (env':=[(42,.v (.slice aF ((qao flex null 0 2).length) aG)),(43,.v (.slice none 0 0)),(44,.v (.slice ap ((qao flex null 0 2).length + 0) ar))]) kz
   have bN:=bM.cast (env':=[(42,.v (.slice aF ((qao flex null 0 2).length) aG)),(43,.v (.slice none 0 0)),(44,.v (.slice ap ((qao flex null 0 2 ++ ([]:Bs)).length) ar))]) (by simp only [List.length_append,List.length_cons,List.length_nil,Nat.zero_add])
   refine qaj [7] [] [(12,.v (.slice ap ((qao flex null 0 2 ++ ([]:Bs)).length) ar))] aH bN fun eF bO=>?_
   refine qaf (qaa ?_)
   refine wp_ret (qaW (qaC (qaD bO aH.cells (v:=.slice ap ((qao flex null 0 2 ++ ([]:Bs)).length) ar) kz ?_)))
   exact qa4 aH (k:=0) rfl (by (try simp only [and1]); simp [qaL,Tree.S,Tree.N,ak,am,bA,ac,ae,ag,aE])
  refine wp_skip (qaa (qae [0,1,2,3,4,5,6,7] kz ?_))
  refine qaj [0,1,2,3] [4,5,6,7] [(14,.v (.slice A6 ((qaB s2).length) c7)),(38,.v (.bool flex)),(39,.v (.bool null)),(41,.v (.int .i64 (((qaB s2).length:Nat):Int)))] ao aD fun eG bP=>?_
  refine qam (qal bP (f:=110) (vs:=[.bool flex,.bool null,.int .i64 (((qaB s2).length:Nat):Int),.int .i64 2]) (d:=42) kz Tryz.call110 (qep flex null ((qaB s2).length) 2 (by first | omega | exact Nat.le_trans (qbq _) (by decide) | exact Nat.le_trans (qc0 _) (by decide) | (simp; done) | (have:=hroom; omega)) (by first | decide | omega) _) ?_)
  rintro e_ eH ⟨aI,aJ,rfl,bQ,bR⟩
  refine ⟨_,rfl,fun eI bS=>?_⟩
  obtain ⟨ah,dS⟩:=ao.frFresh bR (brow aI aJ 5 (qao flex null ((qaB s2).length) 2)) (Nat.le_refl _) bQ
  refine qaj [5] [6,7] [(42,.v (.slice aI ((qao flex null ((qaB s2).length) 2).length) aJ)),(43,.v (.slice A6 ((qaB s2).length) c7))] ah bS fun eJ bT=>?_
  refine qam (qaJ ah bT (k:=0) (d:=44) (t:=24) (e:=5) (size:=1) (bytes:=1) (A:=aI) (As:=A6) (m0:=((qao flex null ((qaB s2).length) 2).length)) (c:=aJ) (m:=((qaB s2).length)) (cs:=c7) (xs:=(bc (qao flex null ((qaB s2).length) 2))) (news:=bc (qaB s2)) kz kz rfl ((aX.take 32767).move ah.step nilM ah.imm).src ((aX.take 32767).move ah.step nilM ah.imm).cap (by first | exact qdR (by omega) (by decide) (by omega) | exact qdR (Nat.le_trans (qbq _) (by decide)) (by decide) (Nat.le_trans (qbq _) (by decide)) | (simp; done)) fun au av eK eL dT bU bV=>?_)
  have bW:(⟨au,av,5,1,(qao flex null ((qaB s2).length) 2).length + (qaB s2).length,bc (qao flex null ((qaB s2).length) 2) ++ bc (qaB s2)⟩:Rw) = brow au av 5 (qao flex null ((qaB s2).length) 2 ++ (qaB s2)):=qa0 (rfl) rfl
  obtain ⟨aK,dU⟩:=bU.rowEq 0 [brow au av 5 (qao flex null ((qaB s2).length) 2 ++ (qaB s2))] bW
  have bX:=EnvOk.pick bV (ks:=[42,43,44]) (env':=[(42,.v (.slice aI ((qao flex null ((qaB s2).length) 2).length) aJ)),(43,.v (.slice A6 ((qaB s2).length) c7)),(44,.v (.slice au ((qao flex null ((qaB s2).length) 2).length + (qaB s2).length) av))]) kz
  have bY:=bX.cast (env':=[(42,.v (.slice aI ((qao flex null ((qaB s2).length) 2).length) aJ)),(43,.v (.slice A6 ((qaB s2).length) c7)),(44,.v (.slice au ((qao flex null ((qaB s2).length) 2 ++ (qaB s2)).length) av))]) (by simp only [List.length_append,List.length_cons,List.length_nil,Nat.zero_add])
  refine qaj [7] [] [(12,.v (.slice au ((qao flex null ((qaB s2).length) 2 ++ (qaB s2)).length) av))] aK bY fun eM bZ=>?_
  refine qaf (qaa ?_)
  refine wp_ret (qaW (qaC (qaD bZ aK.cells (v:=.slice au ((qao flex null ((qaB s2).length) 2 ++ (qaB s2)).length) av) kz ?_)))
  exact qa4 aK (k:=0) rfl (by (try simp only [and1]); simp [qaL,Tree.S,Tree.N,ak,am,bA,ac,ae,ag,aE])
 have al:kind ≠ 8:=by simpa using ag
 refine qas [(0,.v (.int .i64 kind)),(1,.v (.slice A l.length c)),(2,.v (.bool null)),(3,.v (.int .i64 v)),(4,.v (.bool flex)),(11,.p 0 0),(16,.v (.int .i64 kind)),(45,.v (.bool (kind == 9)))] aa bt fun eN aL=>?_
 refine qax aL (b:=kind == 9) kz (fun ab=>?_) (fun ab=>?_)
 ·
  have aZ:kind = 9:=by simpa using ab
  refine qae [0,1,2,3] kz ?_
  refine qaj [0,1] [2,3] [(2,.v (.bool null)),(4,.v (.bool flex)),(48,.v (.slice A6 s2.length c7))] aa aL fun eO b8=>?_
  have dL:=qbq s2
  refine qam (qal b8 (f:=87) (vs:=[.slice A6 s2.length c7]) (d:=49) kz Tryz.call87 (qjY _ _ s2 (aX.move aa.step nilM aa.imm).le _) ?_)
  rintro e_ eP ⟨rfl,ba⟩
  refine ⟨_,rfl,fun eQ cd=>?_⟩
  have af:=aa.next_nil ba
  have dV:=aa.frN ba
  refine qaj [3] [] [(2,.v (.bool null)),(4,.v (.bool flex)),(15,.v (.slice A6 ((qaB s2).length) c7))] af cd fun eR ce=>?_
  refine qaf (qaa ?_)
  refine wp_seq (qas [(2,.v (.bool null)),(4,.v (.bool flex)),(15,.v (.slice A6 ((qaB s2).length) c7)),(50,.v (.bool null))] af ce fun eS aM=>?_)
  refine qax aM (b:=null) kz (fun aN=>?_) (fun aN=>?_)
  ·
   refine qar [0] kz ?_
   refine qaj [0] [] [(2,.v (.bool null)),(4,.v (.bool flex)),(15,.v (.slice none 0 0))] af aM fun eT cg=>?_
   refine qaf (qaa ?_)
   refine qae [0,1,2,3,4,5,6,7] kz ?_
   refine qaj [0,1,2,3] [4,5,6,7] [(15,.v (.slice none 0 0)),(51,.v (.bool flex)),(52,.v (.bool null)),(54,.v (.int .i64 0))] af cg fun eU cm=>?_
   refine qam (qal cm (f:=110) (vs:=[.bool flex,.bool null,.int .i64 0,.int .i64 4]) (d:=55) kz Tryz.call110 (qep flex null 0 4 (by first | omega | exact Nat.le_trans (qbq _) (by decide) | exact Nat.le_trans (qc0 _) (by decide) | (simp; done) | (have:=hroom; omega)) (by first | decide | omega) _) ?_)
   rintro e_ eV ⟨aO,aP,rfl,cq,cr⟩
   refine ⟨_,rfl,fun eW cu=>?_⟩
   obtain ⟨bd,dW⟩:=af.frFresh cr (brow aO aP 5 (qao flex null 0 4)) (Nat.le_refl _) cq
   refine qaj [5] [6,7] [(55,.v (.slice aO ((qao flex null 0 4).length) aP)),(56,.v (.slice none 0 0))] bd cu fun eX cv=>?_
   refine qam (qaJ bd cv (k:=0) (d:=57) (t:=24) (e:=5) (size:=1) (bytes:=1) (A:=aO) (As:=none) (m0:=((qao flex null 0 4).length)) (c:=aP) (m:=0) (cs:=0) (xs:=(bc (qao flex null 0 4))) (news:=bc ([]:Bs)) kz kz rfl (Octs.nil _ (fun _ _=>True)).src (fun _=>rfl) (by first | exact qdR (by omega) (by decide) (by omega) | exact qdR (Nat.le_trans (qbq _) (by decide)) (by decide) (Nat.le_trans (qbq _) (by decide)) | (simp; done)) fun aw ax eY eZ dX cw cz=>?_)
   have cA:(⟨aw,ax,5,1,(qao flex null 0 4).length + 0,bc (qao flex null 0 4) ++ bc ([]:Bs)⟩:Rw) = brow aw ax 5 (qao flex null 0 4 ++ ([]:Bs)):=qa0 (rfl) rfl
   obtain ⟨aQ,dY⟩:=cw.rowEq 0 [brow aw ax 5 (qao flex null 0 4 ++ ([]:Bs))] cA
   have cB:=EnvOk.pick cz (ks:=[55,56,57]) (env':=[(55,.v (.slice aO ((qao flex null 0 4).length) aP)),(56,.v (.slice none 0 0)),(57,.v (.slice aw ((qao flex null 0 4).length + 0) ax))]) kz
   have cC:=cB.cast (env':=[(55,.v (.slice aO ((qao flex null 0 4).length) aP)),(56,.v (.slice none 0 0)),(57,.v (.slice aw ((qao flex null 0 4 ++ ([]:Bs)).length) ax))]) (by simp only [List.length_append,List.length_cons,List.length_nil,Nat.zero_add])
   refine qaj [7] [] [(12,.v (.slice aw ((qao flex null 0 4 ++ ([]:Bs)).length) ax))] aQ cC fun e9 cD=>?_
   refine qaf (qaa ?_)
   refine wp_ret (qaW (qaC (qaD cD aQ.cells (v:=.slice aw ((qao flex null 0 4 ++ ([]:Bs)).length) ax) kz ?_)))
   exact qa4 aQ (k:=0) rfl (by (try simp only [and1]); simp [qaL,Tree.S,Tree.N,ak,am,al,aZ,ac,ae,ag,ab,aN])
  refine wp_skip (qaa (qae [0,1,2,3,4,5,6,7] kz ?_))
  refine qaj [0,1,2,3] [4,5,6,7] [(15,.v (.slice A6 ((qaB s2).length) c7)),(51,.v (.bool flex)),(52,.v (.bool null)),(54,.v (.int .i64 (((qaB s2).length:Nat):Int)))] af aM fun fa cE=>?_
  refine qam (qal cE (f:=110) (vs:=[.bool flex,.bool null,.int .i64 (((qaB s2).length:Nat):Int),.int .i64 4]) (d:=55) kz Tryz.call110 (qep flex null ((qaB s2).length) 4 (by first | omega | exact Nat.le_trans (qbq _) (by decide) | exact Nat.le_trans (qc0 _) (by decide) | (simp; done) | (have:=hroom; omega)) (by first | decide | omega) _) ?_)
  rintro e_ fb ⟨aR,aS,rfl,cG,cH⟩
  refine ⟨_,rfl,fun fe cI=>?_⟩
  obtain ⟨ai,dZ⟩:=af.frFresh cH (brow aR aS 5 (qao flex null ((qaB s2).length) 4)) (Nat.le_refl _) cG
  refine qaj [5] [6,7] [(55,.v (.slice aR ((qao flex null ((qaB s2).length) 4).length) aS)),(56,.v (.slice A6 ((qaB s2).length) c7))] ai cI fun ff cJ=>?_
  refine qam (qaJ ai cJ (k:=0) (d:=57) (t:=24) (e:=5) (size:=1) (bytes:=1) (A:=aR) (As:=A6) (m0:=((qao flex null ((qaB s2).length) 4).length)) (c:=aS) (m:=((qaB s2).length)) (cs:=c7) (xs:=(bc (qao flex null ((qaB s2).length) 4))) (news:=bc (qaB s2)) kz kz rfl ((aX.take 32767).move ai.step nilM ai.imm).src ((aX.take 32767).move ai.step nilM ai.imm).cap (by first | exact qdR (by omega) (by decide) (by omega) | exact qdR (Nat.le_trans (qbq _) (by decide)) (by decide) (Nat.le_trans (qbq _) (by decide)) | (simp; done)) fun ay az fg fh d5 cK cL=>?_)
  have cM:(⟨ay,az,5,1,(qao flex null ((qaB s2).length) 4).length + (qaB s2).length,bc (qao flex null ((qaB s2).length) 4) ++ bc (qaB s2)⟩:Rw) = brow ay az 5 (qao flex null ((qaB s2).length) 4 ++ (qaB s2)):=qa0 (rfl) rfl
  obtain ⟨aT,d6⟩:=cK.rowEq 0 [brow ay az 5 (qao flex null ((qaB s2).length) 4 ++ (qaB s2))] cM
  have cN:=EnvOk.pick cL (ks:=[55,56,57]) (env':=[(55,.v (.slice aR ((qao flex null ((qaB s2).length) 4).length) aS)),(56,.v (.slice A6 ((qaB s2).length) c7)),(57,.v (.slice ay ((qao flex null ((qaB s2).length) 4).length + (qaB s2).length) az))]) kz
  have cO:=cN.cast (env':=[(55,.v (.slice aR ((qao flex null ((qaB s2).length) 4).length) aS)),(56,.v (.slice A6 ((qaB s2).length) c7)),(57,.v (.slice ay ((qao flex null ((qaB s2).length) 4 ++ (qaB s2)).length) az))]) (by simp only [List.length_append,List.length_cons,List.length_nil,Nat.zero_add])
  refine qaj [7] [] [(12,.v (.slice ay ((qao flex null ((qaB s2).length) 4 ++ (qaB s2)).length) az))] aT cO fun fi cP=>?_
  refine qaf (qaa ?_)
  refine wp_ret (qaW (qaC (qaD cP aT.cells (v:=.slice ay ((qao flex null ((qaB s2).length) 4 ++ (qaB s2)).length) az) kz ?_)))
  exact qa4 aT (k:=0) rfl (by (try simp only [and1]); simp [qaL,Tree.S,Tree.N,ak,am,al,aZ,ac,ae,ag,ab,aN])
 have aU:kind ≠ 9:=by simpa using ab
 refine qas [(0,.v (.int .i64 kind)),(1,.v (.slice A l.length c)),(3,.v (.int .i64 v)),(4,.v (.bool flex)),(11,.p 0 0),(58,.v (.bool (kind == 10)))] aa aL fun fj aV=>?_
 refine qax aV (b:=kind == 10) kz (fun aj=>?_) (fun aj=>?_)
 ·
  have bf:kind = 10:=by simpa using aj
  refine qae [0,1,2,3,4,5] kz ?_
  refine qaj [0,1,2,3] [4,5] [(60,.v (.slice A l.length c)),(61,.v (.int .i64 v)),(62,.v (.bool flex)),(63,.v (.agg #[.int .i64 n1,.slice A6 s2.length c7,.bool b3,.slice A8 l4.length c9,.slice dh u5.length di]))] aa aV fun fk cQ=>?_
  refine qam (qal cQ (f:=42) (vs:=[.slice A l.length c,.int .i64 v,.bool flex,.agg #[.int .i64 n1,.slice A6 s2.length c7,.bool b3,.slice A8 l4.length c9,.slice dh u5.length di]]) (d:=64) kz Tryz.call42 (hp _ _ l v flex _ (Tree.mk n1 s2 b3 l4 u5) _ _ ⟨xfs,(h1.move aa.step nilM aa.imm),(fun i_ x_ h_=>((h2 i_ x_ h_).move aa.step nilM aa.imm))⟩ hd (ht.move aa.step nilM aa.imm) (by simpa [qaL,ak,am,al,aU,bf,ac,ae,ag,ab,aj] using hroom)) ?_)
  rintro e_ fl ⟨bu,bw,rfl,cR,cS⟩
  refine ⟨_,rfl,fun fm cT=>?_⟩
  obtain ⟨aW,d7⟩:=aa.frFresh cS (brow bu bw 5 (qaU d l v flex (Tree.mk n1 s2 b3 l4 u5))) (Nat.le_refl _) cR
  refine qaj [5] [] [(12,.v (.slice bu ((qaU d l v flex (Tree.mk n1 s2 b3 l4 u5)).length) bw))] aW cT fun fo cU=>?_
  refine qaf (qaa ?_)
  refine wp_ret (qaW (qaC (qaD cU aW.cells (v:=.slice bu ((qaU d l v flex (Tree.mk n1 s2 b3 l4 u5)).length) bw) kz ?_)))
  exact qa4 aW (k:=0) rfl (by (try simp only [and1]); simp [qaL,Tree.S,Tree.N,ak,am,al,aU,bf,ac,ae,ag,ab,aj])
 have cV:kind ≠ 10:=by simpa using aj
 refine wp_skip (qaE (qaa (qbm 5 kz aa fun fq d8 bg cW=>?_)))
 refine qaY [0,1,2] [(66,.v (.int .i64 n1)),(67,.v (.int .i64 kind))] 3 (qad qah) (fun _ h=>h.cells) cW aV fun fr cX=>?_
 refine qaN (i:=3) kz (qal cX (f:=112) (vs:=[.int .i64 kind]) (d:=68) kz Tryz.call112 (qjX kind _) ?_)
 rintro e_ ft ⟨rfl,bh⟩
 refine ⟨_,rfl,fun fu cY=>?_⟩
 have bi:=bg.next_nil bh
 have bj:=bg.frN bh
 have cZ:=TT.ofW bj bi
 refine ⟨fun _=>cZ,?_⟩
 refine qaN (i:=4) kz (qal cY (f:=46) (vs:=[.int .i64 n1,.int .i64 ((qbz kind:Nat):Int)]) (d:=69) kz Tryz.call46 (qcR n1 (qbz kind) (by first | decide | exact qa8 _ | omega) _) ?_)
 rintro e_ fv ⟨bx,bz,rfl,da,db⟩
 refine ⟨_,rfl,fun fw dc=>?_⟩
 obtain ⟨aA,de⟩:=bi.frFresh db (brow bx bz 5 (be (qbz kind) n1)) (Nat.le_refl _) da
 have df:=TT.ofW (bj.trans de) aA
 refine ⟨fun _=>df,?_⟩
 refine qaN (i:=5) kz (qcd [12] aA.cells dc (env':=[(12,.v (.slice bx ((be (qbz kind) n1).length) bz))]) kz fun fx dg=>?_)
 refine ⟨fun h=>absurd rfl h,?_⟩
 refine qaX kz ?_ _
 refine qaa (wp_ret (qaD dg aA.cells (v:=.slice bx ((be (qbz kind) n1).length) bz) kz ?_))
 exact qa4 aA (k:=0) rfl (by (try simp only [and1]); simp [qaL,Tree.S,Tree.N,ak,am,al,aU,cV,ac,ae,ag,ab,aj])
abbrev z5 (x0) (x1) (x2) (x3) (x4) (x5) (x6) (x7) (x8) (x9) (x10) (x11) (x12) (x13):=(Fld.nul (Fld.mk x0 x1 x2 x3 x4 x5 x6 x7) x8 (Tree.mk x9 x10 x11 x12 x13))
theorem qmh {d:Nat} (hp:qjZ d) (cf:List Value) (f:Fld) (v:Int) (flex:Bool) (ct:List Value) (t:Tree) (w:World) (F:Nat → Nat → Prop) (hf:FldR w F cf f) (hd:depths f.sub ≤ d) (ht:TreeR w F ct t) (hroom:(qcY d f v flex t).length ≤ 1099511627776) :
  Calls Tryz.prog 81 #[.agg cf.toArray,.int .i64 v,.bool flex,.agg ct.toArray] w (qdP w 5 (qcY d f v flex t)):=by
 obtain ⟨n1,s2,b3,l4,u5,A6,c7,A8,c9,aK,aL,eX,rfl,rfl,eY,dW,eZ,gl⟩:=ht.open_
 have ev:=eY.small
 have ew:=dW.small
 obtain ⟨ac,af,ag,ae,ah,ai,ab,aa,ay,az,bw,rfl,rfl,b8,dV⟩:=hf.open_
 have ey:=b8.small
 refine enter (n:=76) Tryz.func81 rfl Tryz.ntmps81 kz fun a hE=>?_
 have hW:=WOk.start w Nil
 refine qae [0,1,2] kz ?_
 refine qam (qbk hW hE (d:=4) (cs:=(z6 ac af ag ae ah ai ab ay aa.length az)) kz fun ez gm gn e9 fa fb dX dY=>?_)
 refine qam (qbk dX dY (d:=7) (cs:=(z10 n1 A6 s2.length c7 b3 A8 l4.length c9 aK u5.length aL)) kz fun eB gp gq fe ff fg bx dZ=>?_)
 refine qaj [2] [] [(1,.v (.int .i64 v)),(2,.v (.bool flex)),(4,.p 0 0),(7,.p 1 0)] bx dZ fun gt d5=>?_
 refine qaf (qaa ?_)
 refine qae [0,1,2,3,4] kz ?_
 refine qaj [0,1,2] [3,4] [(1,.v (.int .i64 v)),(2,.v (.bool flex)),(4,.p 0 0),(7,.p 1 0),(13,.v (.agg #[.int .i64 ac,.int .i64 af,.int .i64 ag,.int .i64 ae,.int .i64 ah,.int .i64 ai,.int .i64 ab,.slice ay aa.length az])),(14,.v (.int .i64 v)),(15,.v (.agg #[.int .i64 n1,.slice A6 s2.length c7,.bool b3,.slice A8 l4.length c9,.slice aK u5.length aL]))] bx d5 fun gv d6=>?_
 refine qam (qal d6 (f:=108) (vs:=[.agg #[.int .i64 ac,.int .i64 af,.int .i64 ag,.int .i64 ae,.int .i64 ah,.int .i64 ai,.int .i64 ab,.slice ay aa.length az],.int .i64 v,.agg #[.int .i64 n1,.slice A6 s2.length c7,.bool b3,.slice A8 l4.length c9,.slice aK u5.length aL]]) (d:=16) kz Tryz.call108 (qmC ac af ag ae ah ai ab aa _ _ v n1 s2 b3 l4 u5 _ _ _ _ _ _ _) ?_)
 rintro e_ gw ⟨rfl,cd⟩
 refine ⟨_,rfl,fun gx d7=>?_⟩
 have aj:=bx.next_nil cd
 have fh:=bx.frN cd
 refine qaj [4] [] [(1,.v (.int .i64 v)),(2,.v (.bool flex)),(4,.p 0 0),(7,.p 1 0),(9,.v (.bool (z5 ac af ag ae ah ai ab aa v n1 s2 b3 l4 u5)))] aj d7 fun gy d8=>?_
 refine qaf (qaa ?_)
 refine wp_seq (qas [(1,.v (.int .i64 v)),(2,.v (.bool flex)),(4,.p 0 0),(7,.p 1 0),(9,.v (.bool (z5 ac af ag ae ah ai ab aa v n1 s2 b3 l4 u5))),(19,.v (.bool (ac == 11)))] aj d8 fun gz bM=>?_)
 refine qax bM (b:=ac == 11) kz (fun bN=>?_) (fun bN=>?_)
 ·
  have fi:ac = 11:=by simpa using bN
  refine qae [0,1,2,3] kz ?_
  refine qaj [0,1] [2,3] [(1,.v (.int .i64 v)),(2,.v (.bool flex)),(4,.p 0 0),(9,.v (.bool (z5 ac af ag ae ah ai ab aa v n1 s2 b3 l4 u5))),(21,.v (.slice A8 l4.length c9))] aj bM fun gA d9=>?_
  refine qam (qal d9 (f:=109) (vs:=[.slice A8 l4.length c9]) (d:=22) kz Tryz.call109 (qlC _ _ l4 (dW.move aj.step nilM aj.imm).le _) ?_)
  rintro e_ gB ⟨rfl,ce⟩
  refine ⟨_,rfl,fun gC ea=>?_⟩
  have aB:=aj.next_nil ce
  have fj:=aj.frN ce
  refine qaj [3] [] [(1,.v (.int .i64 v)),(2,.v (.bool flex)),(4,.p 0 0),(9,.v (.bool (z5 ac af ag ae ah ai ab aa v n1 s2 b3 l4 u5))),(10,.v (.slice A8 ((qaw l4).length) c9))] aB ea fun gD eb=>?_
  refine qaf (qaa ?_)
  refine wp_seq (qas [(1,.v (.int .i64 v)),(2,.v (.bool flex)),(4,.p 0 0),(9,.v (.bool (z5 ac af ag ae ah ai ab aa v n1 s2 b3 l4 u5))),(10,.v (.slice A8 ((qaw l4).length) c9)),(23,.v (.bool (z5 ac af ag ae ah ai ab aa v n1 s2 b3 l4 u5)))] aB eb fun gE bO=>?_)
  refine qax bO (b:=Fld.nul (Fld.mk ac af ag ae ah ai ab aa) v (Tree.mk n1 s2 b3 l4 u5)) kz (fun ec=>?_) (fun ec=>?_)
  ·
   refine qar [0] kz ?_
   refine qaj [0] [] [(1,.v (.int .i64 v)),(2,.v (.bool flex)),(4,.p 0 0),(9,.v (.bool (z5 ac af ag ae ah ai ab aa v n1 s2 b3 l4 u5))),(10,.v (.slice none 0 0))] aB bO fun gF ee=>?_
   refine qaf (qaa ?_)
   refine qae [0,1,2,3,4,5] kz ?_
   refine qaj [0,1,2,3] [4,5] [(1,.v (.int .i64 v)),(2,.v (.bool flex)),(4,.p 0 0),(10,.v (.slice none 0 0)),(24,.v (.bool flex)),(25,.v (.bool (z5 ac af ag ae ah ai ab aa v n1 s2 b3 l4 u5))),(27,.v (.int .i64 0))] aB ee fun gG ef=>?_
   refine qam (qal ef (f:=110) (vs:=[.bool flex,.bool (Fld.nul (Fld.mk ac af ag ae ah ai ab aa) v (Tree.mk n1 s2 b3 l4 u5)),.int .i64 0,.int .i64 4]) (d:=28) kz Tryz.call110 (qep flex (Fld.nul (Fld.mk ac af ag ae ah ai ab aa) v (Tree.mk n1 s2 b3 l4 u5)) 0 4 (by first | omega | exact Nat.le_trans (qbq _) (by decide) | exact Nat.le_trans (qc0 _) (by decide) | (simp; done) | (have:=hroom; omega)) (by first | decide | omega) _) ?_)
   rintro e_ gH ⟨bY,bZ,rfl,eg,eh⟩
   refine ⟨_,rfl,fun gI ei=>?_⟩
   obtain ⟨bP,fk⟩:=aB.frFresh eh (brow bY bZ 5 (qao flex (z5 ac af ag ae ah ai ab aa v n1 s2 b3 l4 u5) 0 4)) (Nat.le_refl _) eg
   refine qaj [5] [] [(1,.v (.int .i64 v)),(2,.v (.bool flex)),(4,.p 0 0),(10,.v (.slice none 0 0)),(11,.v (.slice bY ((qao flex (z5 ac af ag ae ah ai ab aa v n1 s2 b3 l4 u5) 0 4).length) bZ))] bP ei fun gJ ej=>?_
   refine qaf (qaa ?_)
   refine wp_seq (qas [(1,.v (.int .i64 v)),(2,.v (.bool flex)),(4,.p 0 0),(10,.v (.slice none 0 0)),(11,.v (.slice bY ((qao flex (z5 ac af ag ae ah ai ab aa v n1 s2 b3 l4 u5) 0 4).length) bZ)),(30,.v (.int .i64 0)),(31,.v (.int .i64 0))] bP ej fun gK cg=>?_)
   refine wp_block ?_
   have hr2:(qao flex (Fld.nul (Fld.mk ac af ag ae ah ai ab aa) v (Tree.mk n1 s2 b3 l4 u5)) 0 4 ++ ([]:List Tree).flatMap (qaL (qaU d aa v flex) ab false flex)).length ≤ 1099511627776:=by have h_:=hroom; rw [qfZ ‹_› ‹_›] at h_; exact h_
   rw [List.length_append] at hr2
   have hr3:=qcy ([]:List Tree) (qaL (qaU d aa v flex) ab false flex)
   have cm:(qao flex (Fld.nul (Fld.mk ac af ag ae ah ai ab aa) v (Tree.mk n1 s2 b3 l4 u5)) 0 4) = (qao flex (Fld.nul (Fld.mk ac af ag ae ah ai ab aa) v (Tree.mk n1 s2 b3 l4 u5)) 0 4 ++ (([]:List Tree).take 0).flatMap (qaL (qaU d aa v flex) ab false flex)):=by simp
   have cq:=congrArg (brow bY bZ 5) cm
   obtain ⟨bB,eC⟩:=bP.rowEq 0 [brow bY bZ 5 (qao flex (z5 ac af ag ae ah ai ab aa v n1 s2 b3 l4 u5) 0 4 ++ (([]:List Tree).take 0).flatMap (qaL (qaU d aa v flex) ab false flex))] cq
   rw [cm] at cg
   refine wp_loop_ghost (fun n_ a_ w_=>∃ (k:Nat) (A_:Option Addr) (c_:Nat),n_ = 0 - k ∧ k ≤ 0 ∧ LInv bB 76 [⟨ez,0,[.int .i64 ac,.int .i64 af,.int .i64 ag,.int .i64 ae,.int .i64 ah,.int .i64 ai,.int .i64 ab,.slice ay aa.length az],true⟩,⟨eB,0,[.int .i64 n1,.slice A6 s2.length c7,.bool b3,.slice A8 l4.length c9,.slice aK u5.length aL],true⟩] [brow A_ c_ 5 (qao flex (Fld.nul (Fld.mk ac af ag ae ah ai ab aa) v (Tree.mk n1 s2 b3 l4 u5)) 0 4 ++ (([]:List Tree).take k).flatMap (qaL (qaU d aa v flex) ab false flex))] [(1,.v (.int .i64 v)),(2,.v (.bool flex)),(4,.p 0 0),(10,.v (.slice none 0 0)),(11,.v (.slice A_ ((qao flex (Fld.nul (Fld.mk ac af ag ae ah ai ab aa) v (Tree.mk n1 s2 b3 l4 u5)) 0 4 ++ (([]:List Tree).take k).flatMap (qaL (qaU d aa v flex) ab false flex)).length) c_)),(30,.v (.int .i64 0)),(31,.v (.int .i64 ((k:Nat):Int)))] a_ w_) (0) ⟨0,bY,bZ,by omega,by omega,cg.pk,bB,Fr.refl _ _ _⟩ ?_
   rintro fl fm fo ⟨k,A_,c_,eD,eE,cr,aE,eF⟩
   refine qas [(1,.v (.int .i64 v)),(2,.v (.bool flex)),(4,.p 0 0),(10,.v (.slice none 0 0)),(11,.v (.slice A_ ((qao flex (z5 ac af ag ae ah ai ab aa v n1 s2 b3 l4 u5) 0 4 ++ (([]:List Tree).take k).flatMap (qaL (qaU d aa v flex) ab false flex)).length) c_)),(30,.v (.int .i64 0)),(31,.v (.int .i64 ((k:Nat):Int))),(32,.v (.bool (decide (((k:Nat):Int) < 0))))] aE cr fun fq bC=>?_
   refine wp_seq (qau bC (b:=decide (((k:Nat):Int) < 0)) kz (decide_eq_false (by omega)) ?_)
   refine wp_exit (qaz (qaz (qaQ (qaa (qas [(8,.v (.slice A_ ((qao flex (z5 ac af ag ae ah ai ab aa v n1 s2 b3 l4 u5) 0 4 ++ (([]:List Tree).take k).flatMap (qaL (qaU d aa v flex) ab false flex)).length) c_))] aE bC fun fr cu=>?_)))))
   refine wp_ret (qaC (qaD cu aE.cells (v:=.slice A_ ((qao flex (z5 ac af ag ae ah ai ab aa v n1 s2 b3 l4 u5) 0 4 ++ (([]:List Tree).take k).flatMap (qaL (qaU d aa v flex) ab false flex)).length) c_) kz ?_))
   exact qa4 aE (k:=0) rfl (by rw [qfZ ‹_› ‹_›]; simp)
  refine wp_skip (qaa (qae [0,1,2,3,4,5] kz ?_))
  refine qaj [0,1,2,3] [4,5] [(1,.v (.int .i64 v)),(2,.v (.bool flex)),(4,.p 0 0),(10,.v (.slice A8 ((qaw l4).length) c9)),(24,.v (.bool flex)),(25,.v (.bool (z5 ac af ag ae ah ai ab aa v n1 s2 b3 l4 u5))),(27,.v (.int .i64 (((qaw l4).length:Nat):Int)))] aB bO fun ft cv=>?_
  refine qam (qal cv (f:=110) (vs:=[.bool flex,.bool (Fld.nul (Fld.mk ac af ag ae ah ai ab aa) v (Tree.mk n1 s2 b3 l4 u5)),.int .i64 (((qaw l4).length:Nat):Int),.int .i64 4]) (d:=28) kz Tryz.call110 (qep flex (Fld.nul (Fld.mk ac af ag ae ah ai ab aa) v (Tree.mk n1 s2 b3 l4 u5)) ((qaw l4).length) 4 (by first | omega | exact Nat.le_trans (qbq _) (by decide) | exact Nat.le_trans (qc0 _) (by decide) | (simp; done) | (have:=hroom; omega)) (by first | decide | omega) _) ?_)
  rintro e_ fu ⟨aM,aN,rfl,cw,cz⟩
  refine ⟨_,rfl,fun fv cA=>?_⟩
  obtain ⟨aO,eG⟩:=aB.frFresh cz (brow aM aN 5 (qao flex (z5 ac af ag ae ah ai ab aa v n1 s2 b3 l4 u5) ((qaw l4).length) 4)) (Nat.le_refl _) cw
  refine qaj [5] [] [(1,.v (.int .i64 v)),(2,.v (.bool flex)),(4,.p 0 0),(10,.v (.slice A8 ((qaw l4).length) c9)),(11,.v (.slice aM ((qao flex (z5 ac af ag ae ah ai ab aa v n1 s2 b3 l4 u5) ((qaw l4).length) 4).length) aN))] aO cA fun fw cB=>?_
  refine qaf (qaa ?_)
  refine wp_seq (qas [(1,.v (.int .i64 v)),(2,.v (.bool flex)),(4,.p 0 0),(10,.v (.slice A8 ((qaw l4).length) c9)),(11,.v (.slice aM ((qao flex (z5 ac af ag ae ah ai ab aa v n1 s2 b3 l4 u5) ((qaw l4).length) 4).length) aN)),(30,.v (.int .i64 (((qaw l4).length:Nat):Int))),(31,.v (.int .i64 0))] aO cB fun fx bD=>?_)
  refine wp_block ?_
  have hr2:(qao flex (Fld.nul (Fld.mk ac af ag ae ah ai ab aa) v (Tree.mk n1 s2 b3 l4 u5)) ((qaw l4).length) 4 ++ (qaw l4).flatMap (qaL (qaU d aa v flex) ab false flex)).length ≤ 1099511627776:=by have h_:=hroom; rw [qgQ ‹_› ‹_›] at h_; exact h_
  rw [List.length_append] at hr2
  have hr3:=qcy (qaw l4) (qaL (qaU d aa v flex) ab false flex)
  have hsm3:(qaw l4).length ≤ 32767:=by simp only [qaw,List.length_take]; omega
  have bE:(qao flex (Fld.nul (Fld.mk ac af ag ae ah ai ab aa) v (Tree.mk n1 s2 b3 l4 u5)) ((qaw l4).length) 4) = (qao flex (Fld.nul (Fld.mk ac af ag ae ah ai ab aa) v (Tree.mk n1 s2 b3 l4 u5)) ((qaw l4).length) 4 ++ ((qaw l4).take 0).flatMap (qaL (qaU d aa v flex) ab false flex)):=by simp
  have cC:=congrArg (brow aM aN 5) bE
  obtain ⟨bF,eH⟩:=aO.rowEq 0 [brow aM aN 5 (qao flex (z5 ac af ag ae ah ai ab aa v n1 s2 b3 l4 u5) ((qaw l4).length) 4 ++ ((qaw l4).take 0).flatMap (qaL (qaU d aa v flex) ab false flex))] cC
  rw [bE] at bD
  refine wp_loop_ghost (fun n_ a_ w_=>∃ (k:Nat) (A_:Option Addr) (c_:Nat),n_ = (qaw l4).length - k ∧ k ≤ (qaw l4).length ∧ LInv bF 76 [⟨ez,0,[.int .i64 ac,.int .i64 af,.int .i64 ag,.int .i64 ae,.int .i64 ah,.int .i64 ai,.int .i64 ab,.slice ay aa.length az],true⟩,⟨eB,0,[.int .i64 n1,.slice A6 s2.length c7,.bool b3,.slice A8 l4.length c9,.slice aK u5.length aL],true⟩] [brow A_ c_ 5 (qao flex (Fld.nul (Fld.mk ac af ag ae ah ai ab aa) v (Tree.mk n1 s2 b3 l4 u5)) ((qaw l4).length) 4 ++ ((qaw l4).take k).flatMap (qaL (qaU d aa v flex) ab false flex))] [(1,.v (.int .i64 v)),(2,.v (.bool flex)),(4,.p 0 0),(10,.v (.slice A8 ((qaw l4).length) c9)),(11,.v (.slice A_ ((qao flex (Fld.nul (Fld.mk ac af ag ae ah ai ab aa) v (Tree.mk n1 s2 b3 l4 u5)) ((qaw l4).length) 4 ++ ((qaw l4).take k).flatMap (qaL (qaU d aa v flex) ab false flex)).length) c_)),(30,.v (.int .i64 (((qaw l4).length:Nat):Int))),(31,.v (.int .i64 ((k:Nat):Int)))] a_ w_) ((qaw l4).length) ⟨0,aM,aN,by omega,by omega,bD.pk,bF,Fr.refl _ _ _⟩ ?_
  rintro fy fz fA ⟨k,A_,c_,eI,eJ,cD,ax,cE⟩
  refine qas [(1,.v (.int .i64 v)),(2,.v (.bool flex)),(4,.p 0 0),(10,.v (.slice A8 ((qaw l4).length) c9)),(11,.v (.slice A_ ((qao flex (z5 ac af ag ae ah ai ab aa v n1 s2 b3 l4 u5) ((qaw l4).length) 4 ++ ((qaw l4).take k).flatMap (qaL (qaU d aa v flex) ab false flex)).length) c_)),(30,.v (.int .i64 (((qaw l4).length:Nat):Int))),(31,.v (.int .i64 ((k:Nat):Int))),(32,.v (.bool (decide (((k:Nat):Int) < (((qaw l4).length:Nat):Int)))))] ax cD fun fB aP=>?_
  refine wp_seq (qax aP (b:=decide (((k:Nat):Int) < (((qaw l4).length:Nat):Int))) kz (fun aQ=>?_) (fun aQ=>?_))
  ·
   have eK:=of_decide_eq_true aQ
   refine wp_skip (qaa (wp_seq (wp_block (qas [(1,.v (.int .i64 v)),(2,.v (.bool flex)),(4,.p 0 0),(10,.v (.slice A8 ((qaw l4).length) c9)),(11,.v (.slice A_ ((qao flex (z5 ac af ag ae ah ai ab aa v n1 s2 b3 l4 u5) ((qaw l4).length) 4 ++ ((qaw l4).take k).flatMap (qaL (qaU d aa v flex) ab false flex)).length) c_)),(12,.v (.int .i64 ((k:Nat):Int))),(30,.v (.int .i64 (((qaw l4).length:Nat):Int))),(31,.v (.int .i64 ((k:Nat):Int)))] ax aP fun fC cG=>?_))))
   refine qhW 13 kz ax fun fD cH ar aR=>?_
   refine qaY [0,1,2,3,4,5,6,7,8] [(1,.v (.int .i64 v)),(2,.v (.bool flex)),(4,.p 0 0),(10,.v (.slice A8 ((qaw l4).length) c9)),(11,.v (.slice A_ ((qao flex (z5 ac af ag ae ah ai ab aa v n1 s2 b3 l4 u5) ((qaw l4).length) 4 ++ ((qaw l4).take k).flatMap (qaL (qaU d aa v flex) ab false flex)).length) c_)),(30,.v (.int .i64 (((qaw l4).length:Nat):Int))),(31,.v (.int .i64 ((k:Nat):Int))),(34,.v (.slice A_ ((qao flex (z5 ac af ag ae ah ai ab aa v n1 s2 b3 l4 u5) ((qaw l4).length) 4 ++ ((qaw l4).take k).flatMap (qaL (qaU d aa v flex) ab false flex)).length) c_)),(36,.v (.int .i64 ab)),(38,.v (.slice ay aa.length az)),(39,.v (.int .i64 v)),(40,.v (.bool flex)),(41,.v (.slice A8 ((qaw l4).length) c9)),(42,.v (.int .i64 ((k:Nat):Int)))] 5 (qai (qad (qad (qai (qad (qad qah)))))) (fun _ h=>h.cells) aR cG fun fE cI=>?_
   obtain ⟨bQ,bR,cJ,eL,aS⟩:=Slots.get (qgN dW) (i:=k) (by omega)
   obtain ⟨ek,aF⟩:∃ x,(qaw l4)[k]? = some x:=⟨_,List.getElem?_eq_getElem (by omega)⟩
   have aT:=(qho eZ) k ek aF
   obtain ⟨ak,al,am,ao,ap,aU,aV,aW,aX,aY,aZ,eM,rfl,ba,em,eo,fF,fG⟩:=aT.open_
   rw [ba] at aT
   have ep:=em.small
   have eu:=eo.small
   rw [ba] at aS
   refine qbc cI (i:=9) (t:=25) (A:=A8) (m:=((qaw l4).length)) (q:=((k:Nat):Int)) (d:=43) kz (e:=28) (size:=5) (bytes:=88) kz cJ rfl (by omega) kz kz (qai (qad (qad (qai (qad (qad qah)))))) aR fun fH cK=>?_
   refine qba cK (i:=10) (t:=28) (b:=bQ) (o:=bR + k * 5) (d:=44) kz (cs:=(z10 ak aU al.length aV am aW ao.length aX aY ap.length aZ)) (v:=.agg #[.int .i64 ak,.slice aU al.length aV,.bool am,.slice aW ao.length aX,.slice aY ap.length aZ]) kz (fun w' h'=>(AtF.move aS (TT.step0 ar h') nilM qbf).at_) kz kz (qai (qad (qad (qai (qad (qad qah)))))) aR fun fI cL=>?_
   refine qaN (i:=11) kz (qal cL (f:=111) (vs:=[.int .i64 ab,.slice ay aa.length az,.bool false,.int .i64 v,.bool flex,.agg #[.int .i64 ak,.slice aU al.length aV,.bool am,.slice aW ao.length aX,.slice aY ap.length aZ]]) (d:=45) kz Tryz.call111 (qj0 hp ab _ _ aa false v flex _ (Tree.mk ak al am ao ap) _ _ ⟨bw,(b8.move ar.step nilM ar.imm),(fun i_ x_ h_=>((dV i_ x_ h_).move ar.step nilM ar.imm))⟩ hd (aT.move ar.step nilM ar.imm) (by have:=qfY (g:=qaL (qaU d aa v flex) ab false flex) aF; omega)) ?_)
   rintro e_ fJ ⟨bd,bf,rfl,cM,cN⟩
   refine ⟨_,rfl,fun fK cO=>?_⟩
   obtain ⟨aG,bg⟩:=ar.frFresh cN (brow bd bf 5 (qaL (qaU d aa v flex) ab false flex (Tree.mk ak al am ao ap))) (Nat.le_refl _) cM
   have cP:=TT.ofW bg aG
   refine ⟨fun _=>cP,?_⟩
   refine qaN (i:=12) kz (qaJ aG cO (k:=0) (d:=46) (t:=24) (e:=5) (size:=1) (bytes:=1) (A:=A_) (As:=bd) (m0:=((qao flex (Fld.nul (Fld.mk ac af ag ae ah ai ab aa) v (Tree.mk n1 s2 b3 l4 u5)) ((qaw l4).length) 4 ++ ((qaw l4).take k).flatMap (qaL (qaU d aa v flex) ab false flex)).length)) (c:=c_) (m:=((qaL (qaU d aa v flex) ab false flex (Tree.mk ak al am ao ap)).length)) (cs:=bf) (xs:=(bc (qao flex (Fld.nul (Fld.mk ac af ag ae ah ai ab aa) v (Tree.mk n1 s2 b3 l4 u5)) ((qaw l4).length) 4 ++ ((qaw l4).take k).flatMap (qaL (qaU d aa v flex) ab false flex)))) (news:=bc (qaL (qaU d aa v flex) ab false flex (Tree.mk ak al am ao ap))) kz kz rfl (qbY (aG.own 1 _ rfl) (qco _)) (qb7 (aG.own 1 _ rfl)) (by rw [List.length_append]; have h8_:=hr3 k; have h9_:=qfY (g:=qaL (qaU d aa v flex) ab false flex) aF; omega) fun av aw fL fM bG cQ cR=>?_)
   have cS:(⟨av,aw,5,1,(qao flex (z5 ac af ag ae ah ai ab aa v n1 s2 b3 l4 u5) ((qaw l4).length) 4 ++ ((qaw l4).take k).flatMap (qaL (qaU d aa v flex) ab false flex)).length + (qaL (qaU d aa v flex) ab false flex (Tree.mk ak al am ao ap)).length,bc (qao flex (z5 ac af ag ae ah ai ab aa v n1 s2 b3 l4 u5) ((qaw l4).length) 4 ++ ((qaw l4).take k).flatMap (qaL (qaU d aa v flex) ab false flex)) ++ bc (qaL (qaU d aa v flex) ab false flex (Tree.mk ak al am ao ap))⟩:Rw) = brow av aw 5 (qao flex (z5 ac af ag ae ah ai ab aa v n1 s2 b3 l4 u5) ((qaw l4).length) 4 ++ ((qaw l4).take k).flatMap (qaL (qaU d aa v flex) ab false flex) ++ (qaL (qaU d aa v flex) ab false flex (Tree.mk ak al am ao ap))):=qa0 (rfl) rfl
   obtain ⟨aH,bH⟩:=cQ.rowEq 0 [brow av aw 5 (qao flex (z5 ac af ag ae ah ai ab aa v n1 s2 b3 l4 u5) ((qaw l4).length) 4 ++ ((qaw l4).take k).flatMap (qaL (qaU d aa v flex) ab false flex) ++ (qaL (qaU d aa v flex) ab false flex (Tree.mk ak al am ao ap))),brow bd bf 5 (qaL (qaU d aa v flex) ab false flex (Tree.mk ak al am ao ap))] cS
   have cT:=EnvOk.pick cR (ks:=[1,2,4,10,11,30,31,34,36,38,39,40,41,42,43,44,45,46]) (env':=[(1,.v (.int .i64 v)),(2,.v (.bool flex)),(4,.p 0 0),(10,.v (.slice A8 ((qaw l4).length) c9)),(11,.v (.slice A_ ((qao flex (z5 ac af ag ae ah ai ab aa v n1 s2 b3 l4 u5) ((qaw l4).length) 4 ++ ((qaw l4).take k).flatMap (qaL (qaU d aa v flex) ab false flex)).length) c_)),(30,.v (.int .i64 (((qaw l4).length:Nat):Int))),(31,.v (.int .i64 ((k:Nat):Int))),(34,.v (.slice A_ ((qao flex (z5 ac af ag ae ah ai ab aa v n1 s2 b3 l4 u5) ((qaw l4).length) 4 ++ ((qaw l4).take k).flatMap (qaL (qaU d aa v flex) ab false flex)).length) c_)),(36,.v (.int .i64 ab)),(38,.v (.slice ay aa.length az)),(39,.v (.int .i64 v)),(40,.v (.bool flex)),(41,.v (.slice A8 ((qaw l4).length) c9)),(42,.v (.int .i64 ((k:Nat):Int))),(43,.v (.pointer (some ⟨bQ,bR + k * 5,none⟩))),(44,.v (.agg #[.int .i64 ak,.slice aU al.length aV,.bool am,.slice aW ao.length aX,.slice aY ap.length aZ])),(45,.v (.slice bd ((qaL (qaU d aa v flex) ab false flex (Tree.mk ak al am ao ap)).length) bf)),(46,.v (.slice av ((qao flex (z5 ac af ag ae ah ai ab aa v n1 s2 b3 l4 u5) ((qaw l4).length) 4 ++ ((qaw l4).take k).flatMap (qaL (qaU d aa v flex) ab false flex)).length + (qaL (qaU d aa v flex) ab false flex (Tree.mk ak al am ao ap)).length) aw))]) kz
   have cU:=cT.cast (env':=[(1,.v (.int .i64 v)),(2,.v (.bool flex)),(4,.p 0 0),(10,.v (.slice A8 ((qaw l4).length) c9)),(11,.v (.slice A_ ((qao flex (Fld.nul (Fld.mk ac af ag ae ah ai ab aa) v (Tree.mk n1 s2 b3 l4 u5)) ((qaw l4).length) 4 ++ ((qaw l4).take k).flatMap (qaL (qaU d aa v flex) ab false flex)).length) c_)),(30,.v (.int .i64 (((qaw l4).length:Nat):Int))),(31,.v (.int .i64 ((k:Nat):Int))),(34,.v (.slice A_ ((qao flex (Fld.nul (Fld.mk ac af ag ae ah ai ab aa) v (Tree.mk n1 s2 b3 l4 u5)) ((qaw l4).length) 4 ++ ((qaw l4).take k).flatMap (qaL (qaU d aa v flex) ab false flex)).length) c_)),(36,.v (.int .i64 ab)),(38,.v (.slice ay aa.length az)),(39,.v (.int .i64 v)),(40,.v (.bool flex)),(41,.v (.slice A8 ((qaw l4).length) c9)),(42,.v (.int .i64 ((k:Nat):Int))),(43,.v (.pointer (some ⟨bQ,bR + k * 5,none⟩))),(44,.v (.agg #[.int .i64 ak,.slice aU al.length aV,.bool am,.slice aW ao.length aX,.slice aY ap.length aZ])),(45,.v (.slice bd ((qaL (qaU d aa v flex) ab false flex (Tree.mk ak al am ao ap)).length) bf)),(46,.v (.slice av ((qao flex (Fld.nul (Fld.mk ac af ag ae ah ai ab aa) v (Tree.mk n1 s2 b3 l4 u5)) ((qaw l4).length) 4 ++ ((qaw l4).take k).flatMap (qaL (qaU d aa v flex) ab false flex) ++ (qaL (qaU d aa v flex) ab false flex (Tree.mk ak al am ao ap))).length) aw))]) (by simp only [List.length_append,List.length_cons,List.length_nil,Nat.zero_add])
   have cV:=TT.ofW ((bg.trans bG).trans bH) aH
   refine ⟨fun _=>cV,?_⟩
   refine qaN (i:=13) kz (qcd [1,2,4,10,11,30,31] aH.cells cU (env':=[(1,.v (.int .i64 v)),(2,.v (.bool flex)),(4,.p 0 0),(10,.v (.slice A8 ((qaw l4).length) c9)),(11,.v (.slice av ((qao flex (z5 ac af ag ae ah ai ab aa v n1 s2 b3 l4 u5) ((qaw l4).length) 4 ++ ((qaw l4).take k).flatMap (qaL (qaU d aa v flex) ab false flex) ++ (qaL (qaU d aa v flex) ab false flex (Tree.mk ak al am ao ap))).length) aw)),(30,.v (.int .i64 (((qaw l4).length:Nat):Int))),(31,.v (.int .i64 ((k:Nat):Int)))]) kz fun fN cW=>?_)
   refine ⟨fun h=>absurd rfl h,?_⟩
   refine qaX kz ?_ _
   refine qaE (qaa (qar [0,1] kz ?_))
   refine qaj [0,1] [] [(1,.v (.int .i64 v)),(2,.v (.bool flex)),(4,.p 0 0),(10,.v (.slice A8 ((qaw l4).length) c9)),(11,.v (.slice av ((qao flex (z5 ac af ag ae ah ai ab aa v n1 s2 b3 l4 u5) ((qaw l4).length) 4 ++ ((qaw l4).take k).flatMap (qaL (qaU d aa v flex) ab false flex) ++ (qaL (qaU d aa v flex) ab false flex (Tree.mk ak al am ao ap))).length) aw)),(30,.v (.int .i64 (((qaw l4).length:Nat):Int))),(31,.v (.int .i64 (IntKind.i64.wrap (((k:Nat):Int) + 1))))] aH cW fun fO bh=>?_
   refine qaf (qaa ?_)
   obtain ⟨cX,cY⟩:=aH.cutR 1 [brow av aw 5 (qao flex (z5 ac af ag ae ah ai ab aa v n1 s2 b3 l4 u5) ((qaw l4).length) 4 ++ ((qaw l4).take k).flatMap (qaL (qaU d aa v flex) ab false flex) ++ (qaL (qaU d aa v flex) ab false flex (Tree.mk ak al am ao ap)))]
   have bI:(qao flex (Fld.nul (Fld.mk ac af ag ae ah ai ab aa) v (Tree.mk n1 s2 b3 l4 u5)) ((qaw l4).length) 4 ++ ((qaw l4).take k).flatMap (qaL (qaU d aa v flex) ab false flex) ++ (qaL (qaU d aa v flex) ab false flex (Tree.mk ak al am ao ap))) = (qao flex (Fld.nul (Fld.mk ac af ag ae ah ai ab aa) v (Tree.mk n1 s2 b3 l4 u5)) ((qaw l4).length) 4 ++ ((qaw l4).take (k + 1)).flatMap (qaL (qaU d aa v flex) ab false flex)):=by rw [qcJ aF,List.append_assoc]
   have cZ:=congrArg (brow av aw 5) bI
   obtain ⟨da,db⟩:=cX.rowEq 0 [brow av aw 5 (qao flex (z5 ac af ag ae ah ai ab aa v n1 s2 b3 l4 u5) ((qaw l4).length) 4 ++ ((qaw l4).take (k + 1)).flatMap (qaL (qaU d aa v flex) ab false flex))] cZ
   rw [bI] at bh
   have dc:IntKind.i64.wrap (((k:Nat):Int) + 1) = ((k + 1:Nat):Int):=qbh (by omega)
   rw [dc] at bh
   exact ⟨(qaw l4).length - (k + 1),by omega,k + 1,av,aw,rfl,by omega,bh.pk,da,((((((cE.trans cH).trans bg).trans bG).trans bH).trans cY).trans db)⟩
  have eN:=of_decide_eq_false aQ
  refine wp_exit (qaz (qaz (qaQ (qaa (qas [(8,.v (.slice A_ ((qao flex (z5 ac af ag ae ah ai ab aa v n1 s2 b3 l4 u5) ((qaw l4).length) 4 ++ ((qaw l4).take k).flatMap (qaL (qaU d aa v flex) ab false flex)).length) c_))] ax aP fun fP de=>?_)))))
  refine wp_ret (qaC (qaD de ax.cells (v:=.slice A_ ((qao flex (z5 ac af ag ae ah ai ab aa v n1 s2 b3 l4 u5) ((qaw l4).length) 4 ++ ((qaw l4).take k).flatMap (qaL (qaU d aa v flex) ab false flex)).length) c_) kz ?_))
  have hkk:(qaw l4).take k = qaw l4:=List.take_of_length_le (by omega)
  exact qa4 ax (k:=0) rfl (by rw [hkk,qgQ ‹_› ‹_›]; rfl)
 have eO:ac ≠ 11:=by simpa using bN
 refine wp_skip (qaa (wp_seq (qae [0,1,2,3,4,5,6,7] kz ?_)))
 refine qaj [0,1,2,3] [4,5,6,7] [(1,.v (.int .i64 v)),(2,.v (.bool flex)),(4,.p 0 0),(7,.p 1 0),(9,.v (.bool (z5 ac af ag ae ah ai ab aa v n1 s2 b3 l4 u5))),(52,.v (.bool (ac == 10)))] aj bM fun fQ bJ=>?_
 refine (Bool.eq_false_or_eq_true (ac == 10)).elim (fun aA=>?_) (fun aA=>?_)
 ·
  have eP:ac = 10:=by simpa using aA
  have df:=bJ
  rw [aA] at df
  refine qaj [4,5,6,7] [] [(1,.v (.int .i64 v)),(2,.v (.bool flex)),(4,.p 0 0),(7,.p 1 0),(9,.v (.bool (z5 ac af ag ae ah ai ab aa v n1 s2 b3 l4 u5))),(56,.v (.bool (decide (ae ≥ 0))))] aj df fun fR bi=>?_
  refine qaf (qaa ?_)
  refine qax bi (b:=decide (ae ≥ 0)) kz (fun bj=>?_) (fun bj=>?_)
  ·
   have eQ:=of_decide_eq_true bj
   refine wp_seq (qas [(1,.v (.int .i64 v)),(2,.v (.bool flex)),(4,.p 0 0),(7,.p 1 0),(57,.v (.bool (z5 ac af ag ae ah ai ab aa v n1 s2 b3 l4 u5)))] aj bi fun fS bk=>?_)
   refine qax bk (b:=Fld.nul (Fld.mk ac af ag ae ah ai ab aa) v (Tree.mk n1 s2 b3 l4 u5)) kz (fun dg=>?_) (fun dg=>?_)
   ·
    refine qae [0,1] kz ?_
    refine qam (qal bk (f:=46) (vs:=[.int .i64 (-1),.int .i64 1]) (d:=58) kz Tryz.call46 (qcR (-1) 1 (by first | decide | exact qa8 _ | omega) _) ?_)
    rintro e_ fT ⟨bS,bT,rfl,dh,di⟩
    refine ⟨_,rfl,fun fU dj=>?_⟩
    obtain ⟨bn,eR⟩:=aj.frFresh di (brow bS bT 5 (be 1 (-1))) (Nat.le_refl _) dh
    refine qaj [1] [] [(8,.v (.slice bS ((be 1 (-1)).length) bT))] bn dj fun fV dl=>?_
    refine qaf (qaa ?_)
    refine wp_ret (qaC (qaC (qaD dl bn.cells (v:=.slice bS ((be 1 (-1)).length) bT) kz ?_)))
    exact qa4 bn (k:=0) rfl (by first | rw [qec ‹_› ‹_›] | rw [qeb ‹_› ‹_› ‹_›] | rw [qdn ‹_› ‹_› ‹_› ‹_›] | rw [qea ‹_› ‹_› ‹_› ‹_›])
   refine wp_skip (qaa (qbm 8 kz aj fun fW eS dp dq=>?_))
   refine qaY [1,2,3,4,5] [(61,.v (.slice ay aa.length az)),(62,.v (.int .i64 v)),(63,.v (.bool flex)),(64,.v (.agg #[.int .i64 n1,.slice A6 s2.length c7,.bool b3,.slice A8 l4.length c9,.slice aK u5.length aL]))] 4 (qad (qad qah)) (fun _ h=>h.cells) dq bk fun fX dr=>?_
   refine qaN (i:=0) kz (qal dr (f:=46) (vs:=[.int .i64 1,.int .i64 1]) (d:=59) kz Tryz.call46 (qcR 1 1 (by first | decide | exact qa8 _ | omega) _) ?_)
   rintro e_ fY ⟨bz,bA,rfl,dt,du⟩
   refine ⟨_,rfl,fun fZ dv=>?_⟩
   obtain ⟨au,bo⟩:=dp.frFresh du (brow bz bA 5 (be 1 1)) (Nat.le_refl _) dt
   have dw:=TT.ofW bo au
   refine ⟨fun _=>dw,?_⟩
   refine qaN (i:=6) kz (qal dv (f:=42) (vs:=[.slice ay aa.length az,.int .i64 v,.bool flex,.agg #[.int .i64 n1,.slice A6 s2.length c7,.bool b3,.slice A8 l4.length c9,.slice aK u5.length aL]]) (d:=65) kz Tryz.call42 (hp _ _ aa v flex _ (Tree.mk n1 s2 b3 l4 u5) _ _ ⟨bw,(b8.move au.step nilM au.imm),(fun i_ x_ h_=>((dV i_ x_ h_).move au.step nilM au.imm))⟩ hd (ht.move au.step nilM au.imm) (by have h9_:=hroom; rw [qdn ‹_› ‹_› ‹_› ‹_›,List.length_append] at h9_; omega)) ?_)
   rintro e_ f5 ⟨bp,bq,rfl,dx,dy⟩
   refine ⟨_,rfl,fun f7 dz=>?_⟩
   obtain ⟨aI,bK⟩:=au.frFresh dy (brow bp bq 5 (qaU d aa v flex (Tree.mk n1 s2 b3 l4 u5))) (Nat.le_refl _) dx
   have dA:=TT.ofW (bo.trans bK) aI
   refine ⟨fun _=>dA,?_⟩
   refine qaN (i:=7) kz (qaJ aI dz (k:=0) (d:=66) (t:=24) (e:=5) (size:=1) (bytes:=1) (A:=bz) (As:=bp) (m0:=((be 1 1).length)) (c:=bA) (m:=((qaU d aa v flex (Tree.mk n1 s2 b3 l4 u5)).length)) (cs:=bq) (xs:=(bc (be 1 1))) (news:=bc (qaU d aa v flex (Tree.mk n1 s2 b3 l4 u5))) kz kz rfl (qbY (aI.own 1 _ rfl) (qco _)) (qb7 (aI.own 1 _ rfl)) (by have h9_:=hroom; rw [qdn ‹_› ‹_› ‹_› ‹_›,List.length_append] at h9_; omega) fun aC aD f8 f9 dB dC dD=>?_)
   have dE:(⟨aC,aD,5,1,(be 1 1).length + (qaU d aa v flex (Tree.mk n1 s2 b3 l4 u5)).length,bc (be 1 1) ++ bc (qaU d aa v flex (Tree.mk n1 s2 b3 l4 u5))⟩:Rw) = brow aC aD 5 (be 1 1 ++ (qaU d aa v flex (Tree.mk n1 s2 b3 l4 u5))):=qa0 (rfl) rfl
   obtain ⟨aJ,dF⟩:=dC.rowEq 0 [brow aC aD 5 (be 1 1 ++ (qaU d aa v flex (Tree.mk n1 s2 b3 l4 u5))),brow bp bq 5 (qaU d aa v flex (Tree.mk n1 s2 b3 l4 u5))] dE
   have dG:=EnvOk.pick dD (ks:=[61,62,63,64,59,65,66]) (env':=[(61,.v (.slice ay aa.length az)),(62,.v (.int .i64 v)),(63,.v (.bool flex)),(64,.v (.agg #[.int .i64 n1,.slice A6 s2.length c7,.bool b3,.slice A8 l4.length c9,.slice aK u5.length aL])),(59,.v (.slice bz ((be 1 1).length) bA)),(65,.v (.slice bp ((qaU d aa v flex (Tree.mk n1 s2 b3 l4 u5)).length) bq)),(66,.v (.slice aC ((be 1 1).length + (qaU d aa v flex (Tree.mk n1 s2 b3 l4 u5)).length) aD))]) kz
   have dH:=dG.cast (env':=[(61,.v (.slice ay aa.length az)),(62,.v (.int .i64 v)),(63,.v (.bool flex)),(64,.v (.agg #[.int .i64 n1,.slice A6 s2.length c7,.bool b3,.slice A8 l4.length c9,.slice aK u5.length aL])),(59,.v (.slice bz ((be 1 1).length) bA)),(65,.v (.slice bp ((qaU d aa v flex (Tree.mk n1 s2 b3 l4 u5)).length) bq)),(66,.v (.slice aC ((be 1 1 ++ (qaU d aa v flex (Tree.mk n1 s2 b3 l4 u5))).length) aD))]) (by simp only [List.length_append,List.length_cons,List.length_nil,Nat.zero_add])
   have dI:=TT.ofW (((bo.trans bK).trans dB).trans dF) aJ
   refine ⟨fun _=>dI,?_⟩
   refine qaN (i:=8) kz (qcd [8] aJ.cells dH (env':=[(8,.v (.slice aC ((be 1 1 ++ (qaU d aa v flex (Tree.mk n1 s2 b3 l4 u5))).length) aD))]) kz fun ga dJ=>?_)
   refine ⟨fun h=>absurd rfl h,?_⟩
   refine qaX kz ?_ _
   refine qaa (wp_ret (qaC (qaD dJ aJ.cells (v:=.slice aC ((be 1 1 ++ (qaU d aa v flex (Tree.mk n1 s2 b3 l4 u5))).length) aD) kz ?_)))
   exact qa4 aJ (k:=0) rfl (by first | rw [qec ‹_› ‹_›] | rw [qeb ‹_› ‹_› ‹_›] | rw [qdn ‹_› ‹_› ‹_› ‹_›] | rw [qea ‹_› ‹_› ‹_› ‹_›])
  have eT:=of_decide_eq_false bj
  refine wp_skip (qaa (qae [0,1,2,3,4,5,6,7,8,9] kz ?_))
  refine qaj [0,1,2,3,4,5,6,7] [8,9] [(68,.v (.int .i64 ac)),(70,.v (.slice ay aa.length az)),(71,.v (.bool (z5 ac af ag ae ah ai ab aa v n1 s2 b3 l4 u5))),(72,.v (.int .i64 v)),(73,.v (.bool flex)),(74,.v (.agg #[.int .i64 n1,.slice A6 s2.length c7,.bool b3,.slice A8 l4.length c9,.slice aK u5.length aL]))] aj bi fun gb dK=>?_
  refine qam (qal dK (f:=111) (vs:=[.int .i64 ac,.slice ay aa.length az,.bool (Fld.nul (Fld.mk ac af ag ae ah ai ab aa) v (Tree.mk n1 s2 b3 l4 u5)),.int .i64 v,.bool flex,.agg #[.int .i64 n1,.slice A6 s2.length c7,.bool b3,.slice A8 l4.length c9,.slice aK u5.length aL]]) (d:=75) kz Tryz.call111 (qj0 hp ac _ _ aa (Fld.nul (Fld.mk ac af ag ae ah ai ab aa) v (Tree.mk n1 s2 b3 l4 u5)) v flex _ (Tree.mk n1 s2 b3 l4 u5) _ _ ⟨bw,(b8.move aj.step nilM aj.imm),(fun i_ x_ h_=>((dV i_ x_ h_).move aj.step nilM aj.imm))⟩ hd (ht.move aj.step nilM aj.imm) (by have h_:=hroom; (first | rw [qec ‹_› ‹_›] at h_ | rw [qeb ‹_› ‹_› ‹_›] at h_); exact h_)) ?_)
  rintro e_ gc ⟨bU,bV,rfl,dL,dM⟩
  refine ⟨_,rfl,fun gd dN=>?_⟩
  obtain ⟨bt,eU⟩:=aj.frFresh dM (brow bU bV 5 (qaL (qaU d aa v flex) ac (z5 ac af ag ae ah ai ab aa v n1 s2 b3 l4 u5) flex (Tree.mk n1 s2 b3 l4 u5))) (Nat.le_refl _) dL
  refine qaj [9] [] [(8,.v (.slice bU ((qaL (qaU d aa v flex) ac (z5 ac af ag ae ah ai ab aa v n1 s2 b3 l4 u5) flex (Tree.mk n1 s2 b3 l4 u5)).length) bV))] bt dN fun ge dO=>?_
  refine qaf (qaa ?_)
  refine wp_ret (qaD dO bt.cells (v:=.slice bU ((qaL (qaU d aa v flex) ac (z5 ac af ag ae ah ai ab aa v n1 s2 b3 l4 u5) flex (Tree.mk n1 s2 b3 l4 u5)).length) bV) kz ?_)
  exact qa4 bt (k:=0) rfl (by first | rw [qec ‹_› ‹_›] | rw [qeb ‹_› ‹_› ‹_›] | rw [qdn ‹_› ‹_› ‹_› ‹_›] | rw [qea ‹_› ‹_› ‹_› ‹_›])
 have eV:ac ≠ 10:=by simpa using aA
 have dP:=bJ.cast (env':=[(1,.v (.int .i64 v)),(2,.v (.bool flex)),(4,.p 0 0),(7,.p 1 0),(9,.v (.bool (Fld.nul (Fld.mk ac af ag ae ah ai ab aa) v (Tree.mk n1 s2 b3 l4 u5)))),(52,.v (.bool false))]) (by rw [aA])
 refine qaj [4,5,6,7] [] [(1,.v (.int .i64 v)),(2,.v (.bool flex)),(4,.p 0 0),(7,.p 1 0),(9,.v (.bool (z5 ac af ag ae ah ai ab aa v n1 s2 b3 l4 u5))),(56,.v (.bool false))] aj dP fun gg bL=>?_
 refine qaf (qaa ?_)
 refine qau bL (b:=false) kz rfl ?_
 refine wp_skip (qaa (qae [0,1,2,3,4,5,6,7,8,9] kz ?_))
 refine qaj [0,1,2,3,4,5,6,7] [8,9] [(68,.v (.int .i64 ac)),(70,.v (.slice ay aa.length az)),(71,.v (.bool (z5 ac af ag ae ah ai ab aa v n1 s2 b3 l4 u5))),(72,.v (.int .i64 v)),(73,.v (.bool flex)),(74,.v (.agg #[.int .i64 n1,.slice A6 s2.length c7,.bool b3,.slice A8 l4.length c9,.slice aK u5.length aL]))] aj bL fun gh dQ=>?_
 refine qam (qal dQ (f:=111) (vs:=[.int .i64 ac,.slice ay aa.length az,.bool (Fld.nul (Fld.mk ac af ag ae ah ai ab aa) v (Tree.mk n1 s2 b3 l4 u5)),.int .i64 v,.bool flex,.agg #[.int .i64 n1,.slice A6 s2.length c7,.bool b3,.slice A8 l4.length c9,.slice aK u5.length aL]]) (d:=75) kz Tryz.call111 (qj0 hp ac _ _ aa (Fld.nul (Fld.mk ac af ag ae ah ai ab aa) v (Tree.mk n1 s2 b3 l4 u5)) v flex _ (Tree.mk n1 s2 b3 l4 u5) _ _ ⟨bw,(b8.move aj.step nilM aj.imm),(fun i_ x_ h_=>((dV i_ x_ h_).move aj.step nilM aj.imm))⟩ hd (ht.move aj.step nilM aj.imm) (by have h_:=hroom; (first | rw [qec ‹_› ‹_›] at h_ | rw [qeb ‹_› ‹_› ‹_›] at h_); exact h_)) ?_)
 rintro e_ gi ⟨bW,bX,rfl,dR,dS⟩
 refine ⟨_,rfl,fun gj dT=>?_⟩
 obtain ⟨bu,eW⟩:=aj.frFresh dS (brow bW bX 5 (qaL (qaU d aa v flex) ac (z5 ac af ag ae ah ai ab aa v n1 s2 b3 l4 u5) flex (Tree.mk n1 s2 b3 l4 u5))) (Nat.le_refl _) dR
 refine qaj [9] [] [(8,.v (.slice bW ((qaL (qaU d aa v flex) ac (z5 ac af ag ae ah ai ab aa v n1 s2 b3 l4 u5) flex (Tree.mk n1 s2 b3 l4 u5)).length) bX))] bu dT fun gk dU=>?_
 refine qaf (qaa ?_)
 refine wp_ret (qaD dU bu.cells (v:=.slice bW ((qaL (qaU d aa v flex) ac (z5 ac af ag ae ah ai ab aa v n1 s2 b3 l4 u5) flex (Tree.mk n1 s2 b3 l4 u5)).length) bX) kz ?_)
 exact qa4 bu (k:=0) rfl (by first | rw [qec ‹_› ‹_›] | rw [qeb ‹_› ‹_› ‹_›] | rw [qdn ‹_› ‹_› ‹_› ‹_›] | rw [qea ‹_› ‹_› ‹_› ‹_›])
theorem qii (Af:Option Addr) (cf:Nat) (l:List Fld) (A:Option Addr) (c:Nat) (u:List (Int × Bs)) (w:World) (F:Nat → Nat → Prop) (hl:FldsR w F Af cf l) (hu:TagsR w F A c u) :
  Calls Tryz.prog 86 #[.slice Af l.length cf,.slice A u.length c] w (qk6 w F (qan l u)):=by
 obtain ⟨xf,hf1,hf2⟩:=hl.ex
 obtain ⟨xu,hu1,hu2⟩:=hu.ex
 have hsmu:=hu1.small
 have hule:(u.take 32767).length ≤ 32767:=by rw [List.length_take]; omega
 refine enter (n:=85) Tryz.func86 rfl Tryz.ntmps86 kz fun a hE=>?_
 have hW:=WOk.start w Nil
 refine qas [(0,.v (.slice Af l.length cf)),(1,.v (.slice A u.length c))] hW hE fun a1 hE2=>?_
 refine qae [0,1,2] kz ?_
 refine qaj [0] [1,2] [(1,.v (.slice A u.length c)),(11,.v (.slice Af l.length cf))] hW hE2 fun a3 hE4=>?_
 refine qam (qal hE4 (f:=83) (vs:=[.slice Af l.length cf]) (d:=12) kz Tryz.call83 (qle _ _ l _ _ ⟨xf,(hf1.move hW.step nilM hW.imm),(fun i_ x_ h_=>((hf2 i_ x_ h_).move hW.step nilM hW.imm))⟩) ?_)
 rintro e_ w6 ⟨rfl,hs5⟩
 refine ⟨_,rfl,fun a7 hE8=>?_⟩
 have hW9:=hW.next_nil hs5
 have fA:=hW.frN hs5
 refine qaj [2] [] [(1,.v (.slice A u.length c)),(5,.v (.int .u32 (qat l)))] hW9 hE8 fun hJ eF=>?_
 refine qaf (qaa ?_)
 refine qas [(1,.v (.slice A u.length c)),(5,.v (.int .u32 (qat l))),(6,.v (.slice none 0 0))] hW9 eF fun hK eG=>?_
 refine wp_seq (qae [0,1,2,3,4,5,6] kz ?_)
 refine qaj [0,1,2,3] [4,5,6] [(5,.v (.int .u32 (qat l))),(6,.v (.slice none 0 0)),(13,.v (.slice A u.length c)),(16,.v (.int .i64 (if 32767 < ((u.length:Nat):Int) then 32767 else ((u.length:Nat):Int))))] hW9 eG fun hZ eH=>?_
 refine qam (qbD eH (t:=26) (A:=A) (m:=u.length) (cp:=c) (q:=(if 32767 < ((u.length:Nat):Int) then 32767 else ((u.length:Nat):Int))) (d:=17) (j:=(u.take 32767).length) kz (e:=73) (size:=2) (bytes:=32) kz (by simpa using qhl u.length) (by rw [List.length_take]; have:=hu1.le; omega) fun ia eI=>?_)
 refine qaj [5,6] [] [(5,.v (.int .u32 (qat l))),(6,.v (.slice none 0 0)),(17,.v (.slice A ((u.take 32767).length) c)),(18,.v (.int .i64 (((u.take 32767).length:Nat):Int))),(19,.v (.int .i64 0))] hW9 eI fun ib eJ=>?_
 refine qaf (qaa ?_)
 refine wp_block ?_
 have cI:=hW9.addNil 73 2
 have fB:=hW9.frNil 73 2
 refine wp_loop_ghost (fun n_ a_ w_=>∃ (k:Nat) (A_:Option Addr) (c_:Nat) (out:List (Int × Bs)) (css:List (List Value)),n_ = (u.take 32767).length - k ∧ k ≤ (u.take 32767).length ∧ (TagsE w_ (Imm F w w_ [] [⟨A_,c_,73,2,out.length,css.flatten⟩]) out css) ∧ (out = ((u.take 32767).take k).foldl (qb4 (qat l)) []) ∧ (out.length ≤ k) ∧ LInv cI 85 [] [⟨A_,c_,73,2,out.length,css.flatten⟩] [(5,.v (.int .u32 (qat l))),(6,.v (.slice A_ out.length c_)),(17,.v (.slice A ((u.take 32767).length) c)),(18,.v (.int .i64 (((u.take 32767).length:Nat):Int))),(19,.v (.int .i64 ((k:Nat):Int)))] a_ w_) ((u.take 32767).length) ⟨0,none,0,[],[],by omega,by omega,TagsE.nil _ _,rfl,Nat.zero_le _,eJ.pk,cI,Fr.refl _ _ _⟩ ?_
 rintro ic ig ii ⟨k,A_,c_,out,css,fC,fD,hT,hout,hlen,eK,aO,aR⟩
 refine qas [(5,.v (.int .u32 (qat l))),(6,.v (.slice A_ out.length c_)),(17,.v (.slice A ((u.take 32767).length) c)),(18,.v (.int .i64 (((u.take 32767).length:Nat):Int))),(19,.v (.int .i64 ((k:Nat):Int))),(20,.v (.bool (decide (((k:Nat):Int) < (((u.take 32767).length:Nat):Int)))))] aO eK fun ij cA=>?_
 refine wp_seq (qax cA (b:=decide (((k:Nat):Int) < (((u.take 32767).length:Nat):Int))) kz (fun cB=>?_) (fun cB=>?_))
 ·
  have fE:=of_decide_eq_true cB
  refine wp_skip (qaa (wp_seq (wp_block (qae [0,1,2,3] kz ?_))))
  obtain ⟨fF,fG,eL,fH,bF⟩:=Slots.get (qfF hu1 32767) (i:=k) (by omega)
  obtain ⟨⟨al,ax⟩,aP⟩:∃ x,(u.take 32767)[k]? = some x:=⟨_,List.getElem?_eq_getElem (by omega)⟩
  obtain ⟨⟨aI,aJ,cJ,cK⟩,fa,fb⟩:=(qfR hu2 32767) k al ax aP
  rw [cJ] at bF
  refine qam (qay cA (t:=26) (A:=A) (m:=((u.take 32767).length)) (q:=((k:Nat):Int)) (d:=21) kz (e:=73) (size:=2) (bytes:=32) kz eL rfl (by omega) fun ik eM=>?_)
  refine qam (qaH eM (t:=73) (b:=fF) (o:=fG + k * 2) (d:=22) kz (cs:=[.int .u32 al,.slice aI ax.length aJ]) (v:=.agg #[.int .u32 al,.slice aI ax.length aJ]) kz (AtF.move bF aO.step nilM qbf).at_ fun il eN=>?_)
  refine qam (qa9 aO eN (d:=8) (cs:=[.int .u32 0,.slice none 0 0]) kz fun eO im io fI fJ ac eP eQ=>?_)
  refine qam (qaI eP eQ (oi:=0) (cs:=[.int .u32 al,.slice aI ax.length aJ]) kz fun ip ae cC eR=>?_)
  refine qaf (qaa ?_)
  refine qas [(5,.v (.int .u32 (qat l))),(6,.v (.slice A_ out.length c_)),(8,.p 0 0),(9,.v (.int .i64 0)),(17,.v (.slice A ((u.take 32767).length) c)),(18,.v (.int .i64 (((u.take 32767).length:Nat):Int))),(19,.v (.int .i64 ((k:Nat):Int)))] cC eR fun iq eS=>?_
  refine wp_seq (wp_block (wp_loop_ghost (fun n_ a_ w_=>∃ (i:Nat),n_ = out.length - i ∧ (i ≤ out.length) ∧ (∀ q,q < i → (out.getD q (0,[])).1 < al) ∧ LInv cC 85 [⟨eO,0,[.int .u32 al,.slice aI ax.length aJ],true⟩] [⟨A_,c_,73,2,out.length,css.flatten⟩] [(5,.v (.int .u32 (qat l))),(6,.v (.slice A_ out.length c_)),(8,.p 0 0),(9,.v (.int .i64 ((i:Nat):Int))),(17,.v (.slice A ((u.take 32767).length) c)),(18,.v (.int .i64 (((u.take 32767).length:Nat):Int))),(19,.v (.int .i64 ((k:Nat):Int)))] a_ w_) (out.length - 0) ⟨0,rfl,Nat.zero_le _,fun q h_=>absurd h_ (Nat.not_lt_zero q),eS.pk,cC,Fr.refl _ _ _⟩ ?_))
  rintro ir iu iv ⟨i,fK,hi,hlt,eT,eU,aa⟩
  refine wp_seq (qcf kz eU fun iw ab aB=>?_)
  refine qaY [0,1,2,3,4] [(5,.v (.int .u32 (qat l))),(6,.v (.slice A_ out.length c_)),(8,.p 0 0),(9,.v (.int .i64 ((i:Nat):Int))),(17,.v (.slice A ((u.take 32767).length) c)),(18,.v (.int .i64 (((u.take 32767).length:Nat):Int))),(19,.v (.int .i64 ((k:Nat):Int))),(27,.v (.bool (decide (((i:Nat):Int) < ((out.length:Nat):Int)))))] 9 (qad (qad (qad (qai (qad (qai (qad (qad (qai (qad qah)))))))))) (fun _ h=>h ▸ aB.cells) rfl eT fun ix cL=>?_
  refine (Bool.eq_false_or_eq_true (decide (((i:Nat):Int) < ((out.length:Nat):Int)))).elim (fun aN=>?_) (fun aN=>?_)
  ·
   have fL:=of_decide_eq_true aN
   have eV:=cL
   rw [aN] at eV
   refine qaY [5,6,10,11] [(5,.v (.int .u32 (qat l))),(6,.v (.slice A_ out.length c_)),(8,.p 0 0),(9,.v (.int .i64 ((i:Nat):Int))),(17,.v (.slice A ((u.take 32767).length) c)),(18,.v (.int .i64 (((u.take 32767).length:Nat):Int))),(19,.v (.int .i64 ((k:Nat):Int))),(27,.v (.bool true)),(28,.v (.slice A_ out.length c_)),(29,.v (.int .i64 ((i:Nat):Int))),(34,.v (.int .u32 al))] 5 (qad (qad (qad (qai (qad (qai (qad (qad (qai (qad qah)))))))))) (fun _ h=>h ▸ aB.cells) rfl eV fun iy eW=>?_
   obtain ⟨eX,cM⟩:=qcL (aB.own 0 _ rfl) (show 0 < out.length by omega)
   obtain ⟨⟨eE,iz⟩,bu⟩:∃ x,out[i]? = some x:=⟨_,List.getElem?_eq_getElem (by omega)⟩
   obtain ⟨iA,iB,eY,fM,iC,iD⟩:=TagsE.get2 (hT.move (((ac.trans ae).trans aa).trans ab).step immM (((ac.trans ae).trans aa).trans ab).to') bu
   have cN:=qgP (aB.own 0 _ rfl) cM (qeh (hT.move (((ac.trans ae).trans aa).trans ab).step immM (((ac.trans ae).trans aa).trans ab).to').two eY)
   refine qbc eW (i:=7) (t:=26) (A:=A_) (m:=out.length) (q:=((i:Nat):Int)) (d:=30) kz (e:=73) (size:=2) (bytes:=32) kz (b:=eX) (o:=0) (j:=i) cM (rfl) (by omega) kz kz (qad (qad (qad (qai (qad (qai (qad (qad (qai (qad qah)))))))))) rfl fun iE eZ=>?_
   refine qaY [8] [(5,.v (.int .u32 (qat l))),(6,.v (.slice A_ out.length c_)),(8,.p 0 0),(9,.v (.int .i64 ((i:Nat):Int))),(17,.v (.slice A ((u.take 32767).length) c)),(18,.v (.int .i64 (((u.take 32767).length:Nat):Int))),(19,.v (.int .i64 ((k:Nat):Int))),(27,.v (.bool true)),(31,.v (.pointer (some ⟨eX,0 + i * 2,none⟩))),(34,.v (.int .u32 al))] 3 (qad (qad (qad (qai (qad (qai (qad (qad (qai (qad qah)))))))))) (fun _ h=>h ▸ aB.cells) rfl eZ fun iF e9=>?_
   refine qba e9 (i:=9) (t:=71) (b:=eX) (o:=0 + i * 2) (d:=32) kz (cs:=[.int .u32 eE]) (v:=.int .u32 eE) kz (fun w' h'=>h' ▸ (At.drop cN 0 1)) kz kz (qad (qad (qad (qai (qad (qai (qad (qad (qai (qad qah)))))))))) rfl fun fN cO=>?_
   refine qaY [12,13] [(5,.v (.int .u32 (qat l))),(6,.v (.slice A_ out.length c_)),(8,.p 0 0),(9,.v (.int .i64 ((i:Nat):Int))),(17,.v (.slice A ((u.take 32767).length) c)),(18,.v (.int .i64 (((u.take 32767).length:Nat):Int))),(19,.v (.int .i64 ((k:Nat):Int))),(36,.v (.bool (decide (eE < al))))] 0 (qad (qad (qad (qai (qad (qai (qad (qad (qai (qad qah)))))))))) (fun _ h=>h ▸ aB.cells) rfl cO fun fO aS=>?_
   refine qaX kz ?_ _
   refine qaa (qax aS (b:=decide (eE < al)) kz (fun aT=>?_) (fun aT=>?_))
   ·
    have fe:=of_decide_eq_true aT
    refine wp_skip (qaa (wp_block (qar [0,1,2] kz ?_)))
    refine qaj [0,1,2] [] [(5,.v (.int .u32 (qat l))),(6,.v (.slice A_ out.length c_)),(8,.p 0 0),(9,.v (.int .i64 (IntKind.i64.wrap (((i:Nat):Int) + 1)))),(17,.v (.slice A ((u.take 32767).length) c)),(18,.v (.int .i64 (((u.take 32767).length:Nat):Int))),(19,.v (.int .i64 ((k:Nat):Int)))] aB aS fun fP bG=>?_
    refine qaf (qaE (qaa ?_))
    have cP:IntKind.i64.wrap (((i:Nat):Int) + 1) = ((i + 1:Nat):Int):=qbh (by omega)
    rw [cP] at bG
    exact ⟨out.length - (i + 1),by omega,(i + 1),rfl,by omega,fun q hq=>by rcases Nat.lt_succ_iff_lt_or_eq.1 hq with h_ | h_; exact hlt q h_; rw [h_,qjx bu]; assumption,bG.pk,aB,(aa.trans ab)⟩
   have ff:=of_decide_eq_false aT
   refine wp_exit (qaz (qaz (qaQ (qaa (wp_seq (qcf kz aB fun fQ af ap=>?_))))))
   refine qaY [0,1,2,3,4] [(5,.v (.int .u32 (qat l))),(6,.v (.slice A_ out.length c_)),(8,.p 0 0),(9,.v (.int .i64 ((i:Nat):Int))),(17,.v (.slice A ((u.take 32767).length) c)),(18,.v (.int .i64 (((u.take 32767).length:Nat):Int))),(19,.v (.int .i64 ((k:Nat):Int))),(43,.v (.bool (decide (al < (qat l)))))] 15 (qad (qad (qai (qad (qad (qai (qad qah))))))) (fun _ h=>h ▸ ap.cells) rfl aS fun fR bH=>?_
   refine (Bool.eq_false_or_eq_true (decide (al < (qat l)))).elim (fun aK=>?_) (fun aK=>?_)
   ·
    have fg:=of_decide_eq_true aK
    have cQ:=bH
    rw [aK] at cQ
    refine qaY [5,6,7,8,9,10,11,12,13,14,15,16,17,18,19] [(5,.v (.int .u32 (qat l))),(6,.v (.slice A_ out.length c_)),(8,.p 0 0),(9,.v (.int .i64 ((i:Nat):Int))),(17,.v (.slice A ((u.take 32767).length) c)),(18,.v (.int .i64 (((u.take 32767).length:Nat):Int))),(19,.v (.int .i64 ((k:Nat):Int))),(58,.v (.bool true))] 0 (qad (qad (qai (qad (qad (qai (qad qah))))))) (fun _ h=>h ▸ ap.cells) rfl cQ fun fS bI=>?_
    refine qaX kz ?_ _
    refine qaa (qbF bI (b:=true) kz rfl ?_)
    refine wp_exit (qaz (qaQ (qaa (qar [0,1] kz ?_))))
    refine qaj [0,1] [] [(5,.v (.int .u32 (qat l))),(6,.v (.slice A_ out.length c_)),(17,.v (.slice A ((u.take 32767).length) c)),(18,.v (.int .i64 (((u.take 32767).length:Nat):Int))),(19,.v (.int .i64 (IntKind.i64.wrap (((k:Nat):Int) + 1))))] ap bI fun fT cR=>?_
    refine qaf (qaa ?_)
    obtain ⟨bJ,cS,aU⟩:=ap.cutB cR 0 [] [(5,.v (.int .u32 (qat l))),(6,.v (.slice A_ out.length c_)),(17,.v (.slice A ((u.take 32767).length) c)),(18,.v (.int .i64 (((u.take 32767).length:Nat):Int))),(19,.v (.int .i64 (IntKind.i64.wrap (((k:Nat):Int) + 1))))]
    have cT:IntKind.i64.wrap (((k:Nat):Int) + 1) = ((k + 1:Nat):Int):=qbh (by omega)
    rw [cT] at bJ
    exact ⟨(u.take 32767).length - (k + 1),by omega,k + 1,A_,c_,out,css,rfl,by omega,(hT.move (((((ac.trans ae).trans aa).trans ab).trans af).trans aU).step immM (((((ac.trans ae).trans aa).trans ab).trans af).trans aU).to'),by rw [qch aP,← hout]; exact (qjy ‹_›).symm,by omega,bJ.pk,cS,((((((aR.trans ac).trans ae).trans aa).trans ab).trans af).trans aU)⟩
   have fh:=of_decide_eq_false aK
   have cU:=bH
   rw [aK] at cU
   refine qaY [5,6,7,8,9] [(5,.v (.int .u32 (qat l))),(6,.v (.slice A_ out.length c_)),(8,.p 0 0),(9,.v (.int .i64 ((i:Nat):Int))),(17,.v (.slice A ((u.take 32767).length) c)),(18,.v (.int .i64 (((u.take 32767).length:Nat):Int))),(19,.v (.int .i64 ((k:Nat):Int))),(43,.v (.bool false)),(48,.v (.bool (decide (((i:Nat):Int) < ((out.length:Nat):Int)))))] 10 (qad (qad (qai (qad (qad (qai (qad qah))))))) (fun _ h=>h ▸ ap.cells) rfl cU fun fU cV=>?_
   have cW:(decide (((i:Nat):Int) < ((out.length:Nat):Int))) = true:=aN
   have cX:=cV
   rw [cW] at cX
   refine qaY [10,11,15,16] [(5,.v (.int .u32 (qat l))),(6,.v (.slice A_ out.length c_)),(8,.p 0 0),(9,.v (.int .i64 ((i:Nat):Int))),(17,.v (.slice A ((u.take 32767).length) c)),(18,.v (.int .i64 (((u.take 32767).length:Nat):Int))),(19,.v (.int .i64 ((k:Nat):Int))),(43,.v (.bool false)),(48,.v (.bool true)),(49,.v (.slice A_ out.length c_)),(50,.v (.int .i64 ((i:Nat):Int))),(55,.v (.int .u32 al))] 6 (qad (qad (qai (qad (qad (qai (qad qah))))))) (fun _ h=>h ▸ ap.cells) rfl cX fun fV cY=>?_
   obtain ⟨cD,bK⟩:=qcL (ap.own 0 _ rfl) (show 0 < out.length by omega)
   obtain ⟨⟨aQ,fW⟩,aL⟩:∃ x,out[i]? = some x:=⟨_,List.getElem?_eq_getElem (by omega)⟩
   obtain ⟨fX,fY,cZ,fi,fZ,f5⟩:=TagsE.get2 (hT.move ((((ac.trans ae).trans aa).trans ab).trans af).step immM ((((ac.trans ae).trans aa).trans ab).trans af).to') aL
   have cE:=qgP (ap.own 0 _ rfl) bK (qeh (hT.move ((((ac.trans ae).trans aa).trans ab).trans af).step immM ((((ac.trans ae).trans aa).trans ab).trans af).to').two cZ)
   refine qbc cY (i:=12) (t:=26) (A:=A_) (m:=out.length) (q:=((i:Nat):Int)) (d:=51) kz (e:=73) (size:=2) (bytes:=32) kz (b:=cD) (o:=0) (j:=i) bK (rfl) (by omega) kz kz (qad (qad (qai (qad (qad (qai (qad qah))))))) rfl fun f7 da=>?_
   refine qaY [13] [(5,.v (.int .u32 (qat l))),(6,.v (.slice A_ out.length c_)),(8,.p 0 0),(9,.v (.int .i64 ((i:Nat):Int))),(17,.v (.slice A ((u.take 32767).length) c)),(18,.v (.int .i64 (((u.take 32767).length:Nat):Int))),(19,.v (.int .i64 ((k:Nat):Int))),(43,.v (.bool false)),(48,.v (.bool true)),(52,.v (.pointer (some ⟨cD,0 + i * 2,none⟩))),(55,.v (.int .u32 al))] 4 (qad (qad (qai (qad (qad (qai (qad qah))))))) (fun _ h=>h ▸ ap.cells) rfl da fun f8 db=>?_
   refine qba db (i:=14) (t:=71) (b:=cD) (o:=0 + i * 2) (d:=53) kz (cs:=[.int .u32 aQ]) (v:=.int .u32 aQ) kz (fun w' h'=>h' ▸ (At.drop cE 0 1)) kz kz (qad (qad (qai (qad (qad (qai (qad qah))))))) rfl fun f9 dc=>?_
   refine qaY [17,18,19] [(5,.v (.int .u32 (qat l))),(6,.v (.slice A_ out.length c_)),(8,.p 0 0),(9,.v (.int .i64 ((i:Nat):Int))),(17,.v (.slice A ((u.take 32767).length) c)),(18,.v (.int .i64 (((u.take 32767).length:Nat):Int))),(19,.v (.int .i64 ((k:Nat):Int))),(58,.v (.bool (aQ == al)))] 0 (qad (qad (qai (qad (qad (qai (qad qah))))))) (fun _ h=>h ▸ ap.cells) rfl dc fun ga aV=>?_
   refine qaX kz ?_ _
   refine qaa (qax aV (b:=aQ == al) kz (fun aW=>?_) (fun aW=>?_))
   ·
    have fj:aQ = al:=by simpa using aW
    refine wp_exit (qaz (qaQ (qaa (qar [0,1] kz ?_))))
    refine qaj [0,1] [] [(5,.v (.int .u32 (qat l))),(6,.v (.slice A_ out.length c_)),(17,.v (.slice A ((u.take 32767).length) c)),(18,.v (.int .i64 (((u.take 32767).length:Nat):Int))),(19,.v (.int .i64 (IntKind.i64.wrap (((k:Nat):Int) + 1))))] ap aV fun gb de=>?_
    refine qaf (qaa ?_)
    obtain ⟨bL,df,aX⟩:=ap.cutB de 0 [] [(5,.v (.int .u32 (qat l))),(6,.v (.slice A_ out.length c_)),(17,.v (.slice A ((u.take 32767).length) c)),(18,.v (.int .i64 (((u.take 32767).length:Nat):Int))),(19,.v (.int .i64 (IntKind.i64.wrap (((k:Nat):Int) + 1))))]
    have dg:IntKind.i64.wrap (((k:Nat):Int) + 1) = ((k + 1:Nat):Int):=qbh (by omega)
    rw [dg] at bL
    exact ⟨(u.take 32767).length - (k + 1),by omega,k + 1,A_,c_,out,css,rfl,by omega,(hT.move (((((ac.trans ae).trans aa).trans ab).trans af).trans aX).step immM (((((ac.trans ae).trans aa).trans ab).trans af).trans aX).to'),by rw [qch aP,← hout]; exact (qkJ (qfE hi hlt (fun _=>by rw [qei aL]; omega)) (by omega) (by rw [qei aL]; omega)).symm,by omega,bL.pk,df,((((((aR.trans ac).trans ae).trans aa).trans ab).trans af).trans aX)⟩
   have fk:aQ ≠ al:=by simpa using aW
   refine wp_skip (qaa (qae [0,1,2,3,4] kz ?_))
   refine qaj [0,1] [2,3,4] [(5,.v (.int .u32 (qat l))),(8,.p 0 0),(9,.v (.int .i64 ((i:Nat):Int))),(17,.v (.slice A ((u.take 32767).length) c)),(18,.v (.int .i64 (((u.take 32767).length:Nat):Int))),(19,.v (.int .i64 ((k:Nat):Int))),(59,.v (.slice A_ out.length c_)),(60,.v (.agg #[.int .u32 0,.slice none 0 0]))] ap aV fun gc dh=>?_
   refine qbu ap dh (k:=0) (e:=73) (size:=2) (len:=1) (cs:=[.int .u32 0,.slice none 0 0]) (d1:=61) (d:=62) kz (t:=26) (bytes:=32) kz (fun _=>by kernel_rfl) rfl kz (by omega) fun ag ai gd ge am aY ⟨_,di⟩=>?_
   refine qaj [4] [] [(5,.v (.int .u32 (qat l))),(6,.v (.slice ag (out.length + 1) ai)),(8,.p 0 0),(9,.v (.int .i64 ((i:Nat):Int))),(17,.v (.slice A ((u.take 32767).length) c)),(18,.v (.int .i64 (((u.take 32767).length:Nat):Int))),(19,.v (.int .i64 ((k:Nat):Int)))] aY di fun gg dj=>?_
   refine qaf (qaa ?_)
   refine wp_seq (qas [(5,.v (.int .u32 (qat l))),(6,.v (.slice ag (out.length + 1) ai)),(8,.p 0 0),(9,.v (.int .i64 ((i:Nat):Int))),(10,.v (.int .i64 (IntKind.i64.wrap (((out.length + 1:Nat):Int) - 1)))),(17,.v (.slice A ((u.take 32767).length) c)),(18,.v (.int .i64 (((u.take 32767).length:Nat):Int))),(19,.v (.int .i64 ((k:Nat):Int)))] aY dj fun gh bM=>?_)
   refine wp_block ?_
   have hcl0:=(hT.move (((((ac.trans ae).trans aa).trans ab).trans af).trans am).step immM (((((ac.trans ae).trans aa).trans ab).trans af).trans am).to').len
   have dl:(⟨ag,ai,73,2,out.length + 1,css.flatten ++ [.int .u32 0,.slice none 0 0]⟩:Rw) = ⟨ag,ai,73,2,out.length + 1,(qb3 css [.int .u32 0,.slice none 0 0] out.length).flatten⟩:=by rw [qh3 hcl0]
   obtain ⟨bN,av⟩:=aY.rowEq 0 [⟨ag,ai,73,2,out.length + 1,(qb3 css [.int .u32 0,.slice none 0 0] out.length).flatten⟩] dl
   have dp:IntKind.i64.wrap (((out.length + 1:Nat):Int) - 1) = ((out.length:Nat):Int):=by rw [wrap_i64 (by omega) (by omega)]; omega
   rw [dp] at bM
   refine wp_loop_ghost (fun n_ a_ w_=>∃ (j:Nat),n_ = j ∧ (i ≤ j) ∧ (j ≤ out.length) ∧ LInv bN 85 [⟨eO,0,[.int .u32 al,.slice aI ax.length aJ],true⟩] [⟨ag,ai,73,2,out.length + 1,(qb3 css [.int .u32 0,.slice none 0 0] j).flatten⟩] [(5,.v (.int .u32 (qat l))),(6,.v (.slice ag (out.length + 1) ai)),(8,.p 0 0),(9,.v (.int .i64 ((i:Nat):Int))),(10,.v (.int .i64 ((j:Nat):Int))),(17,.v (.slice A ((u.take 32767).length) c)),(18,.v (.int .i64 (((u.take 32767).length:Nat):Int))),(19,.v (.int .i64 ((k:Nat):Int)))] a_ w_) (out.length) ⟨out.length,rfl,hi,Nat.le_refl _,bM.pk,bN,Fr.refl _ _ _⟩ ?_
   rintro gi gj gk ⟨j,fl,hij,hjl,dq,ay,ar⟩
   refine wp_seq (qas [(5,.v (.int .u32 (qat l))),(6,.v (.slice ag (out.length + 1) ai)),(8,.p 0 0),(9,.v (.int .i64 ((i:Nat):Int))),(10,.v (.int .i64 ((j:Nat):Int))),(17,.v (.slice A ((u.take 32767).length) c)),(18,.v (.int .i64 (((u.take 32767).length:Nat):Int))),(19,.v (.int .i64 ((k:Nat):Int))),(68,.v (.bool (decide (((j:Nat):Int) > ((i:Nat):Int)))))] ay dq fun gl aZ=>?_)
   refine qax aZ (b:=decide (((j:Nat):Int) > ((i:Nat):Int))) kz (fun ba=>?_) (fun ba=>?_)
   ·
    have fm:=of_decide_eq_true ba
    refine wp_skip (qaa (wp_seq (wp_block (qar [0,1,2,3,4,5,6,7,8] kz ?_))))
    refine qaj [0,1,2,3,4] [5,6,7,8] [(5,.v (.int .u32 (qat l))),(6,.v (.slice ag (out.length + 1) ai)),(8,.p 0 0),(9,.v (.int .i64 ((i:Nat):Int))),(10,.v (.int .i64 ((j:Nat):Int))),(17,.v (.slice A ((u.take 32767).length) c)),(18,.v (.int .i64 (((u.take 32767).length:Nat):Int))),(19,.v (.int .i64 ((k:Nat):Int))),(71,.v (.slice ag (out.length + 1) ai)),(72,.v (.int .i64 ((j:Nat):Int))),(73,.v (.slice ag (out.length + 1) ai)),(75,.v (.int .i64 (IntKind.i64.wrap (((j:Nat):Int) - 1))))] ay aZ fun gm dr=>?_
    obtain ⟨dt,bO⟩:=qcL (ay.own 0 _ rfl) (show 0 < out.length + 1 by omega)
    obtain ⟨⟨bw,bx⟩,du⟩:∃ x,out[j - 1]? = some x:=⟨_,List.getElem?_eq_getElem (by omega)⟩
    obtain ⟨bz,bA,bP,fo,gn,gp⟩:=TagsE.get2 (hT.move (((((((ac.trans ae).trans aa).trans ab).trans af).trans am).trans av).trans ar).step immM (((((((ac.trans ae).trans aa).trans ab).trans af).trans am).trans av).trans ar).to') du
    have cG:=qgP (ay.own 0 _ rfl) bO (qeh (qeW (hT.move (((((((ac.trans ae).trans aa).trans ab).trans af).trans am).trans av).trans ar).step immM (((((((ac.trans ae).trans aa).trans ab).trans af).trans am).trans av).trans ar).to').two rfl j) (qgV (show j - 1 < j by omega) bP))
    refine qam (qay dr (t:=26) (A:=ag) (m:=(out.length + 1)) (q:=(IntKind.i64.wrap (((j:Nat):Int) - 1))) (d:=76) kz (e:=73) (size:=2) (bytes:=32) kz (b:=dt) (o:=0) (j:=(j - 1)) bO (by rw [wrap_i64 (by omega) (by omega)]; omega) (by omega) fun gq dv=>?_)
    refine qam (qaH dv (t:=73) (b:=dt) (o:=0 + (j - 1) * 2) (d:=77) kz (cs:=[.int .u32 bw,.slice bz bx.length bA]) (v:=.agg #[.int .u32 bw,.slice bz bx.length bA]) kz cG fun gt dw=>?_)
    obtain ⟨dx,bQ⟩:=qcL (ay.own 0 _ rfl) (show 0 < out.length + 1 by omega)
    refine qam (qay dw (t:=26) (A:=ag) (m:=(out.length + 1)) (q:=((j:Nat):Int)) (d:=78) kz (e:=73) (size:=2) (bytes:=32) kz (b:=dx) (o:=0) (j:=j) bQ (rfl) (by omega) fun gv dy=>?_)
    refine qam (qdt ay dy (k:=0) (g:=dx) (o:=j * 2) (c:=ai) (m:=(out.length + 1)) (size:=2) (e:=73) (A:=ag) (xs:=((qb3 css [.int .u32 0,.slice none 0 0] j).flatten)) (vs:=[.int .u32 bw,.slice bz bx.length bA]) kz rfl bQ (by simp only [List.length_cons,List.length_nil]; omega) fun gw bd bR dz=>?_)
    refine qaf (qaE (qaa (qar [0,1,2] kz ?_)))
    refine qaj [0,1,2] [] [(5,.v (.int .u32 (qat l))),(6,.v (.slice ag (out.length + 1) ai)),(8,.p 0 0),(9,.v (.int .i64 ((i:Nat):Int))),(10,.v (.int .i64 (IntKind.i64.wrap (((j:Nat):Int) - 1)))),(17,.v (.slice A ((u.take 32767).length) c)),(18,.v (.int .i64 (((u.take 32767).length:Nat):Int))),(19,.v (.int .i64 ((k:Nat):Int)))] bR dz fun gx bS=>?_
    refine qaf (qaa ?_)
    have dA:(⟨ag,ai,73,2,out.length + 1,qbn ((qb3 css [.int .u32 0,.slice none 0 0] j).flatten) (j * 2) [.int .u32 bw,.slice bz bx.length bA]⟩:Rw) = ⟨ag,ai,73,2,out.length + 1,(qb3 css [.int .u32 0,.slice none 0 0] (j - 1)).flatten⟩:=by rw [qgW (hT.move ((((((((ac.trans ae).trans aa).trans ab).trans af).trans am).trans av).trans ar).trans bd).step immM ((((((((ac.trans ae).trans aa).trans ab).trans af).trans am).trans av).trans ar).trans bd).to').two rfl (by omega) (by omega) bP]
    obtain ⟨dB,dC⟩:=bR.rowEq 0 [⟨ag,ai,73,2,out.length + 1,(qb3 css [.int .u32 0,.slice none 0 0] (j - 1)).flatten⟩] dA
    have dD:IntKind.i64.wrap (((j:Nat):Int) - 1) = ((j - 1:Nat):Int):=by rw [wrap_i64 (by omega) (by omega)]; omega
    rw [dD] at bS
    exact ⟨(j - 1),by omega,(j - 1),rfl,by omega,by omega,bS.pk,dB,((ar.trans bd).trans dC)⟩
   have fq:=of_decide_eq_false ba
   refine wp_exit (qaz (qaz (qaQ (qaa (qar [0,1,2,3,4] kz ?_)))))
   refine qaj [0,1,2] [3,4] [(5,.v (.int .u32 (qat l))),(6,.v (.slice ag (out.length + 1) ai)),(17,.v (.slice A ((u.take 32767).length) c)),(18,.v (.int .i64 (((u.take 32767).length:Nat):Int))),(19,.v (.int .i64 ((k:Nat):Int))),(79,.v (.slice ag (out.length + 1) ai)),(80,.v (.int .i64 ((i:Nat):Int))),(81,.v (.agg #[.int .u32 al,.slice aI ax.length aJ]))] ay aZ fun gy dE=>?_
   have hji:j = i:=by omega
   have dF:(⟨ag,ai,73,2,out.length + 1,(qb3 css [.int .u32 0,.slice none 0 0] j).flatten⟩:Rw) = ⟨ag,ai,73,2,out.length + 1,(qb3 css [.int .u32 0,.slice none 0 0] i).flatten⟩:=by rw [hji]
   obtain ⟨bT,aC⟩:=ay.rowEq 0 [⟨ag,ai,73,2,out.length + 1,(qb3 css [.int .u32 0,.slice none 0 0] i).flatten⟩] dF
   obtain ⟨dG,bU⟩:=qcL (bT.own 0 _ rfl) (show 0 < out.length + 1 by omega)
   refine qam (qay dE (t:=26) (A:=ag) (m:=(out.length + 1)) (q:=((i:Nat):Int)) (d:=82) kz (e:=73) (size:=2) (bytes:=32) kz (b:=dG) (o:=0) (j:=i) bU (rfl) (by omega) fun gz dH=>?_)
   refine qam (qdt bT dH (k:=0) (g:=dG) (o:=i * 2) (c:=ai) (m:=(out.length + 1)) (size:=2) (e:=73) (A:=ag) (xs:=((qb3 css [.int .u32 0,.slice none 0 0] i).flatten)) (vs:=[.int .u32 al,.slice aI ax.length aJ]) kz rfl bU (by simp only [List.length_cons,List.length_nil]; omega) fun gA aD bV dI=>?_)
   refine qaf (qaE (qaa (qar [0,1] kz ?_)))
   refine qaj [0,1] [] [(5,.v (.int .u32 (qat l))),(6,.v (.slice ag (out.length + 1) ai)),(17,.v (.slice A ((u.take 32767).length) c)),(18,.v (.int .i64 (((u.take 32767).length:Nat):Int))),(19,.v (.int .i64 (IntKind.i64.wrap (((k:Nat):Int) + 1))))] bV dI fun gB dJ=>?_
   refine qaf (qaa ?_)
   obtain ⟨bf,dK,aE⟩:=bV.cutB dJ 0 [] [(5,.v (.int .u32 (qat l))),(6,.v (.slice ag (out.length + 1) ai)),(17,.v (.slice A ((u.take 32767).length) c)),(18,.v (.int .i64 (((u.take 32767).length:Nat):Int))),(19,.v (.int .i64 (IntKind.i64.wrap (((k:Nat):Int) + 1))))]
   have hcl:=(hT.move ((((((((((ac.trans ae).trans aa).trans ab).trans af).trans am).trans av).trans ar).trans aC).trans aD).trans aE).step immM ((((((((((ac.trans ae).trans aa).trans ab).trans af).trans am).trans av).trans ar).trans aC).trans aD).trans aE).to').len
   have dL:(⟨ag,ai,73,2,out.length + 1,qbn ((qb3 css [.int .u32 0,.slice none 0 0] i).flatten) (i * 2) [.int .u32 al,.slice aI ax.length aJ]⟩:Rw) = ⟨ag,ai,73,2,(out.take i ++ (al,ax) :: out.drop i).length,(css.take i ++ [.int .u32 al,.slice aI ax.length aJ] :: css.drop i).flatten⟩:=by rw [qgX (hT.move ((((((((((ac.trans ae).trans aa).trans ab).trans af).trans am).trans av).trans ar).trans aC).trans aD).trans aE).step immM ((((((((((ac.trans ae).trans aa).trans ab).trans af).trans am).trans av).trans ar).trans aC).trans aD).trans aE).to').two rfl (by omega) rfl,qcW (al,ax) hi]
   obtain ⟨bg,bh⟩:=dK.rowEq 0 [⟨ag,ai,73,2,(out.take i ++ (al,ax) :: out.drop i).length,(css.take i ++ [.int .u32 al,.slice aI ax.length aJ] :: css.drop i).flatten⟩] dL
   have dM:IntKind.i64.wrap (((k:Nat):Int) + 1) = ((k + 1:Nat):Int):=qbh (by omega)
   rw [dM] at bf
   have dN:out.length + 1 = (out.take i ++ (al,ax) :: out.drop i).length:=qcW (al,ax) hi
   rw [dN] at bf
   exact ⟨(u.take 32767).length - (k + 1),by omega,k + 1,ag,ai,(out.take i ++ (al,ax) :: out.drop i),(css.take i ++ [.int .u32 al,.slice aI ax.length aJ] :: css.drop i),rfl,by omega,(hT.move (((((((((((ac.trans ae).trans aa).trans ab).trans af).trans am).trans av).trans ar).trans aC).trans aD).trans aE).trans bh).step immM (((((((((((ac.trans ae).trans aa).trans ab).trans af).trans am).trans av).trans ar).trans aC).trans aD).trans aE).trans bh).to').ins ⟨⟨aI,aJ,rfl,(cK.move bg.step nilM bg.imm)⟩,fa,fb⟩ hi,by rw [qch aP,← hout]; exact (qjz (qfE hi hlt (fun _=>by first | (rw [qei bu]; omega) | (rw [qei aL]; omega))) ‹_› (fun _=>by first | (rw [qei bu]; omega) | (rw [qei aL]; omega))).symm,by rw [← qcW (al,ax) hi]; omega,bf.pk,bg,((((((((((((aR.trans ac).trans ae).trans aa).trans ab).trans af).trans am).trans av).trans ar).trans aC).trans aD).trans aE).trans bh)⟩
  have fr:=of_decide_eq_false aN
  have dO:=cL.cast (env':=[(5,.v (.int .u32 (qat l))),(6,.v (.slice A_ out.length c_)),(8,.p 0 0),(9,.v (.int .i64 ((i:Nat):Int))),(17,.v (.slice A ((u.take 32767).length) c)),(18,.v (.int .i64 (((u.take 32767).length:Nat):Int))),(19,.v (.int .i64 ((k:Nat):Int))),(27,.v (.bool false))]) (by rw [aN])
  refine qaY [5,6,7,8,9,10,11,12,13] [(5,.v (.int .u32 (qat l))),(6,.v (.slice A_ out.length c_)),(8,.p 0 0),(9,.v (.int .i64 ((i:Nat):Int))),(17,.v (.slice A ((u.take 32767).length) c)),(18,.v (.int .i64 (((u.take 32767).length:Nat):Int))),(19,.v (.int .i64 ((k:Nat):Int))),(36,.v (.bool false))] 0 (qad (qad (qad (qai (qad (qai (qad (qad (qai (qad qah)))))))))) (fun _ h=>h ▸ aB.cells) rfl dO fun gC bW=>?_
  refine qaX kz ?_ _
  refine qaa (qau bW (b:=false) kz rfl ?_)
  refine wp_exit (qaz (qaz (qaQ (qaa (wp_seq (qcf kz aB fun gD ak az=>?_))))))
  refine qaY [0,1,2,3,4] [(5,.v (.int .u32 (qat l))),(6,.v (.slice A_ out.length c_)),(8,.p 0 0),(9,.v (.int .i64 ((i:Nat):Int))),(17,.v (.slice A ((u.take 32767).length) c)),(18,.v (.int .i64 (((u.take 32767).length:Nat):Int))),(19,.v (.int .i64 ((k:Nat):Int))),(43,.v (.bool (decide (al < (qat l)))))] 15 (qad (qad (qai (qad (qad (qai (qad qah))))))) (fun _ h=>h ▸ az.cells) rfl bW fun gE bX=>?_
  refine (Bool.eq_false_or_eq_true (decide (al < (qat l)))).elim (fun aM=>?_) (fun aM=>?_)
  ·
   have ft:=of_decide_eq_true aM
   have dP:=bX
   rw [aM] at dP
   refine qaY [5,6,7,8,9,10,11,12,13,14,15,16,17,18,19] [(5,.v (.int .u32 (qat l))),(6,.v (.slice A_ out.length c_)),(8,.p 0 0),(9,.v (.int .i64 ((i:Nat):Int))),(17,.v (.slice A ((u.take 32767).length) c)),(18,.v (.int .i64 (((u.take 32767).length:Nat):Int))),(19,.v (.int .i64 ((k:Nat):Int))),(58,.v (.bool true))] 0 (qad (qad (qai (qad (qad (qai (qad qah))))))) (fun _ h=>h ▸ az.cells) rfl dP fun gF bY=>?_
   refine qaX kz ?_ _
   refine qaa (qbF bY (b:=true) kz rfl ?_)
   refine wp_exit (qaz (qaQ (qaa (qar [0,1] kz ?_))))
   refine qaj [0,1] [] [(5,.v (.int .u32 (qat l))),(6,.v (.slice A_ out.length c_)),(17,.v (.slice A ((u.take 32767).length) c)),(18,.v (.int .i64 (((u.take 32767).length:Nat):Int))),(19,.v (.int .i64 (IntKind.i64.wrap (((k:Nat):Int) + 1))))] az bY fun gG dQ=>?_
   refine qaf (qaa ?_)
   obtain ⟨bZ,dR,bi⟩:=az.cutB dQ 0 [] [(5,.v (.int .u32 (qat l))),(6,.v (.slice A_ out.length c_)),(17,.v (.slice A ((u.take 32767).length) c)),(18,.v (.int .i64 (((u.take 32767).length:Nat):Int))),(19,.v (.int .i64 (IntKind.i64.wrap (((k:Nat):Int) + 1))))]
   have dS:IntKind.i64.wrap (((k:Nat):Int) + 1) = ((k + 1:Nat):Int):=qbh (by omega)
   rw [dS] at bZ
   exact ⟨(u.take 32767).length - (k + 1),by omega,k + 1,A_,c_,out,css,rfl,by omega,(hT.move (((((ac.trans ae).trans aa).trans ab).trans ak).trans bi).step immM (((((ac.trans ae).trans aa).trans ab).trans ak).trans bi).to'),by rw [qch aP,← hout]; exact (qjy ‹_›).symm,by omega,bZ.pk,dR,((((((aR.trans ac).trans ae).trans aa).trans ab).trans ak).trans bi)⟩
  have fu:=of_decide_eq_false aM
  have dT:=bX
  rw [aM] at dT
  refine qaY [5,6,7,8,9] [(5,.v (.int .u32 (qat l))),(6,.v (.slice A_ out.length c_)),(8,.p 0 0),(9,.v (.int .i64 ((i:Nat):Int))),(17,.v (.slice A ((u.take 32767).length) c)),(18,.v (.int .i64 (((u.take 32767).length:Nat):Int))),(19,.v (.int .i64 ((k:Nat):Int))),(43,.v (.bool false)),(48,.v (.bool (decide (((i:Nat):Int) < ((out.length:Nat):Int)))))] 10 (qad (qad (qai (qad (qad (qai (qad qah))))))) (fun _ h=>h ▸ az.cells) rfl dT fun gH dU=>?_
  have dV:(decide (((i:Nat):Int) < ((out.length:Nat):Int))) = false:=aN
  have dW:=dU
  rw [dV] at dW
  refine qaY [10,11,12,13,14,15,16,17,18,19] [(5,.v (.int .u32 (qat l))),(6,.v (.slice A_ out.length c_)),(8,.p 0 0),(9,.v (.int .i64 ((i:Nat):Int))),(17,.v (.slice A ((u.take 32767).length) c)),(18,.v (.int .i64 (((u.take 32767).length:Nat):Int))),(19,.v (.int .i64 ((k:Nat):Int))),(58,.v (.bool false))] 0 (qad (qad (qai (qad (qad (qai (qad qah))))))) (fun _ h=>h ▸ az.cells) rfl dW fun gI b8=>?_
  refine qaX kz ?_ _
  refine qaa (qau b8 (b:=false) kz rfl ?_)
  refine wp_skip (qaa (qae [0,1,2,3,4] kz ?_))
  refine qaj [0,1] [2,3,4] [(5,.v (.int .u32 (qat l))),(8,.p 0 0),(9,.v (.int .i64 ((i:Nat):Int))),(17,.v (.slice A ((u.take 32767).length) c)),(18,.v (.int .i64 (((u.take 32767).length:Nat):Int))),(19,.v (.int .i64 ((k:Nat):Int))),(59,.v (.slice A_ out.length c_)),(60,.v (.agg #[.int .u32 0,.slice none 0 0]))] az b8 fun gJ dX=>?_
  refine qbu az dX (k:=0) (e:=73) (size:=2) (len:=1) (cs:=[.int .u32 0,.slice none 0 0]) (d1:=61) (d:=62) kz (t:=26) (bytes:=32) kz (fun _=>by kernel_rfl) rfl kz (by omega) fun ah aj gK gL ao bj ⟨_,dY⟩=>?_
  refine qaj [4] [] [(5,.v (.int .u32 (qat l))),(6,.v (.slice ah (out.length + 1) aj)),(8,.p 0 0),(9,.v (.int .i64 ((i:Nat):Int))),(17,.v (.slice A ((u.take 32767).length) c)),(18,.v (.int .i64 (((u.take 32767).length:Nat):Int))),(19,.v (.int .i64 ((k:Nat):Int)))] bj dY fun gM dZ=>?_
  refine qaf (qaa ?_)
  refine wp_seq (qas [(5,.v (.int .u32 (qat l))),(6,.v (.slice ah (out.length + 1) aj)),(8,.p 0 0),(9,.v (.int .i64 ((i:Nat):Int))),(10,.v (.int .i64 (IntKind.i64.wrap (((out.length + 1:Nat):Int) - 1)))),(17,.v (.slice A ((u.take 32767).length) c)),(18,.v (.int .i64 (((u.take 32767).length:Nat):Int))),(19,.v (.int .i64 ((k:Nat):Int)))] bj dZ fun gN cd=>?_)
  refine wp_block ?_
  have hcl0:=(hT.move (((((ac.trans ae).trans aa).trans ab).trans ak).trans ao).step immM (((((ac.trans ae).trans aa).trans ab).trans ak).trans ao).to').len
  have d5:(⟨ah,aj,73,2,out.length + 1,css.flatten ++ [.int .u32 0,.slice none 0 0]⟩:Rw) = ⟨ah,aj,73,2,out.length + 1,(qb3 css [.int .u32 0,.slice none 0 0] out.length).flatten⟩:=by rw [qh3 hcl0]
  obtain ⟨ce,aw⟩:=bj.rowEq 0 [⟨ah,aj,73,2,out.length + 1,(qb3 css [.int .u32 0,.slice none 0 0] out.length).flatten⟩] d5
  have d6:IntKind.i64.wrap (((out.length + 1:Nat):Int) - 1) = ((out.length:Nat):Int):=by rw [wrap_i64 (by omega) (by omega)]; omega
  rw [d6] at cd
  refine wp_loop_ghost (fun n_ a_ w_=>∃ (j:Nat),n_ = j ∧ (i ≤ j) ∧ (j ≤ out.length) ∧ LInv ce 85 [⟨eO,0,[.int .u32 al,.slice aI ax.length aJ],true⟩] [⟨ah,aj,73,2,out.length + 1,(qb3 css [.int .u32 0,.slice none 0 0] j).flatten⟩] [(5,.v (.int .u32 (qat l))),(6,.v (.slice ah (out.length + 1) aj)),(8,.p 0 0),(9,.v (.int .i64 ((i:Nat):Int))),(10,.v (.int .i64 ((j:Nat):Int))),(17,.v (.slice A ((u.take 32767).length) c)),(18,.v (.int .i64 (((u.take 32767).length:Nat):Int))),(19,.v (.int .i64 ((k:Nat):Int)))] a_ w_) (out.length) ⟨out.length,rfl,hi,Nat.le_refl _,cd.pk,ce,Fr.refl _ _ _⟩ ?_
  rintro gO gP gQ ⟨j,fv,hij,hjl,d7,aA,au⟩
  refine wp_seq (qas [(5,.v (.int .u32 (qat l))),(6,.v (.slice ah (out.length + 1) aj)),(8,.p 0 0),(9,.v (.int .i64 ((i:Nat):Int))),(10,.v (.int .i64 ((j:Nat):Int))),(17,.v (.slice A ((u.take 32767).length) c)),(18,.v (.int .i64 (((u.take 32767).length:Nat):Int))),(19,.v (.int .i64 ((k:Nat):Int))),(68,.v (.bool (decide (((j:Nat):Int) > ((i:Nat):Int)))))] aA d7 fun gR bk=>?_)
  refine qax bk (b:=decide (((j:Nat):Int) > ((i:Nat):Int))) kz (fun bn=>?_) (fun bn=>?_)
  ·
   have fw:=of_decide_eq_true bn
   refine wp_skip (qaa (wp_seq (wp_block (qar [0,1,2,3,4,5,6,7,8] kz ?_))))
   refine qaj [0,1,2,3,4] [5,6,7,8] [(5,.v (.int .u32 (qat l))),(6,.v (.slice ah (out.length + 1) aj)),(8,.p 0 0),(9,.v (.int .i64 ((i:Nat):Int))),(10,.v (.int .i64 ((j:Nat):Int))),(17,.v (.slice A ((u.take 32767).length) c)),(18,.v (.int .i64 (((u.take 32767).length:Nat):Int))),(19,.v (.int .i64 ((k:Nat):Int))),(71,.v (.slice ah (out.length + 1) aj)),(72,.v (.int .i64 ((j:Nat):Int))),(73,.v (.slice ah (out.length + 1) aj)),(75,.v (.int .i64 (IntKind.i64.wrap (((j:Nat):Int) - 1))))] aA bk fun gS d8=>?_
   obtain ⟨d9,cg⟩:=qcL (aA.own 0 _ rfl) (show 0 < out.length + 1 by omega)
   obtain ⟨⟨bB,bC⟩,ea⟩:∃ x,out[j - 1]? = some x:=⟨_,List.getElem?_eq_getElem (by omega)⟩
   obtain ⟨bD,bE,cm,fx,gT,gU⟩:=TagsE.get2 (hT.move (((((((ac.trans ae).trans aa).trans ab).trans ak).trans ao).trans aw).trans au).step immM (((((((ac.trans ae).trans aa).trans ab).trans ak).trans ao).trans aw).trans au).to') ea
   have cH:=qgP (aA.own 0 _ rfl) cg (qeh (qeW (hT.move (((((((ac.trans ae).trans aa).trans ab).trans ak).trans ao).trans aw).trans au).step immM (((((((ac.trans ae).trans aa).trans ab).trans ak).trans ao).trans aw).trans au).to').two rfl j) (qgV (show j - 1 < j by omega) cm))
   refine qam (qay d8 (t:=26) (A:=ah) (m:=(out.length + 1)) (q:=(IntKind.i64.wrap (((j:Nat):Int) - 1))) (d:=76) kz (e:=73) (size:=2) (bytes:=32) kz (b:=d9) (o:=0) (j:=(j - 1)) cg (by rw [wrap_i64 (by omega) (by omega)]; omega) (by omega) fun gV eb=>?_)
   refine qam (qaH eb (t:=73) (b:=d9) (o:=0 + (j - 1) * 2) (d:=77) kz (cs:=[.int .u32 bB,.slice bD bC.length bE]) (v:=.agg #[.int .u32 bB,.slice bD bC.length bE]) kz cH fun gW ec=>?_)
   obtain ⟨ee,cq⟩:=qcL (aA.own 0 _ rfl) (show 0 < out.length + 1 by omega)
   refine qam (qay ec (t:=26) (A:=ah) (m:=(out.length + 1)) (q:=((j:Nat):Int)) (d:=78) kz (e:=73) (size:=2) (bytes:=32) kz (b:=ee) (o:=0) (j:=j) cq (rfl) (by omega) fun gX ef=>?_)
   refine qam (qdt aA ef (k:=0) (g:=ee) (o:=j * 2) (c:=aj) (m:=(out.length + 1)) (size:=2) (e:=73) (A:=ah) (xs:=((qb3 css [.int .u32 0,.slice none 0 0] j).flatten)) (vs:=[.int .u32 bB,.slice bD bC.length bE]) kz rfl cq (by simp only [List.length_cons,List.length_nil]; omega) fun gY bo cr eg=>?_)
   refine qaf (qaE (qaa (qar [0,1,2] kz ?_)))
   refine qaj [0,1,2] [] [(5,.v (.int .u32 (qat l))),(6,.v (.slice ah (out.length + 1) aj)),(8,.p 0 0),(9,.v (.int .i64 ((i:Nat):Int))),(10,.v (.int .i64 (IntKind.i64.wrap (((j:Nat):Int) - 1)))),(17,.v (.slice A ((u.take 32767).length) c)),(18,.v (.int .i64 (((u.take 32767).length:Nat):Int))),(19,.v (.int .i64 ((k:Nat):Int)))] cr eg fun gZ cu=>?_
   refine qaf (qaa ?_)
   have eh:(⟨ah,aj,73,2,out.length + 1,qbn ((qb3 css [.int .u32 0,.slice none 0 0] j).flatten) (j * 2) [.int .u32 bB,.slice bD bC.length bE]⟩:Rw) = ⟨ah,aj,73,2,out.length + 1,(qb3 css [.int .u32 0,.slice none 0 0] (j - 1)).flatten⟩:=by rw [qgW (hT.move ((((((((ac.trans ae).trans aa).trans ab).trans ak).trans ao).trans aw).trans au).trans bo).step immM ((((((((ac.trans ae).trans aa).trans ab).trans ak).trans ao).trans aw).trans au).trans bo).to').two rfl (by omega) (by omega) cm]
   obtain ⟨ei,ej⟩:=cr.rowEq 0 [⟨ah,aj,73,2,out.length + 1,(qb3 css [.int .u32 0,.slice none 0 0] (j - 1)).flatten⟩] eh
   have ek:IntKind.i64.wrap (((j:Nat):Int) - 1) = ((j - 1:Nat):Int):=by rw [wrap_i64 (by omega) (by omega)]; omega
   rw [ek] at cu
   exact ⟨(j - 1),by omega,(j - 1),rfl,by omega,by omega,cu.pk,ei,((au.trans bo).trans ej)⟩
  have fy:=of_decide_eq_false bn
  refine wp_exit (qaz (qaz (qaQ (qaa (qar [0,1,2,3,4] kz ?_)))))
  refine qaj [0,1,2] [3,4] [(5,.v (.int .u32 (qat l))),(6,.v (.slice ah (out.length + 1) aj)),(17,.v (.slice A ((u.take 32767).length) c)),(18,.v (.int .i64 (((u.take 32767).length:Nat):Int))),(19,.v (.int .i64 ((k:Nat):Int))),(79,.v (.slice ah (out.length + 1) aj)),(80,.v (.int .i64 ((i:Nat):Int))),(81,.v (.agg #[.int .u32 al,.slice aI ax.length aJ]))] aA bk fun g6 em=>?_
  have hji:j = i:=by omega
  have eo:(⟨ah,aj,73,2,out.length + 1,(qb3 css [.int .u32 0,.slice none 0 0] j).flatten⟩:Rw) = ⟨ah,aj,73,2,out.length + 1,(qb3 css [.int .u32 0,.slice none 0 0] i).flatten⟩:=by rw [hji]
  obtain ⟨cv,aF⟩:=aA.rowEq 0 [⟨ah,aj,73,2,out.length + 1,(qb3 css [.int .u32 0,.slice none 0 0] i).flatten⟩] eo
  obtain ⟨ep,cw⟩:=qcL (cv.own 0 _ rfl) (show 0 < out.length + 1 by omega)
  refine qam (qay em (t:=26) (A:=ah) (m:=(out.length + 1)) (q:=((i:Nat):Int)) (d:=82) kz (e:=73) (size:=2) (bytes:=32) kz (b:=ep) (o:=0) (j:=i) cw (rfl) (by omega) fun g7 eu=>?_)
  refine qam (qdt cv eu (k:=0) (g:=ep) (o:=i * 2) (c:=aj) (m:=(out.length + 1)) (size:=2) (e:=73) (A:=ah) (xs:=((qb3 css [.int .u32 0,.slice none 0 0] i).flatten)) (vs:=[.int .u32 al,.slice aI ax.length aJ]) kz rfl cw (by simp only [List.length_cons,List.length_nil]; omega) fun g8 aG cz ev=>?_)
  refine qaf (qaE (qaa (qar [0,1] kz ?_)))
  refine qaj [0,1] [] [(5,.v (.int .u32 (qat l))),(6,.v (.slice ah (out.length + 1) aj)),(17,.v (.slice A ((u.take 32767).length) c)),(18,.v (.int .i64 (((u.take 32767).length:Nat):Int))),(19,.v (.int .i64 (IntKind.i64.wrap (((k:Nat):Int) + 1))))] cz ev fun g9 ew=>?_
  refine qaf (qaa ?_)
  obtain ⟨bp,ey,aH⟩:=cz.cutB ew 0 [] [(5,.v (.int .u32 (qat l))),(6,.v (.slice ah (out.length + 1) aj)),(17,.v (.slice A ((u.take 32767).length) c)),(18,.v (.int .i64 (((u.take 32767).length:Nat):Int))),(19,.v (.int .i64 (IntKind.i64.wrap (((k:Nat):Int) + 1))))]
  have hcl:=(hT.move ((((((((((ac.trans ae).trans aa).trans ab).trans ak).trans ao).trans aw).trans au).trans aF).trans aG).trans aH).step immM ((((((((((ac.trans ae).trans aa).trans ab).trans ak).trans ao).trans aw).trans au).trans aF).trans aG).trans aH).to').len
  have ez:(⟨ah,aj,73,2,out.length + 1,qbn ((qb3 css [.int .u32 0,.slice none 0 0] i).flatten) (i * 2) [.int .u32 al,.slice aI ax.length aJ]⟩:Rw) = ⟨ah,aj,73,2,(out.take i ++ (al,ax) :: out.drop i).length,(css.take i ++ [.int .u32 al,.slice aI ax.length aJ] :: css.drop i).flatten⟩:=by rw [qgX (hT.move ((((((((((ac.trans ae).trans aa).trans ab).trans ak).trans ao).trans aw).trans au).trans aF).trans aG).trans aH).step immM ((((((((((ac.trans ae).trans aa).trans ab).trans ak).trans ao).trans aw).trans au).trans aF).trans aG).trans aH).to').two rfl (by omega) rfl,qcW (al,ax) hi]
  obtain ⟨bq,bt⟩:=ey.rowEq 0 [⟨ah,aj,73,2,(out.take i ++ (al,ax) :: out.drop i).length,(css.take i ++ [.int .u32 al,.slice aI ax.length aJ] :: css.drop i).flatten⟩] ez
  have eB:IntKind.i64.wrap (((k:Nat):Int) + 1) = ((k + 1:Nat):Int):=qbh (by omega)
  rw [eB] at bp
  have eC:out.length + 1 = (out.take i ++ (al,ax) :: out.drop i).length:=qcW (al,ax) hi
  rw [eC] at bp
  exact ⟨(u.take 32767).length - (k + 1),by omega,k + 1,ah,aj,(out.take i ++ (al,ax) :: out.drop i),(css.take i ++ [.int .u32 al,.slice aI ax.length aJ] :: css.drop i),rfl,by omega,(hT.move (((((((((((ac.trans ae).trans aa).trans ab).trans ak).trans ao).trans aw).trans au).trans aF).trans aG).trans aH).trans bt).step immM (((((((((((ac.trans ae).trans aa).trans ab).trans ak).trans ao).trans aw).trans au).trans aF).trans aG).trans aH).trans bt).to').ins ⟨⟨aI,aJ,rfl,(cK.move bq.step nilM bq.imm)⟩,fa,fb⟩ hi,by rw [qch aP,← hout]; exact (qjz (qfE hi hlt (fun h_=>absurd h_ (by omega))) ‹_› (fun h_=>absurd h_ (by omega))).symm,by rw [← qcW (al,ax) hi]; omega,bp.pk,bq,((((((((((((aR.trans ac).trans ae).trans aa).trans ab).trans ak).trans ao).trans aw).trans au).trans aF).trans aG).trans aH).trans bt)⟩
 have fz:=of_decide_eq_false cB
 refine wp_exit (qaz (qaz (qaQ (qaa (qas [(4,.v (.slice A_ out.length c_))] aO cA fun hC eD=>?_)))))
 refine wp_ret (qaD eD aO.cells (v:=.slice A_ out.length c_) kz ?_)
 exact qhB aO (k:=0) rfl rfl rfl hT (by omega) (by rw [hout,List.take_of_length_le (by omega)]; rfl)
def qj1 (d:Nat):Prop:=∀ (cf:List Value) (f:Fld) (ct:List Value) (t:Tree) (w:World) (F:Nat → Nat → Prop),FldR w F cf f → f.depth ≤ d → TreeR w F ct t →
  Calls Tryz.prog 84 #[.agg cf.toArray,.agg ct.toArray] w (qcF w (.bool (f.usual t)))
theorem qhK {d:Nat} (hu:qj1 d) (cf:List Value) (f:Fld) (ct:List Value) (t:Tree) (w:World) (F:Nat → Nat → Prop) (hf:FldR w F cf f) (hd:f.depth ≤ d + 1) (ht:TreeR w F ct t) :
  Calls Tryz.prog 84 #[.agg cf.toArray,.agg ct.toArray] w (qcF w (.bool (f.usual t))):=by
 obtain ⟨k1,y2,y3,y4,y5,y6,y7,l8,A9,aA,dD,rfl,rfl,dE,em⟩:=hf.open_
 have eo:=dE.small
 obtain ⟨af,ab,aC,aK,aB,ah,ai,bS,bT,bt,bu,fe,rfl,rfl,ep,ff,gJ,fg⟩:=ht.open_
 have eu:=ep.small
 have ev:=ff.small
 refine enter (n:=91) Tryz.func84 rfl Tryz.ntmps84 kz fun a hE=>?_
 have hW:=WOk.start w Nil
 refine qae [0,1,2] kz ?_
 refine qam (qbk hW hE (d:=2) (cs:=(z6 k1 y2 y3 y4 y5 y6 y7 A9 l8.length aA)) kz fun dF gK gL fh fi fj dG dH=>?_)
 refine qam (qbk dG dH (d:=3) (cs:=(z10 af ah ab.length ai aC bS aK.length bT bt aB.length bu)) kz fun dI gM gN fk fl fm aa dJ=>?_)
 refine qaj [2] [] [(2,.p 0 0),(3,.p 1 0)] aa dJ fun gO dK=>?_
 refine qaf (qaa ?_)
 refine wp_seq (qas [(2,.p 0 0),(3,.p 1 0),(10,.v (.int .i64 k1))] aa dK fun gP dL=>?_)
 refine wp_block (qas [(2,.p 0 0),(3,.p 1 0),(10,.v (.int .i64 k1)),(11,.v (.bool (k1 == 0)))] aa dL fun gQ bM=>?_)
 refine qax bM (b:=k1 == 0) kz (fun bN=>?_) (fun bN=>?_)
 ·
  have fo:k1 = 0:=by simpa using bN
  refine qas [(4,.v (.bool ((IntKind.i64.wrap (BitVec.ofInt 64 af &&& BitVec.ofInt 64 1).toNat) == y6)))] aa bM fun gR dM=>?_
  refine wp_ret (qaW (qaC (qaD dM aa.cells (v:=.bool ((IntKind.i64.wrap (BitVec.ofInt 64 af &&& BitVec.ofInt 64 1).toNat) == y6)) kz ?_)))
  refine ⟨congrArg (fun b_=>Ending.returned (Value.bool b_)) ?_,aa.step⟩
  first
   | (rw [qc4 ‹_›]; simp only [and1]; done)
   | (rw [qbP ‹_› ‹_›]; exact qbM hz (by omega); done)
   | (rw [qbP ‹_› ‹_›]; exact qbA (k:=k) (by omega) (by omega) ‹_›; done)
   | (rw [qci ‹_› ‹_› (by omega) ‹_›]; done)
   | (rw [qcA ‹_› ‹_› (by omega) ‹_›]; done)
   | (rw [qcB ‹_› ‹_› ‹_› ‹_› ‹_›]; done)
   | (rw [qct ‹_› ‹_› ‹_› ‹_› ‹_› ‹_›,huu,qb1 (by omega),Bool.true_and]; done)
   | (rw [qb0 ‹_› ‹_› ‹_› ‹_› ‹_› ‹_›]; done)
 have fq:k1 ≠ 0:=by simpa using bN
 refine qas [(2,.p 0 0),(3,.p 1 0),(10,.v (.int .i64 k1)),(19,.v (.bool (k1 == 7)))] aa bM fun gS bO=>?_
 refine qax bO (b:=k1 == 7) kz (fun bP=>?_) (fun bP=>?_)
 ·
  have fr:k1 = 7:=by simpa using bP
  refine wp_seq (qas [(22,.v (.slice ah ab.length ai)),(23,.v (.int .i64 ((ab.length:Nat):Int))),(24,.v (.int .i64 0))] aa bO fun gT dN=>?_)
  refine wp_block (wp_loop_ghost (fun n_ a_ w_=>∃ (k:Nat),n_ = ab.length - k ∧ k ≤ ab.length ∧ (∀ q,q < k → q < 16 → (((ab.getD q 0).toNat:Nat):Int) = 0) ∧ LInv aa 91 [⟨dF,0,[.int .i64 k1,.int .i64 y2,.int .i64 y3,.int .i64 y4,.int .i64 y5,.int .i64 y6,.int .i64 y7,.slice A9 l8.length aA],true⟩,⟨dI,0,[.int .i64 af,.slice ah ab.length ai,.bool aC,.slice bS aK.length bT,.slice bt aB.length bu],true⟩] [] [(22,.v (.slice ah ab.length ai)),(23,.v (.int .i64 ((ab.length:Nat):Int))),(24,.v (.int .i64 ((k:Nat):Int)))] a_ w_) (ab.length) ⟨0,by omega,by omega,fun q h_=>absurd h_ (Nat.not_lt_zero q),dN.pk,aa,Fr.refl _ _ _⟩ ?_)
  rintro gU gV gW ⟨k,ft,fu,hz,dO,ae,bU⟩
  refine qas [(22,.v (.slice ah ab.length ai)),(23,.v (.int .i64 ((ab.length:Nat):Int))),(24,.v (.int .i64 ((k:Nat):Int))),(25,.v (.bool (decide (((k:Nat):Int) < ((ab.length:Nat):Int)))))] ae dO fun gX bQ=>?_
  refine wp_seq (qax bQ (b:=decide (((k:Nat):Int) < ((ab.length:Nat):Int))) kz (fun bR=>?_) (fun bR=>?_))
  ·
   have fv:=of_decide_eq_true bR
   refine wp_skip (qaa (wp_seq (wp_block (qae [0,1,2,3,4] kz ?_))))
   refine qaj [0] [1,2,3,4] [(22,.v (.slice ah ab.length ai)),(23,.v (.int .i64 ((ab.length:Nat):Int))),(24,.v (.int .i64 ((k:Nat):Int))),(26,.v (.int .i64 ((k:Nat):Int)))] ae bQ fun gY dP=>?_
   obtain ⟨fw,fx,dQ,fy,bV⟩:=Slots.get ep (i:=k) (by omega)
   refine qam (qay dP (t:=24) (A:=ah) (m:=ab.length) (q:=((k:Nat):Int)) (d:=27) kz (e:=5) (size:=1) (bytes:=1) kz dQ rfl (by omega) fun gZ dR=>?_)
   refine qam (qaH dR (t:=5) (b:=fw) (o:=fx + k * 1) (d:=28) kz (cs:=[.int .u8 ((ab.getD k 0).toNat:Int)]) (v:=.int .u8 ((ab.getD k 0).toNat:Int)) kz (AtF.move bV ae.step nilM qbf).at_ fun g6 dS=>?_)
   refine qaj [3,4] [] [(5,.v (.int .i64 ((k:Nat):Int))),(6,.v (.int .u8 ((ab.getD k 0).toNat:Int))),(22,.v (.slice ah ab.length ai)),(23,.v (.int .i64 ((ab.length:Nat):Int))),(24,.v (.int .i64 ((k:Nat):Int)))] ae dS fun g7 dT=>?_
   refine qaf (qaa ?_)
   refine qae [0,1,2,3,4,5] kz ?_
   refine qaj [0,1,2] [3,4,5] [(6,.v (.int .u8 ((ab.getD k 0).toNat:Int))),(22,.v (.slice ah ab.length ai)),(23,.v (.int .i64 ((ab.length:Nat):Int))),(24,.v (.int .i64 ((k:Nat):Int))),(31,.v (.bool (decide (((k:Nat):Int) < 16))))] ae dT fun g8 bW=>?_
   refine (Bool.eq_false_or_eq_true (decide (((k:Nat):Int) < 16))).elim (fun aL=>?_) (fun aL=>?_)
   ·
    have fz:=of_decide_eq_true aL
    have dU:=bW
    rw [aL] at dU
    refine qaj [3,4,5] [] [(22,.v (.slice ah ab.length ai)),(23,.v (.int .i64 ((ab.length:Nat):Int))),(24,.v (.int .i64 ((k:Nat):Int))),(34,.v (.bool (((ab.getD k 0).toNat:Int) != 0)))] ae dU fun g9 aM=>?_
    refine qaf (qaa ?_)
    refine qax aM (b:=((ab.getD k 0).toNat:Int) != 0) kz (fun aN=>?_) (fun aN=>?_)
    ·
     have ew:((ab.getD k 0).toNat:Int) ≠ 0:=by simpa using aN
     refine qas [(4,.v (.bool false))] ae aM fun fA bX=>?_
     refine wp_ret (qaW (qaC (qaC (qaW (qaC (qaW (qaC (qaD bX ae.cells (v:=.bool false) kz ?_))))))))
     refine ⟨congrArg (fun b_=>Ending.returned (Value.bool b_)) ?_,ae.step⟩
     first
      | (rw [qc4 ‹_›]; simp only [and1]; done)
      | (rw [qbP ‹_› ‹_›]; exact qbM hz (by omega); done)
      | (rw [qbP ‹_› ‹_›]; exact qbA (k:=k) (by omega) (by omega) ‹_›; done)
      | (rw [qci ‹_› ‹_› (by omega) ‹_›]; done)
      | (rw [qcA ‹_› ‹_› (by omega) ‹_›]; done)
      | (rw [qcB ‹_› ‹_› ‹_› ‹_› ‹_›]; done)
      | (rw [qct ‹_› ‹_› ‹_› ‹_› ‹_› ‹_›,huu,qb1 (by omega),Bool.true_and]; done)
      | (rw [qb0 ‹_› ‹_› ‹_› ‹_› ‹_› ‹_›]; done)
    have ey:((ab.getD k 0).toNat:Int) = 0:=by simpa using aN
    refine wp_skip (qaE (qaa (qar [0,1] kz ?_)))
    refine qaj [0,1] [] [(22,.v (.slice ah ab.length ai)),(23,.v (.int .i64 ((ab.length:Nat):Int))),(24,.v (.int .i64 (IntKind.i64.wrap (((k:Nat):Int) + 1))))] ae aM fun fB bw=>?_
    refine qaf (qaa ?_)
    have bY:IntKind.i64.wrap (((k:Nat):Int) + 1) = ((k + 1:Nat):Int):=qbh (by omega)
    rw [bY] at bw
    exact ⟨ab.length - (k + 1),by omega,k + 1,rfl,by omega,fun q hq bZ=>by rcases Nat.lt_succ_iff_lt_or_eq.1 hq with h_ | h_; exact hz q h_ bZ; rw [h_] at bZ ⊢; first | assumption | omega,bw.pk,ae,bU⟩
   have ez:=of_decide_eq_false aL
   have b8:=bW
   rw [aL] at b8
   refine qaj [3,4,5] [] [(22,.v (.slice ah ab.length ai)),(23,.v (.int .i64 ((ab.length:Nat):Int))),(24,.v (.int .i64 ((k:Nat):Int))),(34,.v (.bool false))] ae b8 fun fC bx=>?_
   refine qaf (qaa ?_)
   refine qau bx (b:=false) kz rfl ?_
   refine wp_skip (qaE (qaa (qar [0,1] kz ?_)))
   refine qaj [0,1] [] [(22,.v (.slice ah ab.length ai)),(23,.v (.int .i64 ((ab.length:Nat):Int))),(24,.v (.int .i64 (IntKind.i64.wrap (((k:Nat):Int) + 1))))] ae bx fun fD bz=>?_
   refine qaf (qaa ?_)
   have cd:IntKind.i64.wrap (((k:Nat):Int) + 1) = ((k + 1:Nat):Int):=qbh (by omega)
   rw [cd] at bz
   exact ⟨ab.length - (k + 1),by omega,k + 1,rfl,by omega,fun q hq bZ=>by rcases Nat.lt_succ_iff_lt_or_eq.1 hq with h_ | h_; exact hz q h_ bZ; rw [h_] at bZ ⊢; first | assumption | omega,bz.pk,ae,bU⟩
  have eB:=of_decide_eq_false bR
  refine wp_exit (qaz (qaz (qaQ (qaa (qas [(4,.v (.bool true))] ae bQ fun fE ce=>?_)))))
  refine wp_ret (qaW (qaC (qaD ce ae.cells (v:=.bool true) kz ?_)))
  refine ⟨congrArg (fun b_=>Ending.returned (Value.bool b_)) ?_,ae.step⟩
  first
   | (rw [qc4 ‹_›]; simp only [and1]; done)
   | (rw [qbP ‹_› ‹_›]; exact qbM hz (by omega); done)
   | (rw [qbP ‹_› ‹_›]; exact qbA (k:=k) (by omega) (by omega) ‹_›; done)
   | (rw [qci ‹_› ‹_› (by omega) ‹_›]; done)
   | (rw [qcA ‹_› ‹_› (by omega) ‹_›]; done)
   | (rw [qcB ‹_› ‹_› ‹_› ‹_› ‹_›]; done)
   | (rw [qct ‹_› ‹_› ‹_› ‹_› ‹_› ‹_›,huu,qb1 (by omega),Bool.true_and]; done)
   | (rw [qb0 ‹_› ‹_› ‹_› ‹_› ‹_› ‹_›]; done)
 have eC:k1 ≠ 7:=by simpa using bP
 refine wp_seq (qas [(2,.p 0 0),(3,.p 1 0),(10,.v (.int .i64 k1)),(36,.v (.bool (k1 == 8)))] aa bO fun fF aD=>?_)
 refine qax aD (b:=k1 == 8) kz (fun aE=>?_) (fun aE=>?_)
 ·
  have eD:k1 = 8:=by simpa using aE
  refine wp_skip (qaa (qbF aD (b:=k1 == 8) kz (aE) ?_))
  refine wp_seq (qas [(3,.p 1 0),(41,.v (.bool (decide (y4 ≥ 0))))] aa aD fun fG aO=>?_)
  refine qax aO (b:=decide (y4 ≥ 0)) kz (fun aP=>?_) (fun aP=>?_)
  ·
   have eE:=of_decide_eq_true aP
   refine qas [(4,.v (.bool aC))] aa aO fun fH cg=>?_
   refine wp_ret (qaC (qaW (qaC (qaD cg aa.cells (v:=.bool aC) kz ?_))))
   refine ⟨congrArg (fun b_=>Ending.returned (Value.bool b_)) ?_,aa.step⟩
   first
    | (rw [qc4 ‹_›]; simp only [and1]; done)
    | (rw [qbP ‹_› ‹_›]; exact qbM hz (by omega); done)
    | (rw [qbP ‹_› ‹_›]; exact qbA (k:=k) (by omega) (by omega) ‹_›; done)
    | (rw [qci ‹_› ‹_› (by omega) ‹_›]; done)
    | (rw [qcA ‹_› ‹_› (by omega) ‹_›]; done)
    | (rw [qcB ‹_› ‹_› ‹_› ‹_› ‹_›]; done)
    | (rw [qct ‹_› ‹_› ‹_› ‹_› ‹_› ‹_›,huu,qb1 (by omega),Bool.true_and]; done)
    | (rw [qb0 ‹_› ‹_› ‹_› ‹_› ‹_› ‹_›]; done)
  have eF:=of_decide_eq_false aP
  refine wp_skip (qaa (qas [(4,.v (.bool (((ab.length:Nat):Int) == 0)))] aa aO fun fI cm=>?_))
  refine wp_ret (qaW (qaC (qaD cm aa.cells (v:=.bool (((ab.length:Nat):Int) == 0)) kz ?_)))
  refine ⟨congrArg (fun b_=>Ending.returned (Value.bool b_)) ?_,aa.step⟩
  first
   | (rw [qc4 ‹_›]; simp only [and1]; done)
   | (rw [qbP ‹_› ‹_›]; exact qbM hz (by omega); done)
   | (rw [qbP ‹_› ‹_›]; exact qbA (k:=k) (by omega) (by omega) ‹_›; done)
   | (rw [qci ‹_› ‹_› (by omega) ‹_›]; done)
   | (rw [qcA ‹_› ‹_› (by omega) ‹_›]; done)
   | (rw [qcB ‹_› ‹_› ‹_› ‹_› ‹_›]; done)
   | (rw [qct ‹_› ‹_› ‹_› ‹_› ‹_› ‹_›,huu,qb1 (by omega),Bool.true_and]; done)
   | (rw [qb0 ‹_› ‹_› ‹_› ‹_› ‹_› ‹_›]; done)
 have eG:k1 ≠ 8:=by simpa using aE
 refine qar [0,1] kz ?_
 refine qaj [0,1] [] [(2,.p 0 0),(3,.p 1 0),(10,.v (.int .i64 k1)),(36,.v (.bool (k1 == 9)))] aa aD fun fJ aQ=>?_
 refine qaf (qaa ?_)
 refine qax aQ (b:=k1 == 9) kz (fun aR=>?_) (fun aR=>?_)
 ·
  have eH:k1 = 9:=by simpa using aR
  refine wp_seq (qas [(3,.p 1 0),(41,.v (.bool (decide (y4 ≥ 0))))] aa aQ fun fK aS=>?_)
  refine qax aS (b:=decide (y4 ≥ 0)) kz (fun aT=>?_) (fun aT=>?_)
  ·
   have eI:=of_decide_eq_true aT
   refine qas [(4,.v (.bool aC))] aa aS fun fL cq=>?_
   refine wp_ret (qaC (qaW (qaC (qaD cq aa.cells (v:=.bool aC) kz ?_))))
   refine ⟨congrArg (fun b_=>Ending.returned (Value.bool b_)) ?_,aa.step⟩
   first
    | (rw [qc4 ‹_›]; simp only [and1]; done)
    | (rw [qbP ‹_› ‹_›]; exact qbM hz (by omega); done)
    | (rw [qbP ‹_› ‹_›]; exact qbA (k:=k) (by omega) (by omega) ‹_›; done)
    | (rw [qci ‹_› ‹_› (by omega) ‹_›]; done)
    | (rw [qcA ‹_› ‹_› (by omega) ‹_›]; done)
    | (rw [qcB ‹_› ‹_› ‹_› ‹_› ‹_›]; done)
    | (rw [qct ‹_› ‹_› ‹_› ‹_› ‹_› ‹_›,huu,qb1 (by omega),Bool.true_and]; done)
    | (rw [qb0 ‹_› ‹_› ‹_› ‹_› ‹_› ‹_›]; done)
  have eJ:=of_decide_eq_false aT
  refine wp_skip (qaa (qas [(4,.v (.bool (((ab.length:Nat):Int) == 0)))] aa aS fun fM cr=>?_))
  refine wp_ret (qaW (qaC (qaD cr aa.cells (v:=.bool (((ab.length:Nat):Int) == 0)) kz ?_)))
  refine ⟨congrArg (fun b_=>Ending.returned (Value.bool b_)) ?_,aa.step⟩
  first
   | (rw [qc4 ‹_›]; simp only [and1]; done)
   | (rw [qbP ‹_› ‹_›]; exact qbM hz (by omega); done)
   | (rw [qbP ‹_› ‹_›]; exact qbA (k:=k) (by omega) (by omega) ‹_›; done)
   | (rw [qci ‹_› ‹_› (by omega) ‹_›]; done)
   | (rw [qcA ‹_› ‹_› (by omega) ‹_›]; done)
   | (rw [qcB ‹_› ‹_› ‹_› ‹_› ‹_›]; done)
   | (rw [qct ‹_› ‹_› ‹_› ‹_› ‹_› ‹_›,huu,qb1 (by omega),Bool.true_and]; done)
   | (rw [qb0 ‹_› ‹_› ‹_› ‹_› ‹_› ‹_›]; done)
 have eK:k1 ≠ 9:=by simpa using aR
 refine qas [(2,.p 0 0),(3,.p 1 0),(10,.v (.int .i64 k1)),(48,.v (.bool (k1 == 11)))] aa aQ fun fN aU=>?_
 refine qax aU (b:=k1 == 11) kz (fun aV=>?_) (fun aV=>?_)
 ·
  have eL:k1 = 11:=by simpa using aV
  refine qas [(4,.v (.bool (((aK.length:Nat):Int) == 0)))] aa aU fun fO cu=>?_
  refine wp_ret (qaW (qaC (qaD cu aa.cells (v:=.bool (((aK.length:Nat):Int) == 0)) kz ?_)))
  refine ⟨congrArg (fun b_=>Ending.returned (Value.bool b_)) ?_,aa.step⟩
  first
   | (rw [qc4 ‹_›]; simp only [and1]; done)
   | (rw [qbP ‹_› ‹_›]; exact qbM hz (by omega); done)
   | (rw [qbP ‹_› ‹_›]; exact qbA (k:=k) (by omega) (by omega) ‹_›; done)
   | (rw [qci ‹_› ‹_› (by omega) ‹_›]; done)
   | (rw [qcA ‹_› ‹_› (by omega) ‹_›]; done)
   | (rw [qcB ‹_› ‹_› ‹_› ‹_› ‹_›]; done)
   | (rw [qct ‹_› ‹_› ‹_› ‹_› ‹_› ‹_›,huu,qb1 (by omega),Bool.true_and]; done)
   | (rw [qb0 ‹_› ‹_› ‹_› ‹_› ‹_› ‹_›]; done)
 have eM:k1 ≠ 11:=by simpa using aV
 refine qas [(2,.p 0 0),(3,.p 1 0),(54,.v (.bool (k1 == 10)))] aa aU fun fP aW=>?_
 refine qax aW (b:=k1 == 10) kz (fun aX=>?_) (fun aX=>?_)
 ·
  have eN:k1 = 10:=by simpa using aX
  refine wp_seq (qas [(2,.p 0 0),(3,.p 1 0),(57,.v (.slice A9 l8.length aA)),(58,.v (.int .i64 ((l8.length:Nat):Int))),(59,.v (.int .i64 0))] aa aW fun fQ cv=>?_)
  refine wp_block (wp_loop_ghost (fun n_ a_ w_=>∃ (k:Nat),n_ = l8.length - k ∧ k ≤ l8.length ∧ (usuals l8 (Tree.mk af ab aC aK aB) 0 = usuals (l8.drop k) (Tree.mk af ab aC aK aB) k) ∧ LInv aa 91 [⟨dF,0,[.int .i64 k1,.int .i64 y2,.int .i64 y3,.int .i64 y4,.int .i64 y5,.int .i64 y6,.int .i64 y7,.slice A9 l8.length aA],true⟩,⟨dI,0,[.int .i64 af,.slice ah ab.length ai,.bool aC,.slice bS aK.length bT,.slice bt aB.length bu],true⟩] [] [(2,.p 0 0),(3,.p 1 0),(57,.v (.slice A9 l8.length aA)),(58,.v (.int .i64 ((l8.length:Nat):Int))),(59,.v (.int .i64 ((k:Nat):Int)))] a_ w_) (l8.length) ⟨0,by omega,by omega,rfl,cv.pk,aa,Fr.refl _ _ _⟩ ?_)
  rintro fR fS fT ⟨k,eO,eP,huu,cw,ac,cz⟩
  refine qas [(2,.p 0 0),(3,.p 1 0),(57,.v (.slice A9 l8.length aA)),(58,.v (.int .i64 ((l8.length:Nat):Int))),(59,.v (.int .i64 ((k:Nat):Int))),(60,.v (.bool (decide (((k:Nat):Int) < ((l8.length:Nat):Int)))))] ac cw fun fU aY=>?_
  refine wp_seq (qax aY (b:=decide (((k:Nat):Int) < ((l8.length:Nat):Int))) kz (fun aZ=>?_) (fun aZ=>?_))
  ·
   have eQ:=of_decide_eq_true aZ
   refine wp_skip (qaa (wp_seq (wp_block (qae [0,1,2,3,4,5] kz ?_))))
   refine qaj [0] [1,2,3,4,5] [(2,.p 0 0),(3,.p 1 0),(57,.v (.slice A9 l8.length aA)),(58,.v (.int .i64 ((l8.length:Nat):Int))),(59,.v (.int .i64 ((k:Nat):Int))),(61,.v (.int .i64 ((k:Nat):Int)))] ac aY fun fV cA=>?_
   obtain ⟨dV,dW,cB,eR,ba⟩:=Slots.get dE (i:=k) (by omega)
   obtain ⟨dX,aF⟩:∃ x,l8[k]? = some x:=⟨_,List.getElem?_eq_getElem (by omega)⟩
   have bd:=em k dX aF
   obtain ⟨aj,ak,al,am,ao,ap,ar,au,aI,aJ,eS,rfl,bf,dY,fW⟩:=bd.open_
   rw [bf] at bd
   have dZ:=dY.small
   rw [bf] at ba
   refine qam (qay cA (t:=32) (A:=A9) (m:=l8.length) (q:=((k:Nat):Int)) (d:=62) kz (e:=50) (size:=8) (bytes:=80) kz cB rfl (by omega) fun fX cC=>?_)
   refine qam (qaH cC (t:=50) (b:=dV) (o:=dW + k * 8) (d:=63) kz (cs:=(z6 aj ak al am ao ap ar aI au.length aJ)) (v:=.agg #[.int .i64 aj,.int .i64 ak,.int .i64 al,.int .i64 am,.int .i64 ao,.int .i64 ap,.int .i64 ar,.slice aI au.length aJ]) kz (AtF.move ba ac.step nilM qbf).at_ fun fY cD=>?_)
   refine qam (qa9 ac cD (d:=8) (cs:=z20) kz fun fZ f5 f7 eT eU cE bA cG=>?_)
   refine qaj [4] [5] [(2,.p 0 0),(3,.p 1 0),(7,.v (.int .i64 ((k:Nat):Int))),(8,.p 2 0),(57,.v (.slice A9 l8.length aA)),(58,.v (.int .i64 ((l8.length:Nat):Int))),(59,.v (.int .i64 ((k:Nat):Int))),(63,.v (.agg #[.int .i64 aj,.int .i64 ak,.int .i64 al,.int .i64 am,.int .i64 ao,.int .i64 ap,.int .i64 ar,.slice aI au.length aJ]))] bA cG fun f8 cH=>?_
   refine qam (qaI bA cH (oi:=2) (cs:=(z6 aj ak al am ao ap ar aI au.length aJ)) kz fun f9 cI cJ cK=>?_)
   refine qaf (qaa ?_)
   refine qbm 6 kz cJ fun ga cL av cM=>?_
   refine qaY [0,1,2] [(2,.p 0 0),(3,.p 1 0),(57,.v (.slice A9 l8.length aA)),(58,.v (.int .i64 ((l8.length:Nat):Int))),(59,.v (.int .i64 ((k:Nat):Int))),(64,.v (.agg #[.int .i64 aj,.int .i64 ak,.int .i64 al,.int .i64 am,.int .i64 ao,.int .i64 ap,.int .i64 ar,.slice aI au.length aJ])),(65,.v (.agg #[.int .i64 af,.slice ah ab.length ai,.bool aC,.slice bS aK.length bT,.slice bt aB.length bu])),(66,.v (.int .i64 ((k:Nat):Int)))] 3 (qad (qai (qad (qad (qai (qad (qai (qad qah)))))))) (fun _ h=>h.cells) cM cK fun gb cN=>?_
   refine qaN (i:=3) kz (qal cN (f:=82) (vs:=[.agg #[.int .i64 af,.slice ah ab.length ai,.bool aC,.slice bS aK.length bT,.slice bt aB.length bu],.int .i64 ((k:Nat):Int)]) (d:=67) kz Tryz.call82 (sAt _ _ k _ _ (ht.move av.step nilM av.imm)) ?_)
   rintro e_ gc ⟨eV,rfl,cO,aw⟩
   have bg:=cO.move aw nilM (fun b o h_ hb_=>av.laid (G:=F) aw b o (.inl h_) (Nat.lt_of_lt_of_le hb_ aw.size))
   obtain ⟨d5,d6,d7,d8,d9,ea,eb,ec,ee,ef,eg,eW,eX,bh,eh,ei,gd,ge⟩:=bg.open_
   rw [bh] at bg
   have ej:=eh.small
   have ek:=ei.small
   rw [bh]
   refine ⟨_,rfl,fun gg cP=>?_⟩
   have ax:=av.next_nil aw
   have bi:=av.frN aw
   have cQ:=TT.ofW bi ax
   refine ⟨fun _=>cQ,?_⟩
   refine qaN (i:=4) kz (qal cP (f:=84) (vs:=[.agg #[.int .i64 aj,.int .i64 ak,.int .i64 al,.int .i64 am,.int .i64 ao,.int .i64 ap,.int .i64 ar,.slice aI au.length aJ],.agg #[.int .i64 d5,.slice ea d6.length eb,.bool d7,.slice ec d8.length ee,.slice ef d9.length eg]]) (d:=68) kz Tryz.call84 ( hu _ _ _ _ _ _ (bd.move ax.step nilM ax.imm) (by have h_:=qej aF; rw [qfq] at hd; omega) bg) ?_)
   rintro e_ gh ⟨rfl,bB⟩
   refine ⟨_,rfl,fun gi cR=>?_⟩
   have ag:=ax.next_nil bB
   have bC:=ax.frN bB
   have bD:=TT.ofW (bi.trans bC) ag
   refine ⟨fun _=>bD,?_⟩
   refine qaY [5] [(2,.p 0 0),(3,.p 1 0),(57,.v (.slice A9 l8.length aA)),(58,.v (.int .i64 ((l8.length:Nat):Int))),(59,.v (.int .i64 ((k:Nat):Int))),(69,.v (.bool (!(Fld.usual (Fld.mk aj ak al am ao ap ar au) (Tree.at_ (Tree.mk af ab aC aK aB) k)))))] 0 (qad (qai (qad (qad (qai (qad (qai (qad qah)))))))) (fun _ h=>h.cells) bD cR fun gj bj=>?_
   refine qaX kz ?_ _
   refine qaa (qax bj (b:=!(Fld.usual (Fld.mk aj ak al am ao ap ar au) (Tree.at_ (Tree.mk af ab aC aK aB) k))) kz (fun bk=>?_) (fun bk=>?_))
   ·
    refine qas [(4,.v (.bool false))] ag bj fun gk cS=>?_
    refine wp_ret (qaW (qaC (qaC (qaW (qaC (qaW (qaC (qaD cS ag.cells (v:=.bool false) kz ?_))))))))
    refine ⟨congrArg (fun b_=>Ending.returned (Value.bool b_)) ?_,ag.step⟩
    first
     | (rw [qc4 ‹_›]; simp only [and1]; done)
     | (rw [qbP ‹_› ‹_›]; exact qbM hz (by omega); done)
     | (rw [qbP ‹_› ‹_›]; exact qbA (k:=k) (by omega) (by omega) ‹_›; done)
     | (rw [qci ‹_› ‹_› (by omega) ‹_›]; done)
     | (rw [qcA ‹_› ‹_› (by omega) ‹_›]; done)
     | (rw [qcB ‹_› ‹_› ‹_› ‹_› ‹_›]; done)
     | (rw [qct ‹_› ‹_› ‹_› ‹_› ‹_› ‹_›,huu,qb1 (by omega),Bool.true_and]; done)
     | (rw [qb0 ‹_› ‹_› ‹_› ‹_› ‹_› ‹_›]; done)
     | (rw [qct ‹_› ‹_› ‹_› ‹_› ‹_› ‹_›,huu,qhD aF (by simpa using bk),Bool.false_and]; done)
   refine wp_skip (qaE (qaa (qar [0,1] kz ?_)))
   refine qaj [0,1] [] [(2,.p 0 0),(3,.p 1 0),(57,.v (.slice A9 l8.length aA)),(58,.v (.int .i64 ((l8.length:Nat):Int))),(59,.v (.int .i64 (IntKind.i64.wrap (((k:Nat):Int) + 1))))] ag bj fun gl cT=>?_
   refine qaf (qaa ?_)
   obtain ⟨bE,cU,cV⟩:=ag.cutB cT 2 [⟨dF,0,(z6 k1 y2 y3 y4 y5 y6 y7 A9 l8.length aA),true⟩,⟨dI,0,(z10 af ah ab.length ai aC bS aK.length bT bt aB.length bu),true⟩] [(2,.p 0 0),(3,.p 1 0),(57,.v (.slice A9 l8.length aA)),(58,.v (.int .i64 ((l8.length:Nat):Int))),(59,.v (.int .i64 (IntKind.i64.wrap (((k:Nat):Int) + 1))))]
   have cW:IntKind.i64.wrap (((k:Nat):Int) + 1) = ((k + 1:Nat):Int):=qbh (by omega)
   rw [cW] at bE
   exact ⟨l8.length - (k + 1),by omega,k + 1,rfl,by omega,by rw [huu]; exact qhC aF (by simpa using bk),bE.pk,cU,((((((cz.trans cE).trans cI).trans cL).trans bi).trans bC).trans cV)⟩
  have eY:=of_decide_eq_false aZ
  refine wp_exit (qaz (qaz (qaQ (qaa (qae [0,1,2,3,4,5,6,7] kz ?_)))))
  refine qaj [0,1,2,3] [4,5,6,7] [(72,.v (.slice A9 l8.length aA)),(74,.v (.slice bt aB.length bu))] ac aY fun gm cX=>?_
  refine qam (qal cX (f:=86) (vs:=[.slice A9 l8.length aA,.slice bt aB.length bu]) (d:=75) kz Tryz.call86 (qii _ _ l8 _ _ aB _ _ ⟨dD,(dE.move ac.step nilM ac.imm),(fun i_ x_ h_=>((em i_ x_ h_).move ac.step nilM ac.imm))⟩ (fg.move ac.step nilM ac.imm)) ?_)
  rintro e_ gn ⟨gp,gq,rfl,cY,bn⟩
  have eZ:=cY.move (Step.refl _ Nil) nilM (ac.laid (G:=F) bn)
  refine ⟨_,rfl,fun gt cZ=>?_⟩
  have bo:=ac.next_nil bn
  have e9:=ac.frN bn
  refine qaj [5,6,7] [] [(4,.v (.bool ((((qan l8 aB).length:Nat):Int) == 0)))] bo cZ fun gv da=>?_
  refine qaf (qaa ?_)
  refine wp_ret (qaW (qaC (qaD da bo.cells (v:=.bool ((((qan l8 aB).length:Nat):Int) == 0)) kz ?_)))
  refine ⟨congrArg (fun b_=>Ending.returned (Value.bool b_)) ?_,bo.step⟩
  first
   | (rw [qc4 ‹_›]; simp only [and1]; done)
   | (rw [qbP ‹_› ‹_›]; exact qbM hz (by omega); done)
   | (rw [qbP ‹_› ‹_›]; exact qbA (k:=k) (by omega) (by omega) ‹_›; done)
   | (rw [qci ‹_› ‹_› (by omega) ‹_›]; done)
   | (rw [qcA ‹_› ‹_› (by omega) ‹_›]; done)
   | (rw [qcB ‹_› ‹_› ‹_› ‹_› ‹_›]; done)
   | (rw [qct ‹_› ‹_› ‹_› ‹_› ‹_› ‹_›,huu,qb1 (by omega),Bool.true_and]; done)
   | (rw [qb0 ‹_› ‹_› ‹_› ‹_› ‹_› ‹_›]; done)
 have fa:k1 ≠ 10:=by simpa using aX
 refine wp_skip (qaE (qaa (qbm 13 kz aa fun gw fb bF db=>?_)))
 refine qaY [0,1,2,3,6,7,8,9] [(79,.v (.int .i64 af)),(81,.v (.int .i64 k1)),(85,.v (.int .i64 y6)),(87,.v (.int .i64 k1))] 6 (qad qah) (fun _ h=>h.cells) db aW fun gx dc=>?_
 refine qaN (i:=4) kz (qal dc (f:=112) (vs:=[.int .i64 k1]) (d:=82) kz Tryz.call112 (qjX k1 _) ?_)
 rintro e_ gy ⟨rfl,bG⟩
 refine ⟨_,rfl,fun gz de=>?_⟩
 have bH:=bF.next_nil bG
 have ay:=bF.frN bG
 have df:=TT.ofW ay bH
 refine ⟨fun _=>df,?_⟩
 refine qaN (i:=5) kz (qal de (f:=46) (vs:=[.int .i64 af,.int .i64 ((qbz k1:Nat):Int)]) (d:=83) kz Tryz.call46 (qcR af (qbz k1) (by first | decide | exact qa8 _ | omega) _) ?_)
 rintro e_ gA ⟨dg,dh,rfl,di,dj⟩
 refine ⟨_,rfl,fun gB dl=>?_⟩
 obtain ⟨bp,aG⟩:=bH.frFresh dj (brow dg dh 5 (be (qbz k1) af)) (Nat.le_refl _) di
 have dp:=TT.ofW (ay.trans aG) bp
 refine ⟨fun _=>dp,?_⟩
 refine qaN (i:=10) kz (qal dl (f:=112) (vs:=[.int .i64 k1]) (d:=88) kz Tryz.call112 (qjX k1 _) ?_)
 rintro e_ gC ⟨rfl,bI⟩
 refine ⟨_,rfl,fun gD dq=>?_⟩
 have bJ:=bp.next_nil bI
 have bq:=bp.frN bI
 have dr:=TT.ofW ((ay.trans aG).trans bq) bJ
 refine ⟨fun _=>dr,?_⟩
 refine qaN (i:=11) kz (qal dq (f:=46) (vs:=[.int .i64 y6,.int .i64 ((qbz k1:Nat):Int)]) (d:=89) kz Tryz.call46 (qcR y6 (qbz k1) (by first | decide | exact qa8 _ | omega) _) ?_)
 rintro e_ gE ⟨dt,du,rfl,dv,dw⟩
 refine ⟨_,rfl,fun gF dx=>?_⟩
 obtain ⟨az,bK⟩:=bJ.frFresh dw (brow dt du 5 (be (qbz k1) y6)) (Nat.le_refl _) dv
 have dy:=TT.ofW (((ay.trans aG).trans bq).trans bK) az
 refine ⟨fun _=>dy,?_⟩
 refine qaN (i:=12) kz (qal dx (f:=17) (vs:=[.slice dg ((be (qbz k1) af).length) dh,.slice dt ((be (qbz k1) y6).length) du]) (d:=90) kz Tryz.call17 (qlD _ _ _ _ (be (qbz k1) af) (be (qbz k1) y6) _ _ (qcK (az.own 0 _ rfl) (by first | omega | (rw [qbv]; decide) | (simp only [be_length]; exact Nat.le_trans (qa8 _) (by decide)) | (have:=hroom; omega) | (have:=hmade; omega) | (simp only [List.length_append,List.length_nil]; omega)) (F:=fun _ _=>True) (fun _ _ _=>trivial)) (qcK (az.own 1 _ rfl) (by first | omega | (rw [qbv]; decide) | (simp only [be_length]; exact Nat.le_trans (qa8 _) (by decide)) | (have:=hroom; omega) | (have:=hmade; omega) | (simp only [List.length_append,List.length_nil]; omega)) (F:=fun _ _=>True) (fun _ _ _=>trivial))) ?_)
 rintro e_ gG ⟨rfl,bL⟩
 refine ⟨_,rfl,fun gH dz=>?_⟩
 have aH:=az.next_nil bL
 have dA:=az.frN bL
 have dB:=TT.ofW ((((ay.trans aG).trans bq).trans bK).trans dA) aH
 refine ⟨fun _=>dB,?_⟩
 refine qaN (i:=13) kz (qcd [4] aH.cells dz (env':=[(4,.v (.bool (decide (be (qbz k1) af = be (qbz k1) y6))))]) kz fun gI dC=>?_)
 refine ⟨fun h=>absurd rfl h,?_⟩
 refine qaX kz ?_ _
 refine qaa (wp_ret (qaD dC aH.cells (v:=.bool (decide (be (qbz k1) af = be (qbz k1) y6))) kz ?_))
 refine ⟨congrArg (fun b_=>Ending.returned (Value.bool b_)) ?_,aH.step⟩
 first
  | (rw [qc4 ‹_›]; simp only [and1]; done)
  | (rw [qbP ‹_› ‹_›]; exact qbM hz (by omega); done)
  | (rw [qbP ‹_› ‹_›]; exact qbA (k:=k) (by omega) (by omega) ‹_›; done)
  | (rw [qci ‹_› ‹_› (by omega) ‹_›]; done)
  | (rw [qcA ‹_› ‹_› (by omega) ‹_›]; done)
  | (rw [qcB ‹_› ‹_› ‹_› ‹_› ‹_›]; done)
  | (rw [qct ‹_› ‹_› ‹_› ‹_› ‹_› ‹_›,huu,qb1 (by omega),Bool.true_and]; done)
  | (rw [qb0 ‹_› ‹_› ‹_› ‹_› ‹_› ‹_›]; done)
theorem qlf:∀ d,qj1 d
 | 0=>fun cf f ct t w F hf hd ht=>by
  obtain ⟨k,x1,x2,x3,x4,x5,x6,l,A,c,xs,rfl,_⟩:=hf.open_
  rw [qfq] at hd; omega
 | d + 1=>qhK (qlf d)
end Go.Proofs.YtogokkkdfcgncaaGreatDoor.ME