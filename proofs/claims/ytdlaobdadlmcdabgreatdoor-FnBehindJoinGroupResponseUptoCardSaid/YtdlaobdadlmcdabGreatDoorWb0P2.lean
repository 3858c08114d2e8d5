/- The texts of a claim, put together: the engine, the contracts, the law. Own work. -/
import Derived.Test.YtdlaobdadlmcdabGreatDoorWb0P1
import Derived.Test.YtdlaobdadlmcdabGreatDoorProg
namespace Go.Proofs.YtdlaobdadlmcdabGreatDoor.ME
open Go
open Go.RowKit
set_option linter.unusedVariables false
set_option linter.unusedSimpArgs false
set_option maxRecDepth 20000
theorem sHas (k x1 x2 x3 x4 x5 x6:Int) (fs:List Fld) (AF:Option Addr) (cF:Nat) (v:Int) (w:World) :
  Calls Tryz.prog 33 #[.agg #[.int .i64 k,.int .i64 x1,.int .i64 x2,.int .i64 x3,.int .i64 x4,.int .i64 x5,.int .i64 x6,.slice AF fs.length cF],.int .i64 v] w (qcp w (.bool (Fld.has (Fld.mk k x1 x2 x3 x4 x5 x6 fs) v))):=by
 refine enter (n:=20) Tryz.func33 rfl Tryz.ntmps33 kz fun a hE=>?_
 have hW:=WOk.start w Nil
 refine qac [0,1] kz ?_
 refine qak (qbs hW hE (d:=2) (cs:=[.int .i64 k,.int .i64 x1,.int .i64 x2,.int .i64 x3,.int .i64 x4,.int .i64 x5,.int .i64 x6,.slice AF fs.length cF]) kz fun b1 a2 w3 hb4 hz5 hF6 hW7 hE8=>?_)
 refine qaj [1] [] [(1,.v (.int .i64 v)),(2,.p 0 0)] hW7 hE8 fun a9 af=>?_
 refine qad (qaa ?_)
 refine qac [0,1,2,3,4,5,6,7,8,9,10,11,12,13,14,15] kz ?_
 refine qaj [0,1,2,3,4] [5,6,7,8,9,10,11,12,13,14,15] [(1,.v (.int .i64 v)),(2,.p 0 0),(9,.v (.bool (decide (x1 ≤ v))))] hW7 af fun av ac=>?_
 refine (Bool.eq_false_or_eq_true (decide (x1 ≤ v))).elim (fun aa=>?_) (fun aa=>?_)
 ·
  have ao:=of_decide_eq_true aa
  have ag:=ac.cast (env':=[(1,.v (.int .i64 v)),(2,.p 0 0),(9,.v (.bool true))]) (by rw [aa])
  refine qaj [5,6,7,8] [9,10,11,12,13,14,15] [(1,.v (.int .i64 v)),(2,.p 0 0),(9,.v (.bool true)),(13,.v (.bool (decide (x2 < 0))))] hW7 ag fun aw ae=>?_
  refine (Bool.eq_false_or_eq_true (decide (x2 < 0))).elim (fun ab=>?_) (fun ab=>?_)
  ·
   have ap:=of_decide_eq_true ab
   have ah:=ae.cast (env':=[(1,.v (.int .i64 v)),(2,.p 0 0),(9,.v (.bool true)),(13,.v (.bool true))]) (by rw [ab])
   refine qaj [9,10,11,12,13,14,15] [] [(4,.v (.bool true))] hW7 ah fun ax ai=>?_
   refine qad (qaa ?_)
   refine wp_ret ?_
   refine qaG ai hW7.cells (v:=.bool true) kz ?_
   exact ⟨by simp only [Fld.has,aa,ab,Bool.true_and,Bool.and_true,Bool.false_and,Bool.and_false,Bool.true_or,Bool.false_or,Bool.or_true,Bool.or_false],hW7.step⟩
  have ar:=of_decide_eq_false ab
  have aj:=ae.cast (env':=[(1,.v (.int .i64 v)),(2,.p 0 0),(9,.v (.bool true)),(13,.v (.bool false))]) (by rw [ab])
  refine qaj [9,10,11,12,13,14,15] [] [(4,.v (.bool (decide (v ≤ x2))))] hW7 aj fun ay ak=>?_
  refine qad (qaa ?_)
  refine wp_ret ?_
  refine qaG ak hW7.cells (v:=.bool (decide (v ≤ x2))) kz ?_
  exact ⟨by simp only [Fld.has,aa,ab,Bool.true_and,Bool.and_true,Bool.false_and,Bool.and_false,Bool.true_or,Bool.false_or,Bool.or_true,Bool.or_false],hW7.step⟩
 have au:=of_decide_eq_false aa
 have al:=ac.cast (env':=[(1,.v (.int .i64 v)),(2,.p 0 0),(9,.v (.bool false))]) (by rw [aa])
 refine qaj [5,6,7,8,9,10,11,12,13,14,15] [] [(4,.v (.bool false))] hW7 al fun az am=>?_
 refine qad (qaa ?_)
 refine wp_ret ?_
 refine qaG am hW7.cells (v:=.bool false) kz ?_
 exact ⟨by simp only [Fld.has,aa,Bool.true_and,Bool.and_true,Bool.false_and,Bool.and_false,Bool.true_or,Bool.false_or,Bool.or_true,Bool.or_false],hW7.step⟩
theorem qlS (k x1 x2 x3 x4 x5 x6:Int) (fs:List Fld) (AF:Option Addr) (cF:Nat) (v:Int) (n:Int) (s:Bs) (b:Bool) (l:List Tree) (u:List (Int × Bs)) (A1:Option Addr) (c1:Nat) (A2:Option Addr) (c2:Nat) (A3:Option Addr) (c3:Nat) (w:World) :
  Calls Tryz.prog 65 #[.agg #[.int .i64 k,.int .i64 x1,.int .i64 x2,.int .i64 x3,.int .i64 x4,.int .i64 x5,.int .i64 x6,.slice AF fs.length cF],.int .i64 v,.agg #[.int .i64 n,.slice A1 s.length c1,.bool b,.slice A2 l.length c2,.slice A3 u.length c3]] w (qcp w (.bool (Fld.nul (Fld.mk k x1 x2 x3 x4 x5 x6 fs) v (Tree.mk n s b l u)))):=by
 refine enter (n:=20) Tryz.func65 rfl Tryz.ntmps65 kz fun a hE=>?_
 have hW:=WOk.start w Nil
 refine qac [0,1,2] kz ?_
 refine qak (qbs hW hE (d:=3) (cs:=[.int .i64 k,.int .i64 x1,.int .i64 x2,.int .i64 x3,.int .i64 x4,.int .i64 x5,.int .i64 x6,.slice AF fs.length cF]) kz fun b1 a2 w3 hb4 hz5 hF6 hW7 hE8=>?_)
 refine qak (qbs hW7 hE8 (d:=5) (cs:=[.int .i64 n,.slice A1 s.length c1,.bool b,.slice A2 l.length c2,.slice A3 u.length c3]) kz fun b9 ay az ar au av aa ag=>?_)
 refine qaj [2] [] [(1,.v (.int .i64 v)),(3,.p 0 0),(5,.p 1 0)] aa ag fun aA ah=>?_
 refine qad (qaa ?_)
 refine qac [0,1,2,3,4,5,6,7,8,9,10,11,12,13] kz ?_
 refine qaj [0,1,2] [3,4,5,6,7,8,9,10,11,12,13] [(1,.v (.int .i64 v)),(3,.p 0 0),(9,.v (.bool b))] aa ah fun aB ae=>?_
 refine (Bool.eq_false_or_eq_true (b)).elim (fun ac=>?_) (fun ac=>?_)
 ·
  have ai:=ae.cast (env':=[(1,.v (.int .i64 v)),(3,.p 0 0),(9,.v (.bool true))]) (by rw [ac])
  refine qaj [3,4,5,6,7] [8,9,10,11,12,13] [(1,.v (.int .i64 v)),(3,.p 0 0),(14,.v (.bool (decide (x3 ≥ 0))))] aa ai fun aC af=>?_
  refine (Bool.eq_false_or_eq_true (decide (x3 ≥ 0))).elim (fun ab=>?_) (fun ab=>?_)
  ·
   have aw:=of_decide_eq_true ab
   have aj:=af.cast (env':=[(1,.v (.int .i64 v)),(3,.p 0 0),(14,.v (.bool true))]) (by rw [ab])
   refine qaj [8,9,10,11,12,13] [] [(6,.v (.bool (decide (v ≥ x3))))] aa aj fun aD ak=>?_
   refine qad (qaa ?_)
   refine wp_ret ?_
   refine qaG ak aa.cells (v:=.bool (decide (v ≥ x3))) kz ?_
   exact ⟨by simp only [Fld.nul,ac,ab,Bool.true_and,Bool.and_true,Bool.false_and,Bool.and_false,Bool.true_or,Bool.false_or,Bool.or_true,Bool.or_false],aa.step⟩
  have ax:=of_decide_eq_false ab
  have al:=af.cast (env':=[(1,.v (.int .i64 v)),(3,.p 0 0),(14,.v (.bool false))]) (by rw [ab])
  refine qaj [8,9,10,11,12,13] [] [(6,.v (.bool false))] aa al fun aE am=>?_
  refine qad (qaa ?_)
  refine wp_ret ?_
  refine qaG am aa.cells (v:=.bool false) kz ?_
  exact ⟨by simp only [Fld.nul,ac,ab,Bool.true_and,Bool.and_true,Bool.false_and,Bool.and_false,Bool.true_or,Bool.false_or,Bool.or_true,Bool.or_false],aa.step⟩
 have ao:=ae.cast (env':=[(1,.v (.int .i64 v)),(3,.p 0 0),(9,.v (.bool false))]) (by rw [ac])
 refine qaj [3,4,5,6,7,8,9,10,11,12,13] [] [(6,.v (.bool false))] aa ao fun aF ap=>?_
 refine qad (qaa ?_)
 refine wp_ret ?_
 refine qaG ap aa.cells (v:=.bool false) kz ?_
 exact ⟨by simp only [Fld.nul,ac,Bool.true_and,Bool.and_true,Bool.false_and,Bool.and_false,Bool.true_or,Bool.false_or,Bool.or_true,Bool.or_false],aa.step⟩
theorem qjh (k:Int) (w:World):Calls Tryz.prog 70 #[.int .i64 k] w (qcp w (.int .i64 ((qbf k:Nat):Int))):=by
 refine enter (n:=11) Tryz.func70 rfl Tryz.ntmps70 kz fun a hE=>?_
 have hW:=WOk.start w Nil
 refine qar [(0,.v (.int .i64 k))] hW hE fun a1 hE2=>?_
 refine wp_seq ?_
 refine qar [(3,.v (.int .i64 k))] hW hE2 fun a3 hE4=>?_
 refine wp_block ?_
 refine qar [(3,.v (.int .i64 k)),(4,.v (.bool (k == 1)))] hW hE4 fun a5 hE6=>?_
 refine qau hE6 (b:=k == 1) kz (fun hc7=>?_) (fun hc7=>?_)
 ·
  have hf8:k = 1:=by simpa using hc7
  refine qar [(2,.v (.int .i64 1))] hW hE6 fun a9 ah=>?_
  refine wp_ret ?_
  refine qaL ?_
  refine qax ?_
  refine qaG ah hW.cells (v:=.int .i64 1) kz ?_
  exact ⟨by simp_all [qbf],hW.step⟩
 have am:k ≠ 1:=by simpa using hc7
 refine wp_seq ?_
 refine qar [(3,.v (.int .i64 k)),(6,.v (.bool (k == 2)))] hW hE6 fun ax aa=>?_
 refine qau aa (b:=k == 2) kz (fun ab=>?_) (fun ab=>?_)
 ·
  have ao:k = 2:=by simpa using ab
  refine wp_skip ?_
  refine qaa ?_
  refine qbz aa (b:=k == 2) kz (ab) ?_
  refine qar [(2,.v (.int .i64 2))] hW aa fun ay ai=>?_
  refine wp_ret ?_
  refine qaL ?_
  refine qax ?_
  refine qaG ai hW.cells (v:=.int .i64 2) kz ?_
  exact ⟨by simp_all [qbf],hW.step⟩
 have ap:k ≠ 2:=by simpa using ab
 refine qap [0,1] kz ?_
 refine qaj [0,1] [] [(3,.v (.int .i64 k)),(6,.v (.bool (k == 5)))] hW aa fun az ac=>?_
 refine qad (qaa ?_)
 refine qau ac (b:=k == 5) kz (fun ae=>?_) (fun ae=>?_)
 ·
  have ar:k = 5:=by simpa using ae
  refine qar [(2,.v (.int .i64 2))] hW ac fun aA aj=>?_
  refine wp_ret ?_
  refine qaL ?_
  refine qax ?_
  refine qaG aj hW.cells (v:=.int .i64 2) kz ?_
  exact ⟨by simp_all [qbf],hW.step⟩
 have au:k ≠ 5:=by simpa using ae
 refine qar [(9,.v (.bool (k == 3)))] hW ac fun aB af=>?_
 refine qau af (b:=k == 3) kz (fun ag=>?_) (fun ag=>?_)
 ·
  have av:k = 3:=by simpa using ag
  refine qar [(2,.v (.int .i64 4))] hW af fun aC ak=>?_
  refine wp_ret ?_
  refine qaL ?_
  refine qax ?_
  refine qaG ak hW.cells (v:=.int .i64 4) kz ?_
  exact ⟨by simp_all [qbf],hW.step⟩
 have aw:k ≠ 3:=by simpa using ag
 refine wp_skip ?_
 refine qaz ?_
 refine qaa ?_
 refine qar [(2,.v (.int .i64 8))] hW af fun aD al=>?_
 refine wp_ret ?_
 refine qaG al hW.cells (v:=.int .i64 8) kz ?_
 exact ⟨by simp_all [qbf],hW.step⟩
theorem qji (A:Option Addr) (c:Nat) (s:Bs) (hc:s.length ≤ c) (w:World) :
  Calls Tryz.prog 40 #[.slice A s.length c] w (qcp w (.slice A (qaw s).length c)):=by
 refine enter (n:=8) Tryz.func40 rfl Tryz.ntmps40 kz fun a hE=>?_
 have hW:=WOk.start w Nil
 refine qar [(0,.v (.slice A s.length c))] hW hE fun a1 hE2=>?_
 refine qac [0,1,2,3,4,5] kz ?_
 refine qaj [0,1,2,3] [4,5] [(3,.v (.slice A s.length c)),(6,.v (.int .i64 (if 32767 < ((s.length:Nat):Int) then 32767 else ((s.length:Nat):Int))))] hW hE2 fun a3 hE4=>?_
 refine qak (qcW hE4 (t:=22) (A:=A) (m:=s.length) (cp:=c) (q:=(if 32767 < ((s.length:Nat):Int) then 32767 else ((s.length:Nat):Int))) (d:=7) (j:=(qaw s).length) kz (e:=5) (size:=1) (bytes:=1) kz (by simpa [qaw] using qgG s.length) (by simp only [qaw,List.length_take]; omega) fun a5 hE6=>?_)
 refine qaj [5] [] [(2,.v (.slice A ((qaw s).length) c))] hW hE6 fun a7 hE8=>?_
 refine qad (qaa ?_)
 refine wp_ret ?_
 refine qaG hE8 hW.cells (v:=.slice A ((qaw s).length) c) kz ?_
 exact ⟨rfl,hW.step⟩
theorem qkW (A:Option Addr) (c:Nat) (s:List Tree) (hc:s.length ≤ c) (w:World) :
  Calls Tryz.prog 66 #[.slice A s.length c] w (qcp w (.slice A (qas s).length c)):=by
 refine enter (n:=8) Tryz.func66 rfl Tryz.ntmps66 kz fun a hE=>?_
 have hW:=WOk.start w Nil
 refine qar [(0,.v (.slice A s.length c))] hW hE fun a1 hE2=>?_
 refine qac [0,1,2,3,4,5] kz ?_
 refine qaj [0,1,2,3] [4,5] [(3,.v (.slice A s.length c)),(6,.v (.int .i64 (if 32767 < ((s.length:Nat):Int) then 32767 else ((s.length:Nat):Int))))] hW hE2 fun a3 hE4=>?_
 refine qak (qcW hE4 (t:=23) (A:=A) (m:=s.length) (cp:=c) (q:=(if 32767 < ((s.length:Nat):Int) then 32767 else ((s.length:Nat):Int))) (d:=7) (j:=(qas s).length) kz (e:=26) (size:=5) (bytes:=88) kz (by simpa [qas] using qgG s.length) (by simp only [qas,List.length_take]; omega) fun a5 hE6=>?_)
 refine qaj [5] [] [(2,.v (.slice A ((qas s).length) c))] hW hE6 fun a7 hE8=>?_
 refine qad (qaa ?_)
 refine wp_ret ?_
 refine qaG hE8 hW.cells (v:=.slice A ((qas s).length) c) kz ?_
 exact ⟨rfl,hW.step⟩
theorem qlv (A A':Option Addr) (c c':Nat) (s t:Bs) (w:World) (F:Nat → Nat → Prop) (hs:Octs w F A c s) (ht:Octs w F A' c' t) :
  Calls Tryz.prog 11 #[.slice A s.length c,.slice A' t.length c'] w (qcp w (.bool (decide (s = t)))):=by
 refine enter (n:=26) Tryz.func11 rfl Tryz.ntmps11 kz fun a hE=>?_
 have hW:=WOk.start w Nil
 have hl:=Slots.small hs
 refine qar [(0,.v (.slice A s.length c)),(1,.v (.slice A' t.length c'))] hW hE fun a1 hE2=>?_
 refine wp_seq ?_
 refine qar [(0,.v (.slice A s.length c)),(1,.v (.slice A' t.length c')),(10,.v (.bool (((s.length:Nat):Int) != ((t.length:Nat):Int))))] hW hE2 fun a3 hE4=>?_
 refine qau hE4 (b:=((s.length:Nat):Int) != ((t.length:Nat):Int)) kz (fun hc5=>?_) (fun hc5=>?_)
 ·
  have hf6:((s.length:Nat):Int) ≠ ((t.length:Nat):Int):=by simpa using hc5
  refine qar [(4,.v (.bool false))] hW hE4 fun a7 hE8=>?_
  refine wp_ret ?_
  refine qax ?_
  refine qaG hE8 hW.cells (v:=.bool false) kz ?_
  exact ⟨by first | rw [← qfJ hq (by omega) hlen] | rw [← qgI ‹_›] | rw [← qfI ‹_›],hW.step⟩
 have hf9:((s.length:Nat):Int) = ((t.length:Nat):Int):=by simpa using hc5
 refine wp_skip ?_
 refine qaa ?_
 refine wp_seq ?_
 refine qar [(0,.v (.slice A s.length c)),(1,.v (.slice A' t.length c')),(12,.v (.int .i64 ((s.length:Nat):Int))),(13,.v (.int .i64 0))] hW hE4 fun aP ak=>?_
 refine wp_block ?_
 have hlen:s.length = t.length:=by omega
 refine wp_loop_ghost (fun n_ a_ w_=>∃ (k:Nat),n_ = s.length - k ∧ k ≤ s.length ∧ (s.take k = t.take k) ∧ LInv hW 26 [] [] [(0,.v (.slice A s.length c)),(1,.v (.slice A' t.length c')),(12,.v (.int .i64 ((s.length:Nat):Int))),(13,.v (.int .i64 ((k:Nat):Int)))] a_ w_) (s.length) ⟨0,by omega,by omega,rfl,ak.pk,hW,Fr.refl _ _ _⟩ ?_
 rintro aQ aR aS ⟨k,aD,aE,hq,al,ab,am⟩
 refine qar [(0,.v (.slice A s.length c)),(1,.v (.slice A' t.length c')),(12,.v (.int .i64 ((s.length:Nat):Int))),(13,.v (.int .i64 ((k:Nat):Int))),(14,.v (.bool (decide (((k:Nat):Int) < ((s.length:Nat):Int)))))] ab al fun aT ac=>?_
 refine wp_seq ?_
 refine qau ac (b:=decide (((k:Nat):Int) < ((s.length:Nat):Int))) kz (fun ae=>?_) (fun ae=>?_)
 ·
  have aF:=of_decide_eq_true ae
  refine wp_skip ?_
  refine qaa ?_
  refine wp_seq ?_
  refine wp_block ?_
  refine qar [(0,.v (.slice A s.length c)),(1,.v (.slice A' t.length c')),(5,.v (.int .i64 ((k:Nat):Int))),(12,.v (.int .i64 ((s.length:Nat):Int))),(13,.v (.int .i64 ((k:Nat):Int)))] ab ac fun aU ao=>?_
  refine qb8 kz ab fun aV ap aa=>?_
  refine qa4 [0,1,4,5] [(0,.v (.slice A s.length c)),(1,.v (.slice A' t.length c')),(12,.v (.int .i64 ((s.length:Nat):Int))),(13,.v (.int .i64 ((k:Nat):Int))),(16,.v (.slice A s.length c)),(17,.v (.int .i64 ((k:Nat):Int))),(20,.v (.slice A' t.length c')),(21,.v (.int .i64 ((k:Nat):Int)))] 5 (qab (qae (qab (qab (qae (qab qah)))))) (fun _ h=>h ▸ aa.cells) rfl ao fun aW ar=>?_
  obtain ⟨aG,aH,au,aI,ah⟩:=Slots.get hs (i:=k) (by omega)
  refine qbq ar (i:=2) (t:=22) (A:=A) (m:=s.length) (q:=((k:Nat):Int)) (d:=18) kz (e:=5) (size:=1) (bytes:=1) kz au rfl (by omega) kz kz (qab (qae (qab (qab (qae (qab qah)))))) rfl fun aX av=>?_
  refine qbp av (i:=3) (t:=5) (b:=aG) (o:=aH + k * 1) (d:=19) kz (cs:=[.int .u8 ((s.getD k 0).toNat:Int)]) (v:=.int .u8 ((s.getD k 0).toNat:Int)) kz (fun w' h'=>h' ▸ (AtF.move ah aa.step nilM qa0).at_) kz kz (qab (qae (qab (qab (qae (qab qah)))))) rfl fun aY aw=>?_
  obtain ⟨aJ,aK,ax,aL,ai⟩:=Slots.get ht (i:=k) (by omega)
  refine qbq aw (i:=6) (t:=22) (A:=A') (m:=t.length) (q:=((k:Nat):Int)) (d:=22) kz (e:=5) (size:=1) (bytes:=1) kz ax rfl (by omega) kz kz (qab (qae (qab (qab (qae (qab qah)))))) rfl fun aZ ay=>?_
  refine qbp ay (i:=7) (t:=5) (b:=aJ) (o:=aK + k * 1) (d:=23) kz (cs:=[.int .u8 ((t.getD k 0).toNat:Int)]) (v:=.int .u8 ((t.getD k 0).toNat:Int)) kz (fun w' h'=>h' ▸ (AtF.move ai aa.step nilM qa0).at_) kz kz (qab (qae (qab (qab (qae (qab qah)))))) rfl fun ba az=>?_
  refine qa4 [8] [(0,.v (.slice A s.length c)),(1,.v (.slice A' t.length c')),(12,.v (.int .i64 ((s.length:Nat):Int))),(13,.v (.int .i64 ((k:Nat):Int))),(24,.v (.bool (((s.getD k 0).toNat:Int) != ((t.getD k 0).toNat:Int))))] 0 (qab (qae (qab (qab (qae (qab qah)))))) (fun _ h=>h ▸ aa.cells) rfl az fun bd af=>?_
  refine qa3 kz ?_ _
  refine qaa ?_
  refine qau af (b:=((s.getD k 0).toNat:Int) != ((t.getD k 0).toNat:Int)) kz (fun ag=>?_) (fun ag=>?_)
  ·
   have aM:((s.getD k 0).toNat:Int) ≠ ((t.getD k 0).toNat:Int):=by simpa using ag
   refine qar [(4,.v (.bool false))] aa af fun bf aA=>?_
   refine wp_ret ?_
   refine qaL ?_
   refine qax ?_
   refine qax ?_
   refine qaL ?_
   refine qax ?_
   refine qaG aA aa.cells (v:=.bool false) kz ?_
   exact ⟨by first | rw [← qfJ hq (by omega) hlen] | rw [← qgI ‹_›] | rw [← qfI ‹_›],aa.step⟩
  have aN:((s.getD k 0).toNat:Int) = ((t.getD k 0).toNat:Int):=by simpa using ag
  refine wp_skip ?_
  refine qaz ?_
  refine qaa ?_
  refine qap [0,1] kz ?_
  refine qaj [0,1] [] [(0,.v (.slice A s.length c)),(1,.v (.slice A' t.length c')),(12,.v (.int .i64 ((s.length:Nat):Int))),(13,.v (.int .i64 (IntKind.i64.wrap (((k:Nat):Int) + 1))))] aa af fun bg aj=>?_
  refine qad (qaa ?_)
  have aB:IntKind.i64.wrap (((k:Nat):Int) + 1) = ((k + 1:Nat):Int):=qaV (by omega)
  rw [aB] at aj
  exact ⟨s.length - (k + 1),by omega,k + 1,rfl,by omega,qin hq (by omega) hlen ‹_›,aj.pk,aa,(am.trans ap)⟩
 have aO:=of_decide_eq_false ae
 refine wp_exit ?_
 refine qay ?_
 refine qay ?_
 refine qaM ?_
 refine qaa ?_
 refine qar [(4,.v (.bool true))] ab ac fun bh aC=>?_
 refine wp_ret ?_
 refine qaG aC ab.cells (v:=.bool true) kz ?_
 exact ⟨by first | rw [← qfJ hq (by omega) hlen] | rw [← qgI ‹_›] | rw [← qfI ‹_›],ab.step⟩
theorem sAt (ct:List Value) (t:Tree) (i:Nat) (w:World) (F:Nat → Nat → Prop) (ht:TreeR w F ct t) :
  Calls Tryz.prog 35 #[.agg ct.toArray,.int .i64 (i:Int)] w (qlf w F (t.at_ i)):=by
 obtain ⟨n1,s2,b3,l4,u5,A6,c7,A8,c9,aO,aP,aQ,rfl,rfl,aR,aJ,aS,bp⟩:=ht.open_
 have aK:=aR.small
 have aL:=aJ.small
 refine enter (n:=16) Tryz.func35 rfl Tryz.ntmps35 kz fun a hE=>?_
 have hW:=WOk.start w Nil
 refine qac [0,1] kz ?_
 refine qak (qbs hW hE (d:=2) (cs:=[.int .i64 n1,.slice A6 s2.length c7,.bool b3,.slice A8 l4.length c9,.slice aO u5.length aP]) kz fun bq bt bu aT aU aV az aA=>?_)
 refine qak (qaY az aA (d:=4) (cs:=[.int .i64 0,.slice none 0 0,.bool false,.slice none 0 0,.slice none 0 0]) kz fun bw bx bz aW aX aY aa aB=>?_)
 refine qad (qaa ?_)
 refine wp_seq ?_
 refine qar [(1,.v (.int .i64 ((i:Nat):Int))),(2,.p 0 0),(4,.p 1 0),(9,.v (.bool (decide (((i:Nat):Int) < ((l4.length:Nat):Int)))))] aa aB fun bA ae=>?_
 refine qau ae (b:=decide (((i:Nat):Int) < ((l4.length:Nat):Int))) kz (fun af=>?_) (fun af=>?_)
 ·
  have aZ:=of_decide_eq_true af
  refine qac [0,1,2,3,4,5] kz ?_
  refine qaj [0,1,2] [3,4,5] [(4,.p 1 0),(11,.v (.slice A8 l4.length c9)),(12,.v (.int .i64 ((i:Nat):Int)))] aa ae fun bB aC=>?_
  obtain ⟨ba,bd,aD,bf,ab⟩:=Slots.get aJ (i:=i) (by omega)
  obtain ⟨bg,ah⟩:∃ x,l4[i]? = some x:=⟨_,List.getElem?_eq_getElem (by omega)⟩
  have ag:=aS i bg ah
  obtain ⟨ak,al,am,ao,ap,ar,au,av,aw,ax,ay,bh,rfl,ac,bi,bj,bC,bD⟩:=ag.open_
  rw [ac] at ag
  have aM:=bi.small
  have aN:=bj.small
  rw [ac] at ab
  refine qak (qat aC (t:=23) (A:=A8) (m:=l4.length) (q:=((i:Nat):Int)) (d:=13) kz (e:=26) (size:=5) (bytes:=88) kz aD rfl (by omega) fun bE aE=>?_)
  refine qak (qaC aE (t:=26) (b:=ba) (o:=bd + i * 5) (d:=14) kz (cs:=[.int .i64 ak,.slice ar al.length au,.bool am,.slice av ao.length aw,.slice ax ap.length ay]) (v:=.agg #[.int .i64 ak,.slice ar al.length au,.bool am,.slice av ao.length aw,.slice ax ap.length ay]) kz (AtF.move ab aa.step nilM qa0).at_ fun bF aF=>?_)
  refine qak (qaH aa aF (oi:=1) (cs:=[.int .i64 ak,.slice ar al.length au,.bool am,.slice av ao.length aw,.slice ax ap.length ay]) kz fun bG bk ai aG=>?_)
  refine qad (qaa ?_)
  refine wp_ret ?_
  refine qax ?_
  refine qaG aG ai.cells (v:=.agg #[.int .i64 ak,.slice ar al.length au,.bool am,.slice av ao.length aw,.slice ax ap.length ay]) kz ?_
  exact ⟨_,rfl,by rw [qkE ah]; exact ag,ai.step⟩
 have bn:=of_decide_eq_false af
 refine wp_skip ?_
 refine qaa ?_
 refine qac [0,1] kz ?_
 refine qaj [0] [1] [(4,.p 1 0),(15,.v (.agg #[.int .i64 0,.slice none 0 0,.bool false,.slice none 0 0,.slice none 0 0]))] aa ae fun bH aH=>?_
 refine qak (qaH aa aH (oi:=1) (cs:=[.int .i64 0,.slice none 0 0,.bool false,.slice none 0 0,.slice none 0 0]) kz fun bI bo aj aI=>?_)
 refine qad (qaa ?_)
 refine wp_ret ?_
 refine qaG aI aj.cells (v:=.agg #[.int .i64 0,.slice none 0 0,.bool false,.slice none 0 0,.slice none 0 0]) kz ?_
 exact ⟨_,rfl,by rw [qkF (by omega)]; exact TreeR.zero _ _,aj.step⟩
theorem qfj (x:Int) (size:Nat) (hsz:size ≤ 8) (w:World) :
  Calls Tryz.prog 69 #[.int .i64 x,.int .i64 ((size:Nat):Int)] w (qdJ w 5 (be size x)):=by
 refine enter (n:=22) Tryz.func69 rfl Tryz.ntmps69 kz fun a hE=>?_
 have hW:=WOk.start w Nil
 refine qar [(0,.v (.int .i64 x)),(1,.v (.int .i64 ((size:Nat):Int)))] hW hE fun a1 hE2=>?_
 refine qar [(0,.v (.int .i64 x)),(1,.v (.int .i64 ((size:Nat):Int))),(5,.v (.slice none 0 0))] hW hE2 fun a3 hE4=>?_
 refine wp_seq ?_
 refine qar [(0,.v (.int .i64 x)),(5,.v (.slice none 0 0)),(6,.v (.int .i64 (IntKind.i64.wrap (((size:Nat):Int) - 1))))] hW hE4 fun a5 hE6=>?_
 refine wp_block ?_
 have hW7:=hW.addNil 5 1
 have hF8:=hW.frNil 5 1
 have aj:IntKind.i64.wrap (((size:Nat):Int) - 1) = ((size:Nat):Int) - 1 - ((0:Nat):Int):=by rw [wrap_i64 (by omega) (by omega)]; omega
 rw [aj] at hE6
 refine wp_loop_ghost (fun n_ a_ w_=>∃ (k:Nat) (A:Option Addr) (c:Nat),n_ = size - k ∧ k ≤ size ∧ LInv hW7 22 [] [brow A c 5 ((be size x).take k)] [(0,.v (.int .i64 x)),(5,.v (.slice A (((be size x).take k).length) c)),(6,.v (.int .i64 (((size:Nat):Int) - 1 - ((k:Nat):Int))))] a_ w_) (size) ⟨0,none,0,by omega,by omega,hE6.pk,hW7,Fr.refl _ _ _⟩ ?_
 rintro n9 aK aL ⟨k,A,c,aG,aH,ak,aa,al⟩
 refine wp_seq ?_
 refine qar [(0,.v (.int .i64 x)),(5,.v (.slice A (((be size x).take k).length) c)),(6,.v (.int .i64 (((size:Nat):Int) - 1 - ((k:Nat):Int)))),(10,.v (.bool (decide ((((size:Nat):Int) - 1 - ((k:Nat):Int)) ≥ 0))))] aa ak fun aM ae=>?_
 refine qau ae (b:=decide ((((size:Nat):Int) - 1 - ((k:Nat):Int)) ≥ 0)) kz (fun af=>?_) (fun af=>?_)
 ·
  have aI:=of_decide_eq_true af
  refine wp_skip ?_
  refine qaa ?_
  refine wp_seq ?_
  refine wp_block ?_
  refine qap [0,1,2,3,4,5,6,7,8] kz ?_
  refine qaj [0,1,2,3] [4,5,6,7,8] [(0,.v (.int .i64 x)),(6,.v (.int .i64 (((size:Nat):Int) - 1 - ((k:Nat):Int)))),(13,.v (.slice A (((be size x).take k).length) c)),(14,.v (.int .i64 x)),(16,.v (.int .i64 (IntKind.i64.wrap (8 * (((size:Nat):Int) - 1 - ((k:Nat):Int))))))] aa ae fun aN am=>?_
  refine qak (qjD am (k:=.i64) (p:=x) (q:=(IntKind.i64.wrap (8 * (((size:Nat):Int) - 1 - ((k:Nat):Int))))) (d:=17) (j:=8 * (size - 1 - k)) kz (by rw [wrap_i64 (by omega) (by omega)]; omega) (by simp only [IntKind.bits]; omega) fun aO ao=>?_)
  refine qaj [5] [6,7,8] [(0,.v (.int .i64 x)),(6,.v (.int .i64 (((size:Nat):Int) - 1 - ((k:Nat):Int)))),(13,.v (.slice A (((be size x).take k).length) c)),(18,.v (.int .u8 (IntKind.u8.wrap (x / 2 ^ (8 * (size - 1 - k))))))] aa ao fun aP ap=>?_
  refine qbA aa ap (k:=0) (e:=5) (size:=1) (len:=1) (cs:=[.int .u8 (IntKind.u8.wrap (x / 2 ^ (8 * (size - 1 - k))))]) (d1:=19) (d:=20) kz (t:=22) (bytes:=1) kz (fun _=>by kernel_rfl) rfl kz (by first | (have:=hroom; omega) | (simp; done) | (simp; omega)) fun ab ac aQ aR ar au ⟨_,av⟩=>?_
  have aw:(⟨ab,ac,5,1,((be size x).take k).length + 1,bc ((be size x).take k) ++ [.int .u8 (IntKind.u8.wrap (x / 2 ^ (8 * (size - 1 - k))))]⟩:Rw) = brow ab ac 5 ((be size x).take k ++ [by8 (x / 2 ^ (8 * (size - 1 - k)))]):=qa8 (by simp only [bc,List.map,qby]; try rfl) rfl
  obtain ⟨ag,ax⟩:=au.rowEq 0 [brow ab ac 5 ((be size x).take k ++ [by8 (x / 2 ^ (8 * (size - 1 - k)))])] aw
  have ay:=EnvOk.pick av (ks:=[0,6,13,18,20]) (env':=[(0,.v (.int .i64 x)),(6,.v (.int .i64 (((size:Nat):Int) - 1 - ((k:Nat):Int)))),(13,.v (.slice A (((be size x).take k).length) c)),(18,.v (.int .u8 (IntKind.u8.wrap (x / 2 ^ (8 * (size - 1 - k)))))),(20,.v (.slice ab (((be size x).take k).length + 1) ac))]) kz
  have az:=ay.cast (env':=[(0,.v (.int .i64 x)),(6,.v (.int .i64 (((size:Nat):Int) - 1 - ((k:Nat):Int)))),(13,.v (.slice A (((be size x).take k).length) c)),(18,.v (.int .u8 (IntKind.u8.wrap (x / 2 ^ (8 * (size - 1 - k)))))),(20,.v (.slice ab (((be size x).take k ++ [by8 (x / 2 ^ (8 * (size - 1 - k)))]).length) ac))]) (by simp only [List.length_append,List.length_cons,List.length_nil,Nat.zero_add])
  refine qaj [8] [] [(0,.v (.int .i64 x)),(5,.v (.slice ab (((be size x).take k ++ [by8 (x / 2 ^ (8 * (size - 1 - k)))]).length) ac)),(6,.v (.int .i64 (((size:Nat):Int) - 1 - ((k:Nat):Int))))] ag az fun aS aA=>?_
  refine qad ?_
  refine qaz ?_
  refine qaa ?_
  refine qap [0,1,2] kz ?_
  refine qaj [0,1,2] [] [(0,.v (.int .i64 x)),(5,.v (.slice ab (((be size x).take k ++ [by8 (x / 2 ^ (8 * (size - 1 - k)))]).length) ac)),(6,.v (.int .i64 (IntKind.i64.wrap ((((size:Nat):Int) - 1 - ((k:Nat):Int)) - 1))))] ag aA fun aT ah=>?_
  refine qad (qaa ?_)
  have ai:((be size x).take k ++ [by8 (x / 2 ^ (8 * (size - 1 - k)))]) = ((be size x).take (k + 1)):=(qgb (by omega)).symm
  have aB:=congrArg (brow ab ac 5) ai
  obtain ⟨aC,aD⟩:=ag.rowEq 0 [brow ab ac 5 ((be size x).take (k + 1))] aB
  rw [ai] at ah
  have aE:IntKind.i64.wrap ((((size:Nat):Int) - 1 - ((k:Nat):Int)) - 1) = ((size:Nat):Int) - 1 - (((k + 1):Nat):Int):=by rw [wrap_i64 (by omega) (by omega)]; omega
  rw [aE] at ah
  exact ⟨size - (k + 1),by omega,k + 1,ab,ac,rfl,by omega,ah.pk,aC,(((al.trans ar).trans ax).trans aD)⟩
 have aJ:=of_decide_eq_false af
 refine wp_exit ?_
 refine qay ?_
 refine qay ?_
 refine qaM ?_
 refine qaa ?_
 refine qar [(4,.v (.slice A (((be size x).take k).length) c))] aa ae fun aU aF=>?_
 refine wp_ret ?_
 refine qaG aF aa.cells (v:=.slice A (((be size x).take k).length) c) kz ?_
 exact qaW aa (k:=0) rfl (List.take_of_length_le (by simp; omega))
theorem qdE (x:Nat) (hx:x < 18446744073709551616) (w:World) :
  Calls Tryz.prog 38 #[.int .u64 ((x:Nat):Int)] w (qdJ w 5 (uv x)):=by
 refine enter (n:=20) Tryz.func38 rfl Tryz.ntmps38 kz fun a hE=>?_
 have hW:=WOk.start w Nil
 refine qar [(0,.v (.int .u64 ((x:Nat):Int)))] hW hE fun a1 hE2=>?_
 refine qar [(0,.v (.int .u64 ((x:Nat):Int))),(3,.v (.slice none 0 0))] hW hE2 fun a3 hE4=>?_
 refine wp_seq ?_
 refine wp_block ?_
 have hW5:=hW.addNil 5 1
 have hF6:=hW.frNil 5 1
 refine wp_loop_ghost (fun n_ a_ w_=>∃ (A:Option Addr) (c:Nat) (pre:Bs) (m:Nat),n_ = m ∧ (pre ++ uv m = uv x) ∧ (m < 18446744073709551616) ∧ LInv hW5 20 [] [brow A c 5 pre] [(0,.v (.int .u64 ((m:Nat):Int))),(3,.v (.slice A pre.length c))] a_ w_) (x) ⟨none,0,[],x,rfl,rfl,hx,hE4.pk,hW5,Fr.refl _ _ _⟩ ?_
 rintro n7 a8 w9 ⟨A,c,pre,m,aM,hp,hm,am,aa,ao⟩
 refine wp_seq ?_
 refine qar [(0,.v (.int .u64 ((m:Nat):Int))),(3,.v (.slice A pre.length c)),(5,.v (.bool (decide (((m:Nat):Int) > 127))))] aa am fun aR ae=>?_
 refine qau ae (b:=decide (((m:Nat):Int) > 127)) kz (fun af=>?_) (fun af=>?_)
 ·
  have aN:=of_decide_eq_true af
  refine wp_skip ?_
  refine qaa ?_
  refine wp_block ?_
  refine qac [0,1,2,3,4,5,6,7] kz ?_
  refine qaj [0,1,2,3,4] [5,6,7] [(0,.v (.int .u64 ((m:Nat):Int))),(6,.v (.slice A pre.length c)),(10,.v (.int .u8 (IntKind.u8.wrap (BitVec.ofInt 8 (IntKind.u8.wrap (IntKind.u64.wrap (BitVec.ofInt 64 ((m:Nat):Int) &&& BitVec.ofInt 64 127).toNat)) ||| BitVec.ofInt 8 128).toNat)))] aa ae fun aS ap=>?_
  refine qbA aa ap (k:=0) (e:=5) (size:=1) (len:=1) (cs:=[.int .u8 (IntKind.u8.wrap (BitVec.ofInt 8 (IntKind.u8.wrap (IntKind.u64.wrap (BitVec.ofInt 64 ((m:Nat):Int) &&& BitVec.ofInt 64 127).toNat)) ||| BitVec.ofInt 8 128).toNat)]) (d1:=11) (d:=12) kz (t:=22) (bytes:=1) kz (fun _=>by kernel_rfl) rfl kz (by have h1_:=qee x hx; rw [← hp,List.length_append] at h1_; omega) fun ab ac aT aU ar au ⟨_,av⟩=>?_
  have aw:(⟨ab,ac,5,1,pre.length + 1,bc pre ++ [.int .u8 (IntKind.u8.wrap (BitVec.ofInt 8 (IntKind.u8.wrap (IntKind.u64.wrap (BitVec.ofInt 64 ((m:Nat):Int) &&& BitVec.ofInt 64 127).toNat)) ||| BitVec.ofInt 8 128).toNat)]⟩:Rw) = brow ab ac 5 (pre ++ [by8 (BitVec.ofInt 8 (IntKind.u8.wrap (IntKind.u64.wrap (BitVec.ofInt 64 ((m:Nat):Int) &&& BitVec.ofInt 64 127).toNat)) ||| BitVec.ofInt 8 128).toNat]):=qa8 (by simp only [bc,List.map,qby]; try rfl) rfl
  obtain ⟨ag,ax⟩:=au.rowEq 0 [brow ab ac 5 (pre ++ [by8 (BitVec.ofInt 8 (IntKind.u8.wrap (IntKind.u64.wrap (BitVec.ofInt 64 ((m:Nat):Int) &&& BitVec.ofInt 64 127).toNat)) ||| BitVec.ofInt 8 128).toNat])] aw
  have ay:=EnvOk.pick av (ks:=[0,6,10,12]) (env':=[(0,.v (.int .u64 ((m:Nat):Int))),(6,.v (.slice A pre.length c)),(10,.v (.int .u8 (IntKind.u8.wrap (BitVec.ofInt 8 (IntKind.u8.wrap (IntKind.u64.wrap (BitVec.ofInt 64 ((m:Nat):Int) &&& BitVec.ofInt 64 127).toNat)) ||| BitVec.ofInt 8 128).toNat))),(12,.v (.slice ab (pre.length + 1) ac))]) kz
  have az:=ay.cast (env':=[(0,.v (.int .u64 ((m:Nat):Int))),(6,.v (.slice A pre.length c)),(10,.v (.int .u8 (IntKind.u8.wrap (BitVec.ofInt 8 (IntKind.u8.wrap (IntKind.u64.wrap (BitVec.ofInt 64 ((m:Nat):Int) &&& BitVec.ofInt 64 127).toNat)) ||| BitVec.ofInt 8 128).toNat))),(12,.v (.slice ab ((pre ++ [by8 (BitVec.ofInt 8 (IntKind.u8.wrap (IntKind.u64.wrap (BitVec.ofInt 64 ((m:Nat):Int) &&& BitVec.ofInt 64 127).toNat)) ||| BitVec.ofInt 8 128).toNat]).length) ac))]) (by simp only [List.length_append,List.length_cons,List.length_nil,Nat.zero_add])
  refine qaj [7] [] [(0,.v (.int .u64 ((m:Nat):Int))),(3,.v (.slice ab ((pre ++ [by8 (BitVec.ofInt 8 (IntKind.u8.wrap (IntKind.u64.wrap (BitVec.ofInt 64 ((m:Nat):Int) &&& BitVec.ofInt 64 127).toNat)) ||| BitVec.ofInt 8 128).toNat]).length) ac))] ag az fun aV aA=>?_
  refine qad (qaa ?_)
  refine qap [0,1,2] kz ?_
  refine qaj [0,1,2] [] [(0,.v (.int .u64 (Int.fdiv ((m:Nat):Int) 128))),(3,.v (.slice ab ((pre ++ [by8 (BitVec.ofInt 8 (IntKind.u8.wrap (IntKind.u64.wrap (BitVec.ofInt 64 ((m:Nat):Int) &&& BitVec.ofInt 64 127).toNat)) ||| BitVec.ofInt 8 128).toNat]).length) ac))] ag aA fun aW ah=>?_
  refine qad ?_
  refine qaz ?_
  refine qaa ?_
  have al:(pre ++ [by8 (BitVec.ofInt 8 (IntKind.u8.wrap (IntKind.u64.wrap (BitVec.ofInt 64 ((m:Nat):Int) &&& BitVec.ofInt 64 127).toNat)) ||| BitVec.ofInt 8 128).toNat]) = (pre ++ [UInt8.ofNat (m % 128 + 128)]):=by rw [qjM m (by omega)]
  have aB:=congrArg (brow ab ac 5) al
  obtain ⟨aC,aD⟩:=ag.rowEq 0 [brow ab ac 5 (pre ++ [UInt8.ofNat (m % 128 + 128)])] aB
  rw [al] at ah
  have aE:Int.fdiv ((m:Nat):Int) 128 = ((m / 128:Nat):Int):=qkJ m
  rw [aE] at ah
  exact ⟨m / 128,by omega,ab,ac,pre ++ [UInt8.ofNat (m % 128 + 128)],m / 128,rfl,by rw [← hp,qdf (show 128 ≤ m by omega)]; simp,by omega,ah.pk,aC,(((ao.trans ar).trans ax).trans aD)⟩
 have aO:=of_decide_eq_false af
 refine wp_exit ?_
 refine qay ?_
 refine qay ?_
 refine qaM ?_
 refine qaa ?_
 refine qac [0,1,2,3,4,5] kz ?_
 refine qaj [0,1,2] [3,4,5] [(15,.v (.slice A pre.length c)),(17,.v (.int .u8 (IntKind.u8.wrap ((m:Nat):Int))))] aa ae fun aX aF=>?_
 refine qbA aa aF (k:=0) (e:=5) (size:=1) (len:=1) (cs:=[.int .u8 (IntKind.u8.wrap ((m:Nat):Int))]) (d1:=18) (d:=19) kz (t:=22) (bytes:=1) kz (fun _=>by kernel_rfl) rfl kz (by have h1_:=qee x hx; rw [← hp,List.length_append] at h1_; omega) fun ai aj aY aZ aP aG ⟨_,aH⟩=>?_
 have aI:(⟨ai,aj,5,1,pre.length + 1,bc pre ++ [.int .u8 (IntKind.u8.wrap ((m:Nat):Int))]⟩:Rw) = brow ai aj 5 (pre ++ [by8 ((m:Nat):Int)]):=qa8 (by simp only [bc,List.map,qby]; try rfl) rfl
 obtain ⟨ak,aQ⟩:=aG.rowEq 0 [brow ai aj 5 (pre ++ [by8 ((m:Nat):Int)])] aI
 have aJ:=EnvOk.pick aH (ks:=[15,17,19]) (env':=[(15,.v (.slice A pre.length c)),(17,.v (.int .u8 (IntKind.u8.wrap ((m:Nat):Int)))),(19,.v (.slice ai (pre.length + 1) aj))]) kz
 have aK:=aJ.cast (env':=[(15,.v (.slice A pre.length c)),(17,.v (.int .u8 (IntKind.u8.wrap ((m:Nat):Int)))),(19,.v (.slice ai ((pre ++ [by8 ((m:Nat):Int)]).length) aj))]) (by simp only [List.length_append,List.length_cons,List.length_nil,Nat.zero_add])
 refine qaj [5] [] [(2,.v (.slice ai ((pre ++ [by8 ((m:Nat):Int)]).length) aj))] ak aK fun ba aL=>?_
 refine qad (qaa ?_)
 refine wp_ret ?_
 refine qaG aL ak.cells (v:=.slice ai ((pre ++ [by8 ((m:Nat):Int)]).length) aj) kz ?_
 exact qaW ak (k:=0) rfl (by rw [← hp,qbJ (show m < 128 by omega),qfM])
theorem qdF (flex null:Bool) (m sz:Nat) (hm:m ≤ 1099511627776) (hsz:sz ≤ 8) (w:World) :
  Calls Tryz.prog 67 #[.bool flex,.bool null,.int .i64 ((m:Nat):Int),.int .i64 ((sz:Nat):Int)] w (qdJ w 5 (qam flex null m sz)):=by
 refine enter (n:=28) Tryz.func67 rfl Tryz.ntmps67 kz fun a hE=>?_
 have hW:=WOk.start w Nil
 refine qar [(0,.v (.bool flex)),(1,.v (.bool null)),(2,.v (.int .i64 ((m:Nat):Int))),(3,.v (.int .i64 ((sz:Nat):Int)))] hW hE fun a1 hE2=>?_
 refine wp_seq ?_
 refine wp_block ?_
 refine qac [0,1,2,3,4] kz ?_
 refine qaj [0,1] [2,3,4] [(0,.v (.bool flex)),(1,.v (.bool null)),(2,.v (.int .i64 ((m:Nat):Int))),(3,.v (.int .i64 ((sz:Nat):Int))),(11,.v (.bool flex))] hW hE2 fun a3 hE4=>?_
 refine (Bool.eq_false_or_eq_true (flex)).elim (fun hc5=>?_) (fun hc5=>?_)
 ·
  have hE7:=hE4.cast (env':=[(0,.v (.bool true)),(1,.v (.bool null)),(2,.v (.int .i64 ((m:Nat):Int))),(3,.v (.int .i64 ((sz:Nat):Int))),(11,.v (.bool true))]) (by rw [hc5])
  refine qaj [2,3,4] [] [(0,.v (.bool true)),(1,.v (.bool null)),(2,.v (.int .i64 ((m:Nat):Int))),(3,.v (.int .i64 ((sz:Nat):Int))),(9,.v (.bool null))] hW hE7 fun a8 hE9=>?_
  refine qad (qaa ?_)
  refine qau hE9 (b:=null) kz (fun aa=>?_) (fun aa=>?_)
  ·
   refine qac [0,1] kz ?_
   refine qak (qd7 hW hE9 (e:=5) (size:=1) (len:=1) (cs:=[.int .u8 0]) (d:=14) kz kz fun ab bf bg aV aW aX am ao=>?_)
   have ap:(⟨some ⟨ab,0,none⟩,1,5,1,1,[.int .u8 0]⟩:Rw) = brow (some ⟨ab,0,none⟩) 1 5 [by8 0]:=by first | rfl | (simp only [brow,bc,List.map,qby]; try rfl)
   obtain ⟨ac,aY⟩:=am.rowEq 0 [brow (some ⟨ab,0,none⟩) 1 5 [by8 0]] ap
   have ar:=EnvOk.pick ao (ks:=[0,1,2,3,9,14]) (env':=[(0,.v (.bool true)),(1,.v (.bool null)),(2,.v (.int .i64 ((m:Nat):Int))),(3,.v (.int .i64 ((sz:Nat):Int))),(9,.v (.bool null)),(14,.v (.slice (some ⟨ab,0,none⟩) 1 1))]) kz
   have au:=ar.cast (env':=[(0,.v (.bool true)),(1,.v (.bool null)),(2,.v (.int .i64 ((m:Nat):Int))),(3,.v (.int .i64 ((sz:Nat):Int))),(9,.v (.bool null)),(14,.v (.slice (some ⟨ab,0,none⟩) ([by8 0].length) 1))]) rfl
   refine qaj [1] [] [(8,.v (.slice (some ⟨ab,0,none⟩) ([by8 0].length) 1))] ac au fun bh av=>?_
   refine qad (qaa ?_)
   refine wp_ret ?_
   refine qaL ?_
   refine qax ?_
   refine qaG av ac.cells (v:=.slice (some ⟨ab,0,none⟩) ([by8 0].length) 1) kz ?_
   exact qaW ac (k:=0) rfl (by simp [qam,hc5,aa]; try rfl)
  refine qar [(1,.v (.bool null)),(2,.v (.int .i64 ((m:Nat):Int))),(3,.v (.int .i64 ((sz:Nat):Int))),(15,.v (.bool true))] hW hE9 fun bi aj=>?_
  refine qbz aj (b:=true) kz rfl ?_
  refine qac [0,1,2,3,4] kz ?_
  refine qaj [0,1,2] [3,4] [(19,.v (.int .u64 (IntKind.u64.wrap ((IntKind.u64.wrap ((m:Nat):Int)) + 1))))] hW aj fun bj aw=>?_
  have ax:IntKind.u64.wrap ((IntKind.u64.wrap ((m:Nat):Int)) + 1) = ((m + 1:Nat):Int):=by simp only [qcF,qan,qbv,IntKind.wrap_i64,IntKind.wrap_i32]; omega
  have ay:=EnvOk.pick aw (ks:=[19]) (env':=[(19,.v (.int .u64 (IntKind.u64.wrap ((IntKind.u64.wrap ((m:Nat):Int)) + 1))))]) kz
  have az:=ay.cast (env':=[(19,.v (.int .u64 ((m + 1:Nat):Int)))]) (by rw [ax])
  refine qak (qal az (f:=38) (vs:=[.int .u64 ((m + 1:Nat):Int)]) (d:=20) kz Tryz.call38 (qdE (m + 1) (by omega) _) ?_)
  rintro e_ bk ⟨aA,aB,rfl,aC,aD⟩
  refine ⟨_,rfl,fun bn aE=>?_⟩
  obtain ⟨ae,aZ⟩:=hW.frFresh aD (brow aA aB 5 (uv (m + 1))) (Nat.le_refl _) aC
  refine qaj [4] [] [(8,.v (.slice aA ((uv (m + 1)).length) aB))] ae aE fun bo aF=>?_
  refine qad (qaa ?_)
  refine wp_ret ?_
  refine qaL ?_
  refine qax ?_
  refine qaG aF ae.cells (v:=.slice aA ((uv (m + 1)).length) aB) kz ?_
  exact qaW ae (k:=0) rfl (by simp [qam,hc5,aa]; try rfl)
 have aG:=hE4.cast (env':=[(0,.v (.bool false)),(1,.v (.bool null)),(2,.v (.int .i64 ((m:Nat):Int))),(3,.v (.int .i64 ((sz:Nat):Int))),(11,.v (.bool false))]) (by rw [hc5])
 refine qaj [2,3,4] [] [(0,.v (.bool false)),(1,.v (.bool null)),(2,.v (.int .i64 ((m:Nat):Int))),(3,.v (.int .i64 ((sz:Nat):Int))),(9,.v (.bool false))] hW aG fun bp ak=>?_
 refine qad (qaa ?_)
 refine qaq ak (b:=false) kz rfl ?_
 refine qar [(1,.v (.bool null)),(2,.v (.int .i64 ((m:Nat):Int))),(3,.v (.int .i64 ((sz:Nat):Int))),(15,.v (.bool false))] hW ak fun bq al=>?_
 refine qaq al (b:=false) kz rfl ?_
 refine qar [(2,.v (.int .i64 ((m:Nat):Int))),(3,.v (.int .i64 ((sz:Nat):Int))),(21,.v (.bool null))] hW al fun bt af=>?_
 refine qau af (b:=null) kz (fun ag=>?_) (fun ag=>?_)
 ·
  refine qac [0,1,2] kz ?_
  refine qaj [0] [1,2] [(23,.v (.int .i64 ((sz:Nat):Int)))] hW af fun bu aH=>?_
  refine qak (qal aH (f:=69) (vs:=[.int .i64 (-1),.int .i64 ((sz:Nat):Int)]) (d:=24) kz Tryz.call69 (qfj (-1) sz (by first | decide | exact qbB _ | omega) _) ?_)
  rintro e_ bw ⟨aI,aJ,rfl,aK,aL⟩
  refine ⟨_,rfl,fun bx aM=>?_⟩
  obtain ⟨ah,ba⟩:=hW.frFresh aL (brow aI aJ 5 (be sz (-1))) (Nat.le_refl _) aK
  refine qaj [2] [] [(8,.v (.slice aI ((be sz (-1)).length) aJ))] ah aM fun bz aN=>?_
  refine qad (qaa ?_)
  refine wp_ret ?_
  refine qaL ?_
  refine qax ?_
  refine qaG aN ah.cells (v:=.slice aI ((be sz (-1)).length) aJ) kz ?_
  exact qaW ah (k:=0) rfl (by simp [qam,hc5,ag]; try rfl)
 refine wp_skip ?_
 refine qaz ?_
 refine qaa ?_
 refine qac [0,1,2,3] kz ?_
 refine qaj [0,1] [2,3] [(25,.v (.int .i64 ((m:Nat):Int))),(26,.v (.int .i64 ((sz:Nat):Int)))] hW af fun bA aO=>?_
 refine qak (qal aO (f:=69) (vs:=[.int .i64 ((m:Nat):Int),.int .i64 ((sz:Nat):Int)]) (d:=27) kz Tryz.call69 (qfj ((m:Nat):Int) sz (by first | decide | exact qbB _ | omega) _) ?_)
 rintro e_ bB ⟨aP,aQ,rfl,aR,aS⟩
 refine ⟨_,rfl,fun bC aT=>?_⟩
 obtain ⟨ai,bd⟩:=hW.frFresh aS (brow aP aQ 5 (be sz ((m:Nat):Int))) (Nat.le_refl _) aR
 refine qaj [3] [] [(8,.v (.slice aP ((be sz ((m:Nat):Int)).length) aQ))] ai aT fun bD aU=>?_
 refine qad (qaa ?_)
 refine wp_ret ?_
 refine qaG aU ai.cells (v:=.slice aP ((be sz ((m:Nat):Int)).length) aQ) kz ?_
 exact qaW ai (k:=0) rfl (by simp [qam,hc5,ag]; try rfl)
theorem qkv (A:Option Addr) (c:Nat) (l:List Fld) (w:World) (F:Nat → Nat → Prop) (hl:FldsR w F A c l) :
  Calls Tryz.prog 36 #[.slice A l.length c] w (qcp w (.int .u32 (qao l))):=by
 obtain ⟨xfs,h1,h2⟩:=hl.ex
 have hsm:=h1.small
 refine enter (n:=23) Tryz.func36 rfl Tryz.ntmps36 kz fun a hE=>?_
 have hW:=WOk.start w Nil
 refine qar [(0,.v (.slice A l.length c))] hW hE fun a1 hE2=>?_
 refine qar [(0,.v (.slice A l.length c)),(3,.v (.int .u32 0))] hW hE2 fun a3 hE4=>?_
 refine wp_seq ?_
 refine qar [(3,.v (.int .u32 0)),(6,.v (.slice A l.length c)),(7,.v (.int .i64 ((l.length:Nat):Int))),(8,.v (.int .i64 0))] hW hE4 fun a5 hE6=>?_
 refine wp_block ?_
 refine wp_loop_ghost (fun n_ a_ w_=>∃ (k:Nat),n_ = l.length - k ∧ k ≤ l.length ∧ LInv hW 23 [] [] [(3,.v (.int .u32 (qao (l.take k)))),(6,.v (.slice A l.length c)),(7,.v (.int .i64 ((l.length:Nat):Int))),(8,.v (.int .i64 ((k:Nat):Int)))] a_ w_) (l.length) ⟨0,by omega,by omega,hE6.pk,hW,Fr.refl _ _ _⟩ ?_
 rintro n7 a8 w9 ⟨k,ba,bd,av,aa,ao⟩
 refine qar [(3,.v (.int .u32 (qao (l.take k)))),(6,.v (.slice A l.length c)),(7,.v (.int .i64 ((l.length:Nat):Int))),(8,.v (.int .i64 ((k:Nat):Int))),(9,.v (.bool (decide (((k:Nat):Int) < ((l.length:Nat):Int)))))] aa av fun bt ag=>?_
 refine wp_seq ?_
 refine qau ag (b:=decide (((k:Nat):Int) < ((l.length:Nat):Int))) kz (fun ah=>?_) (fun ah=>?_)
 ·
  have bf:=of_decide_eq_true ah
  refine wp_skip ?_
  refine qaa ?_
  refine wp_seq ?_
  refine wp_block ?_
  refine qac [0,1,2,3] kz ?_
  obtain ⟨bg,bh,aw,bi,ae⟩:=Slots.get h1 (i:=k) (by omega)
  obtain ⟨bj,ai⟩:∃ x,l[k]? = some x:=⟨_,List.getElem?_eq_getElem (by omega)⟩
  have ap:=h2 k bj ai
  obtain ⟨ax,ay,az,aA,ab,aB,aC,aD,aE,aF,bk,rfl,af,bn,bu⟩:=ap.open_
  rw [af] at ap
  have aZ:=bn.small
  rw [af] at ae
  refine qak (qat ag (t:=29) (A:=A) (m:=l.length) (q:=((k:Nat):Int)) (d:=10) kz (e:=46) (size:=8) (bytes:=80) kz aw rfl (by omega) fun bw aG=>?_)
  refine qak (qaC aG (t:=46) (b:=bg) (o:=bh + k * 8) (d:=11) kz (cs:=[.int .i64 ax,.int .i64 ay,.int .i64 az,.int .i64 aA,.int .i64 ab,.int .i64 aB,.int .i64 aC,.slice aE aD.length aF]) (v:=.agg #[.int .i64 ax,.int .i64 ay,.int .i64 az,.int .i64 aA,.int .i64 ab,.int .i64 aB,.int .i64 aC,.slice aE aD.length aF]) kz (AtF.move ae aa.step nilM qa0).at_ fun bx aH=>?_)
  refine qak (qaY aa aH (d:=5) (cs:=[.int .i64 0,.int .i64 0,.int .i64 0,.int .i64 0,.int .i64 0,.int .i64 0,.int .i64 0,.slice none 0 0]) kz fun bz bA bB bo bp ar aI aJ=>?_)
  refine qak (qaH aI aJ (oi:=0) (cs:=[.int .i64 ax,.int .i64 ay,.int .i64 az,.int .i64 aA,.int .i64 ab,.int .i64 aB,.int .i64 aC,.slice aE aD.length aF]) kz fun bC au ac aK=>?_)
  refine qad (qaa ?_)
  refine qar [(3,.v (.int .u32 (qao (l.take k)))),(5,.p 0 0),(6,.v (.slice A l.length c)),(7,.v (.int .i64 ((l.length:Nat):Int))),(8,.v (.int .i64 ((k:Nat):Int))),(14,.v (.bool (decide (ab ≥ 0))))] ac aK fun bD aj=>?_
  refine qau aj (b:=decide (ab ≥ 0)) kz (fun ak=>?_) (fun ak=>?_)
  ·
   have aL:=of_decide_eq_true ak
   refine qap [0,1,2,3,4,5,6] kz ?_
   refine qaj [0,1,2,3,4,5,6] [] [(3,.v (.int .u32 (if IntKind.u32.wrap ((IntKind.u32.wrap ab) + 1) > qao (l.take k) then IntKind.u32.wrap ((IntKind.u32.wrap ab) + 1) else qao (l.take k)))),(6,.v (.slice A l.length c)),(7,.v (.int .i64 ((l.length:Nat):Int))),(8,.v (.int .i64 ((k:Nat):Int)))] ac aj fun bE aM=>?_
   refine qad ?_
   refine qaz ?_
   refine qaa ?_
   refine qap [0,1] kz ?_
   refine qaj [0,1] [] [(3,.v (.int .u32 (if IntKind.u32.wrap ((IntKind.u32.wrap ab) + 1) > qao (l.take k) then IntKind.u32.wrap ((IntKind.u32.wrap ab) + 1) else qao (l.take k)))),(6,.v (.slice A l.length c)),(7,.v (.int .i64 ((l.length:Nat):Int))),(8,.v (.int .i64 (IntKind.i64.wrap (((k:Nat):Int) + 1))))] ac aM fun bF aN=>?_
   refine qad (qaa ?_)
   obtain ⟨al,aO,aP⟩:=ac.cutB aN 0 [] [(3,.v (.int .u32 (if IntKind.u32.wrap ((IntKind.u32.wrap ab) + 1) > qao (l.take k) then IntKind.u32.wrap ((IntKind.u32.wrap ab) + 1) else qao (l.take k)))),(6,.v (.slice A l.length c)),(7,.v (.int .i64 ((l.length:Nat):Int))),(8,.v (.int .i64 (IntKind.i64.wrap (((k:Nat):Int) + 1))))]
   have aQ:IntKind.i64.wrap (((k:Nat):Int) + 1) = ((k + 1:Nat):Int):=qaV (by omega)
   rw [aQ] at al
   have aR:(if IntKind.u32.wrap ((IntKind.u32.wrap ab) + 1) > qao (l.take k) then IntKind.u32.wrap ((IntKind.u32.wrap ab) + 1) else qao (l.take k)) = qao (l.take (k + 1)):=qiv ai aL
   rw [aR] at al
   exact ⟨l.length - (k + 1),by omega,k + 1,rfl,by omega,al.pk,aO,(((ao.trans ar).trans au).trans aP)⟩
  have aS:=of_decide_eq_false ak
  refine wp_skip ?_
  refine qaz ?_
  refine qaa ?_
  refine qap [0,1] kz ?_
  refine qaj [0,1] [] [(3,.v (.int .u32 (qao (l.take k)))),(6,.v (.slice A l.length c)),(7,.v (.int .i64 ((l.length:Nat):Int))),(8,.v (.int .i64 (IntKind.i64.wrap (((k:Nat):Int) + 1))))] ac aj fun bG aT=>?_
  refine qad (qaa ?_)
  obtain ⟨am,aU,aV⟩:=ac.cutB aT 0 [] [(3,.v (.int .u32 (qao (l.take k)))),(6,.v (.slice A l.length c)),(7,.v (.int .i64 ((l.length:Nat):Int))),(8,.v (.int .i64 (IntKind.i64.wrap (((k:Nat):Int) + 1))))]
  have aW:IntKind.i64.wrap (((k:Nat):Int) + 1) = ((k + 1:Nat):Int):=qaV (by omega)
  rw [aW] at am
  have aX:qao (l.take k) = qao (l.take (k + 1)):=qiw ai aS
  rw [aX] at am
  exact ⟨l.length - (k + 1),by omega,k + 1,rfl,by omega,am.pk,aU,(((ao.trans ar).trans au).trans aV)⟩
 have bq:=of_decide_eq_false ah
 refine wp_exit ?_
 refine qay ?_
 refine qay ?_
 refine qaM ?_
 refine qaa ?_
 refine qar [(2,.v (.int .u32 (qao (l.take k))))] aa ag fun bH aY=>?_
 refine wp_ret ?_
 refine qaG aY aa.cells (v:=.int .u32 (qao (l.take k))) kz ?_
 exact ⟨by rw [List.take_of_length_le (by omega)],aa.step⟩
def qjj (d:Nat):Prop:=∀ (A:Option Addr) (c:Nat) (l:List Fld) (v:Int) (flex:Bool) (ct:List Value) (t:Tree) (w:World) (F:Nat → Nat → Prop),FldsR w F A c l → depths l ≤ d → TreeR w F ct t → (qaK d l v flex t).length ≤ 1099511627776 →
  Calls Tryz.prog 20 #[.slice A l.length c,.int .i64 v,.bool flex,.agg ct.toArray] w (qdJ w 5 (qaK d l v flex t))
theorem qjk {d:Nat} (hp:qjj d) (kind:Int) (A:Option Addr) (c:Nat) (l:List Fld) (null:Bool) (v:Int) (flex:Bool) (ct:List Value) (t:Tree) (w:World) (F:Nat → Nat → Prop) (hl:FldsR w F A c l) (hd:depths l ≤ d) (ht:TreeR w F ct t) (hroom:(qaE (qaK d l v flex) kind null flex t).length ≤ 1099511627776) :
  Calls Tryz.prog 68 #[.int .i64 kind,.slice A l.length c,.bool null,.int .i64 v,.bool flex,.agg ct.toArray] w (qdJ w 5 (qaE (qaK d l v flex) kind null flex t)):=by
 obtain ⟨n1,s2,b3,l4,u5,A6,c7,A8,c9,dg,dh,d9,rfl,rfl,aX,ea,fx,fy⟩:=ht.open_
 have dM:=aX.small
 have dN:=ea.small
 have hl0:=hl
 obtain ⟨xfs,h1,h2⟩:=hl.ex
 have hsm:=h1.small
 refine enter (n:=70) Tryz.func68 rfl Tryz.ntmps68 kz fun a hE=>?_
 have hW:=WOk.start w Nil
 refine qac [0,1] kz ?_
 refine qak (qbs hW hE (d:=11) (cs:=[.int .i64 n1,.slice A6 s2.length c7,.bool b3,.slice A8 l4.length c9,.slice dg u5.length dh]) kz fun fz fA fB eb ec ee aa di=>?_)
 refine qaj [1] [] [(0,.v (.int .i64 kind)),(1,.v (.slice A l.length c)),(2,.v (.bool null)),(3,.v (.int .i64 v)),(4,.v (.bool flex)),(11,.p 0 0)] aa di fun fC dj=>?_
 refine qad (qaa ?_)
 refine wp_seq ?_
 refine qar [(0,.v (.int .i64 kind)),(1,.v (.slice A l.length c)),(2,.v (.bool null)),(3,.v (.int .i64 v)),(4,.v (.bool flex)),(11,.p 0 0),(16,.v (.int .i64 kind))] aa dj fun fD dl=>?_
 refine wp_block ?_
 refine qar [(0,.v (.int .i64 kind)),(1,.v (.slice A l.length c)),(2,.v (.bool null)),(3,.v (.int .i64 v)),(4,.v (.bool flex)),(11,.p 0 0),(16,.v (.int .i64 kind)),(17,.v (.bool (kind == 0)))] aa dl fun fE bk=>?_
 refine qau bk (b:=kind == 0) kz (fun ac=>?_) (fun ac=>?_)
 ·
  have dp:kind = 0:=by simpa using ac
  refine qac [0,1,2,3,4,5] kz ?_
  refine qaj [0,1,2,3] [4,5] [(22,.v (.int .u8 (IntKind.u8.wrap (IntKind.i64.wrap (BitVec.ofInt 64 n1 &&& BitVec.ofInt 64 1).toNat))))] aa bk fun fF dq=>?_
  refine qak (qd7 aa dq (e:=5) (size:=1) (len:=1) (cs:=[.int .u8 (IntKind.u8.wrap (IntKind.i64.wrap (BitVec.ofInt 64 n1 &&& BitVec.ofInt 64 1).toNat))]) (d:=23) kz kz fun bn fG fH ef eg eh dr dt=>?_)
  have du:(⟨some ⟨bn,0,none⟩,1,5,1,1,[.int .u8 (IntKind.u8.wrap (IntKind.i64.wrap (BitVec.ofInt 64 n1 &&& BitVec.ofInt 64 1).toNat))]⟩:Rw) = brow (some ⟨bn,0,none⟩) 1 5 [by8 (IntKind.i64.wrap (BitVec.ofInt 64 n1 &&& BitVec.ofInt 64 1).toNat)]:=by first | rfl | (simp only [brow,bc,List.map,qby]; try rfl)
  obtain ⟨bo,ei⟩:=dr.rowEq 0 [brow (some ⟨bn,0,none⟩) 1 5 [by8 (IntKind.i64.wrap (BitVec.ofInt 64 n1 &&& BitVec.ofInt 64 1).toNat)]] du
  have dv:=EnvOk.pick dt (ks:=[22,23]) (env':=[(22,.v (.int .u8 (IntKind.u8.wrap (IntKind.i64.wrap (BitVec.ofInt 64 n1 &&& BitVec.ofInt 64 1).toNat)))),(23,.v (.slice (some ⟨bn,0,none⟩) 1 1))]) kz
  have dw:=dv.cast (env':=[(22,.v (.int .u8 (IntKind.u8.wrap (IntKind.i64.wrap (BitVec.ofInt 64 n1 &&& BitVec.ofInt 64 1).toNat)))),(23,.v (.slice (some ⟨bn,0,none⟩) ([by8 (IntKind.i64.wrap (BitVec.ofInt 64 n1 &&& BitVec.ofInt 64 1).toNat)].length) 1))]) rfl
  refine qaj [5] [] [(12,.v (.slice (some ⟨bn,0,none⟩) ([by8 (IntKind.i64.wrap (BitVec.ofInt 64 n1 &&& BitVec.ofInt 64 1).toNat)].length) 1))] bo dw fun fI dx=>?_
  refine qad (qaa ?_)
  refine wp_ret ?_
  refine qaL ?_
  refine qax ?_
  refine qaG dx bo.cells (v:=.slice (some ⟨bn,0,none⟩) ([by8 (IntKind.i64.wrap (BitVec.ofInt 64 n1 &&& BitVec.ofInt 64 1).toNat)].length) 1) kz ?_
  exact qaW bo (k:=0) rfl (by (try simp only [and1]); simp [qaE,Tree.S,Tree.N,dp,ac])
 have ak:kind ≠ 0:=by simpa using ac
 refine qar [(0,.v (.int .i64 kind)),(1,.v (.slice A l.length c)),(2,.v (.bool null)),(3,.v (.int .i64 v)),(4,.v (.bool flex)),(11,.p 0 0),(16,.v (.int .i64 kind)),(24,.v (.bool (kind == 7)))] aa bk fun fJ bp=>?_
 refine qau bp (b:=kind == 7) kz (fun ae=>?_) (fun ae=>?_)
 ·
  have dy:kind = 7:=by simpa using ae
  refine qac [0,1] kz ?_
  refine qak (qhR aa bp (d:=26) (j:=16) (t:=22) (e:=5) (bytes:=1) (z:=.int .u8 0) kz kz kz kz (rfl) (rfl) (by omega) fun aB fK fL ej ek em aC dA=>?_)
  refine qaj [1] [] [(11,.p 0 0),(13,.v (.slice (some ⟨aB,0,none⟩) 16 16))] aC dA fun fM dB=>?_
  refine qad (qaa ?_)
  refine qac [0,1,2,3] kz ?_
  refine qaj [0,1,2] [3] [(13,.v (.slice (some ⟨aB,0,none⟩) 16 16)),(27,.v (.slice (some ⟨aB,0,none⟩) 16 16)),(29,.v (.slice A6 s2.length c7))] aC dB fun fN dC=>?_
  refine qak (qhQ aC dC (k:=0) (d:=30) (t:=22) (u:=22) (e:=5) (bytes:=1) (A:=(some ⟨aB,0,none⟩)) (As:=A6) (m:=s2.length) (cs:=c7) (m0:=16) (c:=16) (xs:=(List.replicate 16 (.int .u8 0))) (news:=bc s2) kz kz rfl (aX.move aC.step nilM aC.imm).src fun fO fP eo dD dE=>?_)
  have dF:(⟨(some ⟨aB,0,none⟩),16,5,1,16,qbi (List.replicate 16 (.int .u8 0)) 0 ((bc s2).take (min s2.length 16))⟩:Rw) = brow (some ⟨aB,0,none⟩) 16 5 (qea s2):=qjO _ _ _
  obtain ⟨bq,ep⟩:=dD.rowEq 0 [brow (some ⟨aB,0,none⟩) 16 5 (qea s2)] dF
  have dG:=EnvOk.pick dE (ks:=[13,27,29,30]) (env':=[(13,.v (.slice (some ⟨aB,0,none⟩) 16 16)),(27,.v (.slice (some ⟨aB,0,none⟩) 16 16)),(29,.v (.slice A6 s2.length c7)),(30,.v (.int .i64 ((min s2.length 16:Nat):Int)))]) kz
  have dH:=dG.cast (env':=[(13,.v (.slice (some ⟨aB,0,none⟩) ((qea s2).length) 16)),(27,.v (.slice (some ⟨aB,0,none⟩) ((qea s2).length) 16)),(29,.v (.slice A6 s2.length c7)),(30,.v (.int .i64 ((min s2.length 16:Nat):Int)))]) (by rw [qbH _])
  refine qad (qaa ?_)
  refine qar [(12,.v (.slice (some ⟨aB,0,none⟩) ((qea s2).length) 16))] bq dH fun fQ dI=>?_
  refine wp_ret ?_
  refine qaL ?_
  refine qax ?_
  refine qaG dI bq.cells (v:=.slice (some ⟨aB,0,none⟩) ((qea s2).length) 16) kz ?_
  exact qaW bq (k:=0) rfl (by (try simp only [and1]); simp [qaE,Tree.S,Tree.N,ak,dy,ac,ae])
 have am:kind ≠ 7:=by simpa using ae
 refine qar [(0,.v (.int .i64 kind)),(1,.v (.slice A l.length c)),(2,.v (.bool null)),(3,.v (.int .i64 v)),(4,.v (.bool flex)),(11,.p 0 0),(16,.v (.int .i64 kind)),(32,.v (.bool (kind == 8)))] aa bp fun fR bt=>?_
 refine qau bt (b:=kind == 8) kz (fun ag=>?_) (fun ag=>?_)
 ·
  have bA:kind = 8:=by simpa using ag
  refine qac [0,1,2,3] kz ?_
  refine qaj [0,1] [2,3] [(2,.v (.bool null)),(4,.v (.bool flex)),(35,.v (.slice A6 s2.length c7))] aa bt fun fS dJ=>?_
  have dO:=qa5 s2
  refine qak (qal dJ (f:=40) (vs:=[.slice A6 s2.length c7]) (d:=36) kz Tryz.call40 (qji _ _ s2 (aX.move aa.step nilM aa.imm).le _) ?_)
  rintro e_ fT ⟨rfl,bB⟩
  refine ⟨_,rfl,fun fU dK=>?_⟩
  have ao:=aa.next_nil bB
  have eu:=aa.frN bB
  refine qaj [3] [] [(2,.v (.bool null)),(4,.v (.bool flex)),(14,.v (.slice A6 ((qaw s2).length) c7))] ao dK fun fV bC=>?_
  refine qad (qaa ?_)
  refine wp_seq ?_
  refine qar [(2,.v (.bool null)),(4,.v (.bool flex)),(14,.v (.slice A6 ((qaw s2).length) c7)),(37,.v (.bool null))] ao bC fun ev aD=>?_
  refine qau aD (b:=null) kz (fun aE=>?_) (fun aE=>?_)
  ·
   refine qap [0] kz ?_
   refine qaj [0] [] [(2,.v (.bool null)),(4,.v (.bool flex)),(14,.v (.slice none 0 0))] ao aD fun ew bD=>?_
   refine qad (qaa ?_)
   refine qac [0,1,2,3,4,5,6,7] kz ?_
   refine qaj [0,1,2,3] [4,5,6,7] [(14,.v (.slice none 0 0)),(38,.v (.bool flex)),(39,.v (.bool null)),(41,.v (.int .i64 0))] ao bD fun ey bE=>?_
   refine qak (qal bE (f:=67) (vs:=[.bool flex,.bool null,.int .i64 0,.int .i64 2]) (d:=42) kz Tryz.call67 (qdF flex null 0 2 (by first | omega | exact Nat.le_trans (qa5 _) (by decide) | exact Nat.le_trans (qcz _) (by decide) | (simp; done) | (have:=hroom; omega)) (by first | decide | omega) _) ?_)
   rintro e_ ez ⟨aF,aG,rfl,bF,bG⟩
   refine ⟨_,rfl,fun eB bH=>?_⟩
   obtain ⟨aY,dP⟩:=ao.frFresh bG (brow aF aG 5 (qam flex null 0 2)) (Nat.le_refl _) bF
   refine qaj [5] [6,7] [(42,.v (.slice aF ((qam flex null 0 2).length) aG)),(43,.v (.slice none 0 0))] aY bH fun eC bI=>?_
   refine qak (qaP aY bI (k:=0) (d:=44) (t:=22) (e:=5) (size:=1) (bytes:=1) (A:=aF) (As:=none) (m0:=((qam flex null 0 2).length)) (c:=aG) (m:=0) (cs:=0) (xs:=(bc (qam flex null 0 2))) (news:=bc ([]:Bs)) kz kz rfl (Octs.nil _ (fun _ _=>True)).src (fun _=>rfl) (by first | exact qdg (by omega) (by decide) (by omega) | exact qdg (Nat.le_trans (qa5 _) (by decide)) (by decide) (Nat.le_trans (qa5 _) (by decide)) | (simp; done)) fun ap ar eD eE dQ bJ bK=>?_)
   have bL:(⟨ap,ar,5,1,(qam flex null 0 2).length + 0,bc (qam flex null 0 2) ++ bc ([]:Bs)⟩:Rw) = brow ap ar 5 (qam flex null 0 2 ++ ([]:Bs)):=qa8 (rfl) rfl
   obtain ⟨aH,dR⟩:=bJ.rowEq 0 [brow ap ar 5 (qam flex null 0 2 ++ ([]:Bs))] bL
   have bM:=EnvOk.pick bK (ks:=[42,43,44]) (env':=[(42,.v (.slice aF ((qam flex null 0 2).length) aG)),(43,.v (.slice none 0 0)),(44,.v (.slice ap ((qam flex null 0 2).length + 0) ar))]) kz
   have bN:=bM.cast (env':=[(42,.v (.slice aF ((qam flex null 0 2).length) aG)),(43,.v (.slice none 0 0)),(44,.v (.slice ap ((qam flex null 0 2 ++ ([]:Bs)).length) ar))]) (by simp only [List.length_append,List.length_cons,List.length_nil,Nat.zero_add])
   refine qaj [7] [] [(12,.v (.slice ap ((qam flex null 0 2 ++ ([]:Bs)).length) ar))] aH bN fun eF bO=>?_
   refine qad (qaa ?_)
   refine wp_ret ?_
   refine qaL ?_
   refine qax ?_
   refine qaG bO aH.cells (v:=.slice ap ((qam flex null 0 2 ++ ([]:Bs)).length) ar) kz ?_
   exact qaW aH (k:=0) rfl (by (try simp only [and1]); simp [qaE,Tree.S,Tree.N,ak,am,bA,ac,ae,ag,aE])
  refine wp_skip ?_
  refine qaa ?_
  refine qac [0,1,2,3,4,5,6,7] kz ?_
  refine qaj [0,1,2,3] [4,5,6,7] [(14,.v (.slice A6 ((qaw s2).length) c7)),(38,.v (.bool flex)),(39,.v (.bool null)),(41,.v (.int .i64 (((qaw s2).length:Nat):Int)))] ao aD fun eG bP=>?_
  refine qak (qal bP (f:=67) (vs:=[.bool flex,.bool null,.int .i64 (((qaw s2).length:Nat):Int),.int .i64 2]) (d:=42) kz Tryz.call67 (qdF flex null ((qaw s2).length) 2 (by first | omega | exact Nat.le_trans (qa5 _) (by decide) | exact Nat.le_trans (qcz _) (by decide) | (simp; done) | (have:=hroom; omega)) (by first | decide | omega) _) ?_)
  rintro e_ eH ⟨aI,aJ,rfl,bQ,bR⟩
  refine ⟨_,rfl,fun eI bS=>?_⟩
  obtain ⟨ah,dS⟩:=ao.frFresh bR (brow aI aJ 5 (qam flex null ((qaw s2).length) 2)) (Nat.le_refl _) bQ
  refine qaj [5] [6,7] [(42,.v (.slice aI ((qam flex null ((qaw s2).length) 2).length) aJ)),(43,.v (.slice A6 ((qaw s2).length) c7))] ah bS fun eJ bT=>?_
  refine qak (qaP ah bT (k:=0) (d:=44) (t:=22) (e:=5) (size:=1) (bytes:=1) (A:=aI) (As:=A6) (m0:=((qam flex null ((qaw s2).length) 2).length)) (c:=aJ) (m:=((qaw s2).length)) (cs:=c7) (xs:=(bc (qam flex null ((qaw s2).length) 2))) (news:=bc (qaw s2)) kz kz rfl ((aX.take 32767).move ah.step nilM ah.imm).src ((aX.take 32767).move ah.step nilM ah.imm).cap (by first | exact qdg (by omega) (by decide) (by omega) | exact qdg (Nat.le_trans (qa5 _) (by decide)) (by decide) (Nat.le_trans (qa5 _) (by decide)) | (simp; done)) fun au av eK eL dT bU bV=>?_)
  have bW:(⟨au,av,5,1,(qam flex null ((qaw s2).length) 2).length + (qaw s2).length,bc (qam flex null ((qaw s2).length) 2) ++ bc (qaw s2)⟩:Rw) = brow au av 5 (qam flex null ((qaw s2).length) 2 ++ (qaw s2)):=qa8 (rfl) rfl
  obtain ⟨aK,dU⟩:=bU.rowEq 0 [brow au av 5 (qam flex null ((qaw s2).length) 2 ++ (qaw s2))] bW
  have bX:=EnvOk.pick bV (ks:=[42,43,44]) (env':=[(42,.v (.slice aI ((qam flex null ((qaw s2).length) 2).length) aJ)),(43,.v (.slice A6 ((qaw s2).length) c7)),(44,.v (.slice au ((qam flex null ((qaw s2).length) 2).length + (qaw s2).length) av))]) kz
  have bY:=bX.cast (env':=[(42,.v (.slice aI ((qam flex null ((qaw s2).length) 2).length) aJ)),(43,.v (.slice A6 ((qaw s2).length) c7)),(44,.v (.slice au ((qam flex null ((qaw s2).length) 2 ++ (qaw s2)).length) av))]) (by simp only [List.length_append,List.length_cons,List.length_nil,Nat.zero_add])
  refine qaj [7] [] [(12,.v (.slice au ((qam flex null ((qaw s2).length) 2 ++ (qaw s2)).length) av))] aK bY fun eM bZ=>?_
  refine qad (qaa ?_)
  refine wp_ret ?_
  refine qaL ?_
  refine qax ?_
  refine qaG bZ aK.cells (v:=.slice au ((qam flex null ((qaw s2).length) 2 ++ (qaw s2)).length) av) kz ?_
  exact qaW aK (k:=0) rfl (by (try simp only [and1]); simp [qaE,Tree.S,Tree.N,ak,am,bA,ac,ae,ag,aE])
 have al:kind ≠ 8:=by simpa using ag
 refine qar [(0,.v (.int .i64 kind)),(1,.v (.slice A l.length c)),(2,.v (.bool null)),(3,.v (.int .i64 v)),(4,.v (.bool flex)),(11,.p 0 0),(16,.v (.int .i64 kind)),(45,.v (.bool (kind == 9)))] aa bt fun eN aL=>?_
 refine qau aL (b:=kind == 9) kz (fun ab=>?_) (fun ab=>?_)
 ·
  have aZ:kind = 9:=by simpa using ab
  refine qac [0,1,2,3] kz ?_
  refine qaj [0,1] [2,3] [(2,.v (.bool null)),(4,.v (.bool flex)),(48,.v (.slice A6 s2.length c7))] aa aL fun eO b8=>?_
  have dL:=qa5 s2
  refine qak (qal b8 (f:=40) (vs:=[.slice A6 s2.length c7]) (d:=49) kz Tryz.call40 (qji _ _ s2 (aX.move aa.step nilM aa.imm).le _) ?_)
  rintro e_ eP ⟨rfl,ba⟩
  refine ⟨_,rfl,fun eQ cd=>?_⟩
  have af:=aa.next_nil ba
  have dV:=aa.frN ba
  refine qaj [3] [] [(2,.v (.bool null)),(4,.v (.bool flex)),(15,.v (.slice A6 ((qaw s2).length) c7))] af cd fun eR ce=>?_
  refine qad (qaa ?_)
  refine wp_seq ?_
  refine qar [(2,.v (.bool null)),(4,.v (.bool flex)),(15,.v (.slice A6 ((qaw s2).length) c7)),(50,.v (.bool null))] af ce fun eS aM=>?_
  refine qau aM (b:=null) kz (fun aN=>?_) (fun aN=>?_)
  ·
   refine qap [0] kz ?_
   refine qaj [0] [] [(2,.v (.bool null)),(4,.v (.bool flex)),(15,.v (.slice none 0 0))] af aM fun eT cg=>?_
   refine qad (qaa ?_)
   refine qac [0,1,2,3,4,5,6,7] kz ?_
   refine qaj [0,1,2,3] [4,5,6,7] [(15,.v (.slice none 0 0)),(51,.v (.bool flex)),(52,.v (.bool null)),(54,.v (.int .i64 0))] af cg fun eU cm=>?_
   refine qak (qal cm (f:=67) (vs:=[.bool flex,.bool null,.int .i64 0,.int .i64 4]) (d:=55) kz Tryz.call67 (qdF flex null 0 4 (by first | omega | exact Nat.le_trans (qa5 _) (by decide) | exact Nat.le_trans (qcz _) (by decide) | (simp; done) | (have:=hroom; omega)) (by first | decide | omega) _) ?_)
   rintro e_ eV ⟨aO,aP,rfl,cq,cr⟩
   refine ⟨_,rfl,fun eW cu=>?_⟩
   obtain ⟨bd,dW⟩:=af.frFresh cr (brow aO aP 5 (qam flex null 0 4)) (Nat.le_refl _) cq
   refine qaj [5] [6,7] [(55,.v (.slice aO ((qam flex null 0 4).length) aP)),(56,.v (.slice none 0 0))] bd cu fun eX cv=>?_
   refine qak (qaP bd cv (k:=0) (d:=57) (t:=22) (e:=5) (size:=1) (bytes:=1) (A:=aO) (As:=none) (m0:=((qam flex null 0 4).length)) (c:=aP) (m:=0) (cs:=0) (xs:=(bc (qam flex null 0 4))) (news:=bc ([]:Bs)) kz kz rfl (Octs.nil _ (fun _ _=>True)).src (fun _=>rfl) (by first | exact qdg (by omega) (by decide) (by omega) | exact qdg (Nat.le_trans (qa5 _) (by decide)) (by decide) (Nat.le_trans (qa5 _) (by decide)) | (simp; done)) fun aw ax eY eZ dX cw cy=>?_)
   have cz:(⟨aw,ax,5,1,(qam flex null 0 4).length + 0,bc (qam flex null 0 4) ++ bc ([]:Bs)⟩:Rw) = brow aw ax 5 (qam flex null 0 4 ++ ([]:Bs)):=qa8 (rfl) rfl
   obtain ⟨aQ,dY⟩:=cw.rowEq 0 [brow aw ax 5 (qam flex null 0 4 ++ ([]:Bs))] cz
   have cA:=EnvOk.pick cy (ks:=[55,56,57]) (env':=[(55,.v (.slice aO ((qam flex null 0 4).length) aP)),(56,.v (.slice none 0 0)),(57,.v (.slice aw ((qam flex null 0 4).length + 0) ax))]) kz
   have cB:=cA.cast (env':=[(55,.v (.slice aO ((qam flex null 0 4).length) aP)),(56,.v (.slice none 0 0)),(57,.v (.slice aw ((qam flex null 0 4 ++ ([]:Bs)).length) ax))]) (by simp only [List.length_append,List.length_cons,List.length_nil,Nat.zero_add])
   refine qaj [7] [] [(12,.v (.slice aw ((qam flex null 0 4 ++ ([]:Bs)).length) ax))] aQ cB fun e9 cC=>?_
   refine qad (qaa ?_)
   refine wp_ret ?_
   refine qaL ?_
   refine qax ?_
   refine qaG cC aQ.cells (v:=.slice aw ((qam flex null 0 4 ++ ([]:Bs)).length) ax) kz ?_
   exact qaW aQ (k:=0) rfl (by (try simp only [and1]); simp [qaE,Tree.S,Tree.N,ak,am,al,aZ,ac,ae,ag,ab,aN])
  refine wp_skip ?_
  refine qaa ?_
  refine qac [0,1,2,3,4,5,6,7] kz ?_
  refine qaj [0,1,2,3] [4,5,6,7] [(15,.v (.slice A6 ((qaw s2).length) c7)),(51,.v (.bool flex)),(52,.v (.bool null)),(54,.v (.int .i64 (((qaw s2).length:Nat):Int)))] af aM fun fa cD=>?_
  refine qak (qal cD (f:=67) (vs:=[.bool flex,.bool null,.int .i64 (((qaw s2).length:Nat):Int),.int .i64 4]) (d:=55) kz Tryz.call67 (qdF flex null ((qaw s2).length) 4 (by first | omega | exact Nat.le_trans (qa5 _) (by decide) | exact Nat.le_trans (qcz _) (by decide) | (simp; done) | (have:=hroom; omega)) (by first | decide | omega) _) ?_)
  rintro e_ fb ⟨aR,aS,rfl,cE,cG⟩
  refine ⟨_,rfl,fun fc cH=>?_⟩
  obtain ⟨ai,dZ⟩:=af.frFresh cG (brow aR aS 5 (qam flex null ((qaw s2).length) 4)) (Nat.le_refl _) cE
  refine qaj [5] [6,7] [(55,.v (.slice aR ((qam flex null ((qaw s2).length) 4).length) aS)),(56,.v (.slice A6 ((qaw s2).length) c7))] ai cH fun fe cI=>?_
  refine qak (qaP ai cI (k:=0) (d:=57) (t:=22) (e:=5) (size:=1) (bytes:=1) (A:=aR) (As:=A6) (m0:=((qam flex null ((qaw s2).length) 4).length)) (c:=aS) (m:=((qaw s2).length)) (cs:=c7) (xs:=(bc (qam flex null ((qaw s2).length) 4))) (news:=bc (qaw s2)) kz kz rfl ((aX.take 32767).move ai.step nilM ai.imm).src ((aX.take 32767).move ai.step nilM ai.imm).cap (by first | exact qdg (by omega) (by decide) (by omega) | exact qdg (Nat.le_trans (qa5 _) (by decide)) (by decide) (Nat.le_trans (qa5 _) (by decide)) | (simp; done)) fun ay az ff fg d5 cJ cK=>?_)
  have cL:(⟨ay,az,5,1,(qam flex null ((qaw s2).length) 4).length + (qaw s2).length,bc (qam flex null ((qaw s2).length) 4) ++ bc (qaw s2)⟩:Rw) = brow ay az 5 (qam flex null ((qaw s2).length) 4 ++ (qaw s2)):=qa8 (rfl) rfl
  obtain ⟨aT,d6⟩:=cJ.rowEq 0 [brow ay az 5 (qam flex null ((qaw s2).length) 4 ++ (qaw s2))] cL
  have cM:=EnvOk.pick cK (ks:=[55,56,57]) (env':=[(55,.v (.slice aR ((qam flex null ((qaw s2).length) 4).length) aS)),(56,.v (.slice A6 ((qaw s2).length) c7)),(57,.v (.slice ay ((qam flex null ((qaw s2).length) 4).length + (qaw s2).length) az))]) kz
  have cN:=cM.cast (env':=[(55,.v (.slice aR ((qam flex null ((qaw s2).length) 4).length) aS)),(56,.v (.slice A6 ((qaw s2).length) c7)),(57,.v (.slice ay ((qam flex null ((qaw s2).length) 4 ++ (qaw s2)).length) az))]) (by simp only [List.length_append,List.length_cons,List.length_nil,Nat.zero_add])
  refine qaj [7] [] [(12,.v (.slice ay ((qam flex null ((qaw s2).length) 4 ++ (qaw s2)).length) az))] aT cN fun fh cO=>?_
  refine qad (qaa ?_)
  refine wp_ret ?_
  refine qaL ?_
  refine qax ?_
  refine qaG cO aT.cells (v:=.slice ay ((qam flex null ((qaw s2).length) 4 ++ (qaw s2)).length) az) kz ?_
  exact qaW aT (k:=0) rfl (by (try simp only [and1]); simp [qaE,Tree.S,Tree.N,ak,am,al,aZ,ac,ae,ag,ab,aN])
 have aU:kind ≠ 9:=by simpa using ab
 refine qar [(0,.v (.int .i64 kind)),(1,.v (.slice A l.length c)),(3,.v (.int .i64 v)),(4,.v (.bool flex)),(11,.p 0 0),(58,.v (.bool (kind == 10)))] aa aL fun fi aV=>?_
 refine qau aV (b:=kind == 10) kz (fun aj=>?_) (fun aj=>?_)
 ·
  have bf:kind = 10:=by simpa using aj
  refine qac [0,1,2,3,4,5] kz ?_
  refine qaj [0,1,2,3] [4,5] [(60,.v (.slice A l.length c)),(61,.v (.int .i64 v)),(62,.v (.bool flex)),(63,.v (.agg #[.int .i64 n1,.slice A6 s2.length c7,.bool b3,.slice A8 l4.length c9,.slice dg u5.length dh]))] aa aV fun fj cP=>?_
  refine qak (qal cP (f:=20) (vs:=[.slice A l.length c,.int .i64 v,.bool flex,.agg #[.int .i64 n1,.slice A6 s2.length c7,.bool b3,.slice A8 l4.length c9,.slice dg u5.length dh]]) (d:=64) kz Tryz.call20 (hp _ _ l v flex _ (Tree.mk n1 s2 b3 l4 u5) _ _ ⟨xfs,(h1.move aa.step nilM aa.imm),(fun i_ x_ h_=>((h2 i_ x_ h_).move aa.step nilM aa.imm))⟩ hd (ht.move aa.step nilM aa.imm) (by simpa [qaE,ak,am,al,aU,bf,ac,ae,ag,ab,aj] using hroom)) ?_)
  rintro e_ fk ⟨bu,bw,rfl,cQ,cR⟩
  refine ⟨_,rfl,fun fl cS=>?_⟩
  obtain ⟨aW,d7⟩:=aa.frFresh cR (brow bu bw 5 (qaK d l v flex (Tree.mk n1 s2 b3 l4 u5))) (Nat.le_refl _) cQ
  refine qaj [5] [] [(12,.v (.slice bu ((qaK d l v flex (Tree.mk n1 s2 b3 l4 u5)).length) bw))] aW cS fun fm cT=>?_
  refine qad (qaa ?_)
  refine wp_ret ?_
  refine qaL ?_
  refine qax ?_
  refine qaG cT aW.cells (v:=.slice bu ((qaK d l v flex (Tree.mk n1 s2 b3 l4 u5)).length) bw) kz ?_
  exact qaW aW (k:=0) rfl (by (try simp only [and1]); simp [qaE,Tree.S,Tree.N,ak,am,al,aU,bf,ac,ae,ag,ab,aj])
 have cU:kind ≠ 10:=by simpa using aj
 refine wp_skip ?_
 refine qaz ?_
 refine qaa ?_
 refine qbF 5 kz aa fun fo d8 bg cV=>?_
 refine qa4 [0,1,2] [(66,.v (.int .i64 n1)),(67,.v (.int .i64 kind))] 3 (qab qah) (fun _ h=>h.cells) cV aV fun fq cW=>?_
 refine qa2 (i:=3) kz (qal cW (f:=70) (vs:=[.int .i64 kind]) (d:=68) kz Tryz.call70 (qjh kind _) ?_)
 rintro e_ fr ⟨rfl,bh⟩
 refine ⟨_,rfl,fun ft cX=>?_⟩
 have bi:=bg.next_nil bh
 have bj:=bg.frN bh
 have cY:=TT.ofW bj bi
 refine ⟨fun _=>cY,?_⟩
 refine qa2 (i:=4) kz (qal cX (f:=69) (vs:=[.int .i64 n1,.int .i64 ((qbf kind:Nat):Int)]) (d:=69) kz Tryz.call69 (qfj n1 (qbf kind) (by first | decide | exact qbB _ | omega) _) ?_)
 rintro e_ fu ⟨bx,bz,rfl,cZ,da⟩
 refine ⟨_,rfl,fun fv db=>?_⟩
 obtain ⟨aA,dc⟩:=bi.frFresh da (brow bx bz 5 (be (qbf kind) n1)) (Nat.le_refl _) cZ
 have de:=TT.ofW (bj.trans dc) aA
 refine ⟨fun _=>de,?_⟩
 refine qa2 (i:=5) kz (qco [12] aA.cells db (env':=[(12,.v (.slice bx ((be (qbf kind) n1).length) bz))]) kz fun fw df=>?_)
 refine ⟨fun h=>absurd rfl h,?_⟩
 refine qa3 kz ?_ _
 refine qaa ?_
 refine wp_ret ?_
 refine qaG df aA.cells (v:=.slice bx ((be (qbf kind) n1).length) bz) kz ?_
 exact qaW aA (k:=0) rfl (by (try simp only [and1]); simp [qaE,Tree.S,Tree.N,ak,am,al,aU,cU,ac,ae,ag,ab,aj])
theorem qlw {d:Nat} (hp:qjj d) (cf:List Value) (f:Fld) (v:Int) (flex:Bool) (ct:List Value) (t:Tree) (w:World) (F:Nat → Nat → Prop) (hf:FldR w F cf f) (hd:depths f.sub ≤ d) (ht:TreeR w F ct t) (hroom:(qcw d f v flex t).length ≤ 1099511627776) :
  Calls Tryz.prog 34 #[.agg cf.toArray,.int .i64 v,.bool flex,.agg ct.toArray] w (qdJ w 5 (qcw d f v flex t)):=by
 obtain ⟨n1,s2,b3,l4,u5,A6,c7,A8,c9,aK,aL,eX,rfl,rfl,eY,dW,eZ,gk⟩:=ht.open_
 have ev:=eY.small
 have ew:=dW.small
 obtain ⟨ac,af,ag,ae,ah,ai,ab,aa,ay,az,bw,rfl,rfl,b8,dV⟩:=hf.open_
 have ey:=b8.small
 refine enter (n:=76) Tryz.func34 rfl Tryz.ntmps34 kz fun a hE=>?_
 have hW:=WOk.start w Nil
 refine qac [0,1,2] kz ?_
 refine qak (qbs hW hE (d:=4) (cs:=[.int .i64 ac,.int .i64 af,.int .i64 ag,.int .i64 ae,.int .i64 ah,.int .i64 ai,.int .i64 ab,.slice ay aa.length az]) kz fun ez gl gm e9 fa fb dX dY=>?_)
 refine qak (qbs dX dY (d:=7) (cs:=[.int .i64 n1,.slice A6 s2.length c7,.bool b3,.slice A8 l4.length c9,.slice aK u5.length aL]) kz fun eB gn gp fc fe ff bx dZ=>?_)
 refine qaj [2] [] [(1,.v (.int .i64 v)),(2,.v (.bool flex)),(4,.p 0 0),(7,.p 1 0)] bx dZ fun gq d5=>?_
 refine qad (qaa ?_)
 refine qac [0,1,2,3,4] kz ?_
 refine qaj [0,1,2] [3,4] [(1,.v (.int .i64 v)),(2,.v (.bool flex)),(4,.p 0 0),(7,.p 1 0),(13,.v (.agg #[.int .i64 ac,.int .i64 af,.int .i64 ag,.int .i64 ae,.int .i64 ah,.int .i64 ai,.int .i64 ab,.slice ay aa.length az])),(14,.v (.int .i64 v)),(15,.v (.agg #[.int .i64 n1,.slice A6 s2.length c7,.bool b3,.slice A8 l4.length c9,.slice aK u5.length aL]))] bx d5 fun gt d6=>?_
 refine qak (qal d6 (f:=65) (vs:=[.agg #[.int .i64 ac,.int .i64 af,.int .i64 ag,.int .i64 ae,.int .i64 ah,.int .i64 ai,.int .i64 ab,.slice ay aa.length az],.int .i64 v,.agg #[.int .i64 n1,.slice A6 s2.length c7,.bool b3,.slice A8 l4.length c9,.slice aK u5.length aL]]) (d:=16) kz Tryz.call65 (qlS ac af ag ae ah ai ab aa _ _ v n1 s2 b3 l4 u5 _ _ _ _ _ _ _) ?_)
 rintro e_ gu ⟨rfl,cd⟩
 refine ⟨_,rfl,fun gv d7=>?_⟩
 have aj:=bx.next_nil cd
 have fg:=bx.frN cd
 refine qaj [4] [] [(1,.v (.int .i64 v)),(2,.v (.bool flex)),(4,.p 0 0),(7,.p 1 0),(9,.v (.bool (Fld.nul (Fld.mk ac af ag ae ah ai ab aa) v (Tree.mk n1 s2 b3 l4 u5))))] aj d7 fun gw d8=>?_
 refine qad (qaa ?_)
 refine wp_seq ?_
 refine qar [(1,.v (.int .i64 v)),(2,.v (.bool flex)),(4,.p 0 0),(7,.p 1 0),(9,.v (.bool (Fld.nul (Fld.mk ac af ag ae ah ai ab aa) v (Tree.mk n1 s2 b3 l4 u5)))),(19,.v (.bool (ac == 11)))] aj d8 fun gx bM=>?_
 refine qau bM (b:=ac == 11) kz (fun bN=>?_) (fun bN=>?_)
 ·
  have fh:ac = 11:=by simpa using bN
  refine qac [0,1,2,3] kz ?_
  refine qaj [0,1] [2,3] [(1,.v (.int .i64 v)),(2,.v (.bool flex)),(4,.p 0 0),(9,.v (.bool (Fld.nul (Fld.mk ac af ag ae ah ai ab aa) v (Tree.mk n1 s2 b3 l4 u5)))),(21,.v (.slice A8 l4.length c9))] aj bM fun gy d9=>?_
  refine qak (qal d9 (f:=66) (vs:=[.slice A8 l4.length c9]) (d:=22) kz Tryz.call66 (qkW _ _ l4 (dW.move aj.step nilM aj.imm).le _) ?_)
  rintro e_ gz ⟨rfl,ce⟩
  refine ⟨_,rfl,fun gA ea=>?_⟩
  have aB:=aj.next_nil ce
  have fi:=aj.frN ce
  refine qaj [3] [] [(1,.v (.int .i64 v)),(2,.v (.bool flex)),(4,.p 0 0),(9,.v (.bool (Fld.nul (Fld.mk ac af ag ae ah ai ab aa) v (Tree.mk n1 s2 b3 l4 u5)))),(10,.v (.slice A8 ((qas l4).length) c9))] aB ea fun gB eb=>?_
  refine qad (qaa ?_)
  refine wp_seq ?_
  refine qar [(1,.v (.int .i64 v)),(2,.v (.bool flex)),(4,.p 0 0),(9,.v (.bool (Fld.nul (Fld.mk ac af ag ae ah ai ab aa) v (Tree.mk n1 s2 b3 l4 u5)))),(10,.v (.slice A8 ((qas l4).length) c9)),(23,.v (.bool (Fld.nul (Fld.mk ac af ag ae ah ai ab aa) v (Tree.mk n1 s2 b3 l4 u5))))] aB eb fun gC bO=>?_
  refine qau bO (b:=Fld.nul (Fld.mk ac af ag ae ah ai ab aa) v (Tree.mk n1 s2 b3 l4 u5)) kz (fun ec=>?_) (fun ec=>?_)
  ·
   refine qap [0] kz ?_
   refine qaj [0] [] [(1,.v (.int .i64 v)),(2,.v (.bool flex)),(4,.p 0 0),(9,.v (.bool (Fld.nul (Fld.mk ac af ag ae ah ai ab aa) v (Tree.mk n1 s2 b3 l4 u5)))),(10,.v (.slice none 0 0))] aB bO fun gD ee=>?_
   refine qad (qaa ?_)
   refine qac [0,1,2,3,4,5] kz ?_
   refine qaj [0,1,2,3] [4,5] [(1,.v (.int .i64 v)),(2,.v (.bool flex)),(4,.p 0 0),(10,.v (.slice none 0 0)),(24,.v (.bool flex)),(25,.v (.bool (Fld.nul (Fld.mk ac af ag ae ah ai ab aa) v (Tree.mk n1 s2 b3 l4 u5)))),(27,.v (.int .i64 0))] aB ee fun gE ef=>?_
   refine qak (qal ef (f:=67) (vs:=[.bool flex,.bool (Fld.nul (Fld.mk ac af ag ae ah ai ab aa) v (Tree.mk n1 s2 b3 l4 u5)),.int .i64 0,.int .i64 4]) (d:=28) kz Tryz.call67 (qdF flex (Fld.nul (Fld.mk ac af ag ae ah ai ab aa) v (Tree.mk n1 s2 b3 l4 u5)) 0 4 (by first | omega | exact Nat.le_trans (qa5 _) (by decide) | exact Nat.le_trans (qcz _) (by decide) | (simp; done) | (have:=hroom; omega)) (by first | decide | omega) _) ?_)
   rintro e_ gF ⟨bY,bZ,rfl,eg,eh⟩
   refine ⟨_,rfl,fun gG ei=>?_⟩
   obtain ⟨bP,fj⟩:=aB.frFresh eh (brow bY bZ 5 (qam flex (Fld.nul (Fld.mk ac af ag ae ah ai ab aa) v (Tree.mk n1 s2 b3 l4 u5)) 0 4)) (Nat.le_refl _) eg
   refine qaj [5] [] [(1,.v (.int .i64 v)),(2,.v (.bool flex)),(4,.p 0 0),(10,.v (.slice none 0 0)),(11,.v (.slice bY ((qam flex (Fld.nul (Fld.mk ac af ag ae ah ai ab aa) v (Tree.mk n1 s2 b3 l4 u5)) 0 4).length) bZ))] bP ei fun gH ej=>?_
   refine qad (qaa ?_)
   refine wp_seq ?_
   refine qar [(1,.v (.int .i64 v)),(2,.v (.bool flex)),(4,.p 0 0),(10,.v (.slice none 0 0)),(11,.v (.slice bY ((qam flex (Fld.nul (Fld.mk ac af ag ae ah ai ab aa) v (Tree.mk n1 s2 b3 l4 u5)) 0 4).length) bZ)),(30,.v (.int .i64 0)),(31,.v (.int .i64 0))] bP ej fun gI cg=>?_
   refine wp_block ?_
   have hr2:(qam flex (Fld.nul (Fld.mk ac af ag ae ah ai ab aa) v (Tree.mk n1 s2 b3 l4 u5)) 0 4 ++ ([]:List Tree).flatMap (qaE (qaK d aa v flex) ab false flex)).length ≤ 1099511627776:=by have h_:=hroom; rw [qfu ‹_› ‹_›] at h_; exact h_
   rw [List.length_append] at hr2
   have hr3:=qca ([]:List Tree) (qaE (qaK d aa v flex) ab false flex)
   have cm:(qam flex (Fld.nul (Fld.mk ac af ag ae ah ai ab aa) v (Tree.mk n1 s2 b3 l4 u5)) 0 4) = (qam flex (Fld.nul (Fld.mk ac af ag ae ah ai ab aa) v (Tree.mk n1 s2 b3 l4 u5)) 0 4 ++ (([]:List Tree).take 0).flatMap (qaE (qaK d aa v flex) ab false flex)):=by simp
   have cq:=congrArg (brow bY bZ 5) cm
   obtain ⟨bB,eC⟩:=bP.rowEq 0 [brow bY bZ 5 (qam flex (Fld.nul (Fld.mk ac af ag ae ah ai ab aa) v (Tree.mk n1 s2 b3 l4 u5)) 0 4 ++ (([]:List Tree).take 0).flatMap (qaE (qaK d aa v flex) ab false flex))] cq
   rw [cm] at cg
   refine wp_loop_ghost (fun n_ a_ w_=>∃ (k:Nat) (A_:Option Addr) (c_:Nat),n_ = 0 - k ∧ k ≤ 0 ∧ LInv bB 76 [⟨ez,0,[.int .i64 ac,.int .i64 af,.int .i64 ag,.int .i64 ae,.int .i64 ah,.int .i64 ai,.int .i64 ab,.slice ay aa.length az],true⟩,⟨eB,0,[.int .i64 n1,.slice A6 s2.length c7,.bool b3,.slice A8 l4.length c9,.slice aK u5.length aL],true⟩] [brow A_ c_ 5 (qam flex (Fld.nul (Fld.mk ac af ag ae ah ai ab aa) v (Tree.mk n1 s2 b3 l4 u5)) 0 4 ++ (([]:List Tree).take k).flatMap (qaE (qaK d aa v flex) ab false flex))] [(1,.v (.int .i64 v)),(2,.v (.bool flex)),(4,.p 0 0),(10,.v (.slice none 0 0)),(11,.v (.slice A_ ((qam flex (Fld.nul (Fld.mk ac af ag ae ah ai ab aa) v (Tree.mk n1 s2 b3 l4 u5)) 0 4 ++ (([]:List Tree).take k).flatMap (qaE (qaK d aa v flex) ab false flex)).length) c_)),(30,.v (.int .i64 0)),(31,.v (.int .i64 ((k:Nat):Int)))] a_ w_) (0) ⟨0,bY,bZ,by omega,by omega,cg.pk,bB,Fr.refl _ _ _⟩ ?_
   rintro fk fl fm ⟨k,A_,c_,eD,eE,cr,aE,eF⟩
   refine qar [(1,.v (.int .i64 v)),(2,.v (.bool flex)),(4,.p 0 0),(10,.v (.slice none 0 0)),(11,.v (.slice A_ ((qam flex (Fld.nul (Fld.mk ac af ag ae ah ai ab aa) v (Tree.mk n1 s2 b3 l4 u5)) 0 4 ++ (([]:List Tree).take k).flatMap (qaE (qaK d aa v flex) ab false flex)).length) c_)),(30,.v (.int .i64 0)),(31,.v (.int .i64 ((k:Nat):Int))),(32,.v (.bool (decide (((k:Nat):Int) < 0))))] aE cr fun fo bC=>?_
   refine wp_seq ?_
   refine qaq bC (b:=decide (((k:Nat):Int) < 0)) kz (decide_eq_false (by omega)) ?_
   refine wp_exit ?_
   refine qay ?_
   refine qay ?_
   refine qaM ?_
   refine qaa ?_
   refine qar [(8,.v (.slice A_ ((qam flex (Fld.nul (Fld.mk ac af ag ae ah ai ab aa) v (Tree.mk n1 s2 b3 l4 u5)) 0 4 ++ (([]:List Tree).take k).flatMap (qaE (qaK d aa v flex) ab false flex)).length) c_))] aE bC fun fq cu=>?_
   refine wp_ret ?_
   refine qax ?_
   refine qaG cu aE.cells (v:=.slice A_ ((qam flex (Fld.nul (Fld.mk ac af ag ae ah ai ab aa) v (Tree.mk n1 s2 b3 l4 u5)) 0 4 ++ (([]:List Tree).take k).flatMap (qaE (qaK d aa v flex) ab false flex)).length) c_) kz ?_
   exact qaW aE (k:=0) rfl (by rw [qfu ‹_› ‹_›]; simp)
  refine wp_skip ?_
  refine qaa ?_
  refine qac [0,1,2,3,4,5] kz ?_
  refine qaj [0,1,2,3] [4,5] [(1,.v (.int .i64 v)),(2,.v (.bool flex)),(4,.p 0 0),(10,.v (.slice A8 ((qas l4).length) c9)),(24,.v (.bool flex)),(25,.v (.bool (Fld.nul (Fld.mk ac af ag ae ah ai ab aa) v (Tree.mk n1 s2 b3 l4 u5)))),(27,.v (.int .i64 (((qas l4).length:Nat):Int)))] aB bO fun fr cv=>?_
  refine qak (qal cv (f:=67) (vs:=[.bool flex,.bool (Fld.nul (Fld.mk ac af ag ae ah ai ab aa) v (Tree.mk n1 s2 b3 l4 u5)),.int .i64 (((qas l4).length:Nat):Int),.int .i64 4]) (d:=28) kz Tryz.call67 (qdF flex (Fld.nul (Fld.mk ac af ag ae ah ai ab aa) v (Tree.mk n1 s2 b3 l4 u5)) ((qas l4).length) 4 (by first | omega | exact Nat.le_trans (qa5 _) (by decide) | exact Nat.le_trans (qcz _) (by decide) | (simp; done) | (have:=hroom; omega)) (by first | decide | omega) _) ?_)
  rintro e_ ft ⟨aM,aN,rfl,cw,cy⟩
  refine ⟨_,rfl,fun fu cz=>?_⟩
  obtain ⟨aO,eG⟩:=aB.frFresh cy (brow aM aN 5 (qam flex (Fld.nul (Fld.mk ac af ag ae ah ai ab aa) v (Tree.mk n1 s2 b3 l4 u5)) ((qas l4).length) 4)) (Nat.le_refl _) cw
  refine qaj [5] [] [(1,.v (.int .i64 v)),(2,.v (.bool flex)),(4,.p 0 0),(10,.v (.slice A8 ((qas l4).length) c9)),(11,.v (.slice aM ((qam flex (Fld.nul (Fld.mk ac af ag ae ah ai ab aa) v (Tree.mk n1 s2 b3 l4 u5)) ((qas l4).length) 4).length) aN))] aO cz fun fv cA=>?_
  refine qad (qaa ?_)
  refine wp_seq ?_
  refine qar [(1,.v (.int .i64 v)),(2,.v (.bool flex)),(4,.p 0 0),(10,.v (.slice A8 ((qas l4).length) c9)),(11,.v (.slice aM ((qam flex (Fld.nul (Fld.mk ac af ag ae ah ai ab aa) v (Tree.mk n1 s2 b3 l4 u5)) ((qas l4).length) 4).length) aN)),(30,.v (.int .i64 (((qas l4).length:Nat):Int))),(31,.v (.int .i64 0))] aO cA fun fw bD=>?_
  refine wp_block ?_
  have hr2:(qam flex (Fld.nul (Fld.mk ac af ag ae ah ai ab aa) v (Tree.mk n1 s2 b3 l4 u5)) ((qas l4).length) 4 ++ (qas l4).flatMap (qaE (qaK d aa v flex) ab false flex)).length ≤ 1099511627776:=by have h_:=hroom; rw [qgf ‹_› ‹_›] at h_; exact h_
  rw [List.length_append] at hr2
  have hr3:=qca (qas l4) (qaE (qaK d aa v flex) ab false flex)
  have hsm3:(qas l4).length ≤ 32767:=by simp only [qas,List.length_take]; omega
  have bE:(qam flex (Fld.nul (Fld.mk ac af ag ae ah ai ab aa) v (Tree.mk n1 s2 b3 l4 u5)) ((qas l4).length) 4) = (qam flex (Fld.nul (Fld.mk ac af ag ae ah ai ab aa) v (Tree.mk n1 s2 b3 l4 u5)) ((qas l4).length) 4 ++ ((qas l4).take 0).flatMap (qaE (qaK d aa v flex) ab false flex)):=by simp
  have cB:=congrArg (brow aM aN 5) bE
  obtain ⟨bF,eH⟩:=aO.rowEq 0 [brow aM aN 5 (qam flex (Fld.nul (Fld.mk ac af ag ae ah ai ab aa) v (Tree.mk n1 s2 b3 l4 u5)) ((qas l4).length) 4 ++ ((qas l4).take 0).flatMap (qaE (qaK d aa v flex) ab false flex))] cB
  rw [bE] at bD
  refine wp_loop_ghost (fun n_ a_ w_=>∃ (k:Nat) (A_:Option Addr) (c_:Nat),n_ = (qas l4).length - k ∧ k ≤ (qas l4).length ∧ LInv bF 76 [⟨ez,0,[.int .i64 ac,.int .i64 af,.int .i64 ag,.int .i64 ae,.int .i64 ah,.int .i64 ai,.int .i64 ab,.slice ay aa.length az],true⟩,⟨eB,0,[.int .i64 n1,.slice A6 s2.length c7,.bool b3,.slice A8 l4.length c9,.slice aK u5.length aL],true⟩] [brow A_ c_ 5 (qam flex (Fld.nul (Fld.mk ac af ag ae ah ai ab aa) v (Tree.mk n1 s2 b3 l4 u5)) ((qas l4).length) 4 ++ ((qas l4).take k).flatMap (qaE (qaK d aa v flex) ab false flex))] [(1,.v (.int .i64 v)),(2,.v (.bool flex)),(4,.p 0 0),(10,.v (.slice A8 ((qas l4).length) c9)),(11,.v (.slice A_ ((qam flex (Fld.nul (Fld.mk ac af ag ae ah ai ab aa) v (Tree.mk n1 s2 b3 l4 u5)) ((qas l4).length) 4 ++ ((qas l4).take k).flatMap (qaE (qaK d aa v flex) ab false flex)).length) c_)),(30,.v (.int .i64 (((qas l4).length:Nat):Int))),(31,.v (.int .i64 ((k:Nat):Int)))] a_ w_) ((qas l4).length) ⟨0,aM,aN,by omega,by omega,bD.pk,bF,Fr.refl _ _ _⟩ ?_
  rintro fx fy fz ⟨k,A_,c_,eI,eJ,cC,ax,cD⟩
  refine qar [(1,.v (.int .i64 v)),(2,.v (.bool flex)),(4,.p 0 0),(10,.v (.slice A8 ((qas l4).length) c9)),(11,.v (.slice A_ ((qam flex (Fld.nul (Fld.mk ac af ag ae ah ai ab aa) v (Tree.mk n1 s2 b3 l4 u5)) ((qas l4).length) 4 ++ ((qas l4).take k).flatMap (qaE (qaK d aa v flex) ab false flex)).length) c_)),(30,.v (.int .i64 (((qas l4).length:Nat):Int))),(31,.v (.int .i64 ((k:Nat):Int))),(32,.v (.bool (decide (((k:Nat):Int) < (((qas l4).length:Nat):Int)))))] ax cC fun fA aP=>?_
  refine wp_seq ?_
  refine qau aP (b:=decide (((k:Nat):Int) < (((qas l4).length:Nat):Int))) kz (fun aQ=>?_) (fun aQ=>?_)
  ·
   have eK:=of_decide_eq_true aQ
   refine wp_skip ?_
   refine qaa ?_
   refine wp_seq ?_
   refine wp_block ?_
   refine qar [(1,.v (.int .i64 v)),(2,.v (.bool flex)),(4,.p 0 0),(10,.v (.slice A8 ((qas l4).length) c9)),(11,.v (.slice A_ ((qam flex (Fld.nul (Fld.mk ac af ag ae ah ai ab aa) v (Tree.mk n1 s2 b3 l4 u5)) ((qas l4).length) 4 ++ ((qas l4).take k).flatMap (qaE (qaK d aa v flex) ab false flex)).length) c_)),(12,.v (.int .i64 ((k:Nat):Int))),(30,.v (.int .i64 (((qas l4).length:Nat):Int))),(31,.v (.int .i64 ((k:Nat):Int)))] ax aP fun fB cE=>?_
   refine qhg 13 kz ax fun fC cG ar aR=>?_
   refine qa4 [0,1,2,3,4,5,6,7,8] [(1,.v (.int .i64 v)),(2,.v (.bool flex)),(4,.p 0 0),(10,.v (.slice A8 ((qas l4).length) c9)),(11,.v (.slice A_ ((qam flex (Fld.nul (Fld.mk ac af ag ae ah ai ab aa) v (Tree.mk n1 s2 b3 l4 u5)) ((qas l4).length) 4 ++ ((qas l4).take k).flatMap (qaE (qaK d aa v flex) ab false flex)).length) c_)),(30,.v (.int .i64 (((qas l4).length:Nat):Int))),(31,.v (.int .i64 ((k:Nat):Int))),(34,.v (.slice A_ ((qam flex (Fld.nul (Fld.mk ac af ag ae ah ai ab aa) v (Tree.mk n1 s2 b3 l4 u5)) ((qas l4).length) 4 ++ ((qas l4).take k).flatMap (qaE (qaK d aa v flex) ab false flex)).length) c_)),(36,.v (.int .i64 ab)),(38,.v (.slice ay aa.length az)),(39,.v (.int .i64 v)),(40,.v (.bool flex)),(41,.v (.slice A8 ((qas l4).length) c9)),(42,.v (.int .i64 ((k:Nat):Int)))] 5 (qae (qab (qab (qae (qab (qab qah)))))) (fun _ h=>h.cells) aR cE fun fD cH=>?_
   obtain ⟨bQ,bR,cI,eL,aS⟩:=Slots.get (qgd dW) (i:=k) (by omega)
   obtain ⟨ek,aF⟩:∃ x,(qas l4)[k]? = some x:=⟨_,List.getElem?_eq_getElem (by omega)⟩
   have aT:=(qgJ eZ) k ek aF
   obtain ⟨ak,al,am,ao,ap,aU,aV,aW,aX,aY,aZ,eM,rfl,ba,em,eo,fE,fF⟩:=aT.open_
   rw [ba] at aT
   have ep:=em.small
   have eu:=eo.small
   rw [ba] at aS
   refine qbq cH (i:=9) (t:=23) (A:=A8) (m:=((qas l4).length)) (q:=((k:Nat):Int)) (d:=43) kz (e:=26) (size:=5) (bytes:=88) kz cI rfl (by omega) kz kz (qae (qab (qab (qae (qab (qab qah)))))) aR fun fG cJ=>?_
   refine qbp cJ (i:=10) (t:=26) (b:=bQ) (o:=bR + k * 5) (d:=44) kz (cs:=[.int .i64 ak,.slice aU al.length aV,.bool am,.slice aW ao.length aX,.slice aY ap.length aZ]) (v:=.agg #[.int .i64 ak,.slice aU al.length aV,.bool am,.slice aW ao.length aX,.slice aY ap.length aZ]) kz (fun w' h'=>(AtF.move aS (TT.step0 ar h') nilM qa0).at_) kz kz (qae (qab (qab (qae (qab (qab qah)))))) aR fun fH cK=>?_
   refine qa2 (i:=11) kz (qal cK (f:=68) (vs:=[.int .i64 ab,.slice ay aa.length az,.bool false,.int .i64 v,.bool flex,.agg #[.int .i64 ak,.slice aU al.length aV,.bool am,.slice aW ao.length aX,.slice aY ap.length aZ]]) (d:=45) kz Tryz.call68 (qjk hp ab _ _ aa false v flex _ (Tree.mk ak al am ao ap) _ _ ⟨bw,(b8.move ar.step nilM ar.imm),(fun i_ x_ h_=>((dV i_ x_ h_).move ar.step nilM ar.imm))⟩ hd (aT.move ar.step nilM ar.imm) (by have:=qft (g:=qaE (qaK d aa v flex) ab false flex) aF; omega)) ?_)
   rintro e_ fI ⟨bd,bf,rfl,cL,cM⟩
   refine ⟨_,rfl,fun fJ cN=>?_⟩
   obtain ⟨aG,bg⟩:=ar.frFresh cM (brow bd bf 5 (qaE (qaK d aa v flex) ab false flex (Tree.mk ak al am ao ap))) (Nat.le_refl _) cL
   have cO:=TT.ofW bg aG
   refine ⟨fun _=>cO,?_⟩
   refine qa2 (i:=12) kz (qaP aG cN (k:=0) (d:=46) (t:=22) (e:=5) (size:=1) (bytes:=1) (A:=A_) (As:=bd) (m0:=((qam flex (Fld.nul (Fld.mk ac af ag ae ah ai ab aa) v (Tree.mk n1 s2 b3 l4 u5)) ((qas l4).length) 4 ++ ((qas l4).take k).flatMap (qaE (qaK d aa v flex) ab false flex)).length)) (c:=c_) (m:=((qaE (qaK d aa v flex) ab false flex (Tree.mk ak al am ao ap)).length)) (cs:=bf) (xs:=(bc (qam flex (Fld.nul (Fld.mk ac af ag ae ah ai ab aa) v (Tree.mk n1 s2 b3 l4 u5)) ((qas l4).length) 4 ++ ((qas l4).take k).flatMap (qaE (qaK d aa v flex) ab false flex)))) (news:=bc (qaE (qaK d aa v flex) ab false flex (Tree.mk ak al am ao ap))) kz kz rfl (qci (aG.own 1 _ rfl) (qcQ _)) (qcy (aG.own 1 _ rfl)) (by rw [List.length_append]; have h8_:=hr3 k; have h9_:=qft (g:=qaE (qaK d aa v flex) ab false flex) aF; omega) fun av aw fK fL bG cP cQ=>?_)
   have cR:(⟨av,aw,5,1,(qam flex (Fld.nul (Fld.mk ac af ag ae ah ai ab aa) v (Tree.mk n1 s2 b3 l4 u5)) ((qas l4).length) 4 ++ ((qas l4).take k).flatMap (qaE (qaK d aa v flex) ab false flex)).length + (qaE (qaK d aa v flex) ab false flex (Tree.mk ak al am ao ap)).length,bc (qam flex (Fld.nul (Fld.mk ac af ag ae ah ai ab aa) v (Tree.mk n1 s2 b3 l4 u5)) ((qas l4).length) 4 ++ ((qas l4).take k).flatMap (qaE (qaK d aa v flex) ab false flex)) ++ bc (qaE (qaK d aa v flex) ab false flex (Tree.mk ak al am ao ap))⟩:Rw) = brow av aw 5 (qam flex (Fld.nul (Fld.mk ac af ag ae ah ai ab aa) v (Tree.mk n1 s2 b3 l4 u5)) ((qas l4).length) 4 ++ ((qas l4).take k).flatMap (qaE (qaK d aa v flex) ab false flex) ++ (qaE (qaK d aa v flex) ab false flex (Tree.mk ak al am ao ap))):=qa8 (rfl) rfl
   obtain ⟨aH,bH⟩:=cP.rowEq 0 [brow av aw 5 (qam flex (Fld.nul (Fld.mk ac af ag ae ah ai ab aa) v (Tree.mk n1 s2 b3 l4 u5)) ((qas l4).length) 4 ++ ((qas l4).take k).flatMap (qaE (qaK d aa v flex) ab false flex) ++ (qaE (qaK d aa v flex) ab false flex (Tree.mk ak al am ao ap))),brow bd bf 5 (qaE (qaK d aa v flex) ab false flex (Tree.mk ak al am ao ap))] cR
   have cS:=EnvOk.pick cQ (ks:=[1,2,4,10,11,30,31,34,36,38,39,40,41,42,43,44,45,46]) (env':=[(1,.v (.int .i64 v)),(2,.v (.bool flex)),(4,.p 0 0),(10,.v (.slice A8 ((qas l4).length) c9)),(11,.v (.slice A_ ((qam flex (Fld.nul (Fld.mk ac af ag ae ah ai ab aa) v (Tree.mk n1 s2 b3 l4 u5)) ((qas l4).length) 4 ++ ((qas l4).take k).flatMap (qaE (qaK d aa v flex) ab false flex)).length) c_)),(30,.v (.int .i64 (((qas l4).length:Nat):Int))),(31,.v (.int .i64 ((k:Nat):Int))),(34,.v (.slice A_ ((qam flex (Fld.nul (Fld.mk ac af ag ae ah ai ab aa) v (Tree.mk n1 s2 b3 l4 u5)) ((qas l4).length) 4 ++ ((qas l4).take k).flatMap (qaE (qaK d aa v flex) ab false flex)).length) c_)),(36,.v (.int .i64 ab)),(38,.v (.slice ay aa.length az)),(39,.v (.int .i64 v)),(40,.v (.bool flex)),(41,.v (.slice A8 ((qas l4).length) c9)),(42,.v (.int .i64 ((k:Nat):Int))),(43,.v (.pointer (some ⟨bQ,bR + k * 5,none⟩))),(44,.v (.agg #[.int .i64 ak,.slice aU al.length aV,.bool am,.slice aW ao.length aX,.slice aY ap.length aZ])),(45,.v (.slice bd ((qaE (qaK d aa v flex) ab false flex (Tree.mk ak al am ao ap)).length) bf)),(46,.v (.slice av ((qam flex (Fld.nul (Fld.mk ac af ag ae ah ai ab aa) v (Tree.mk n1 s2 b3 l4 u5)) ((qas l4).length) 4 ++ ((qas l4).take k).flatMap (qaE (qaK d aa v flex) ab false flex)).length + (qaE (qaK d aa v flex) ab false flex (Tree.mk ak al am ao ap)).length) aw))]) kz
   have cT:=cS.cast (env':=[(1,.v (.int .i64 v)),(2,.v (.bool flex)),(4,.p 0 0),(10,.v (.slice A8 ((qas l4).length) c9)),(11,.v (.slice A_ ((qam flex (Fld.nul (Fld.mk ac af ag ae ah ai ab aa) v (Tree.mk n1 s2 b3 l4 u5)) ((qas l4).length) 4 ++ ((qas l4).take k).flatMap (qaE (qaK d aa v flex) ab false flex)).length) c_)),(30,.v (.int .i64 (((qas l4).length:Nat):Int))),(31,.v (.int .i64 ((k:Nat):Int))),(34,.v (.slice A_ ((qam flex (Fld.nul (Fld.mk ac af ag ae ah ai ab aa) v (Tree.mk n1 s2 b3 l4 u5)) ((qas l4).length) 4 ++ ((qas l4).take k).flatMap (qaE (qaK d aa v flex) ab false flex)).length) c_)),(36,.v (.int .i64 ab)),(38,.v (.slice ay aa.length az)),(39,.v (.int .i64 v)),(40,.v (.bool flex)),(41,.v (.slice A8 ((qas l4).length) c9)),(42,.v (.int .i64 ((k:Nat):Int))),(43,.v (.pointer (some ⟨bQ,bR + k * 5,none⟩))),(44,.v (.agg #[.int .i64 ak,.slice aU al.length aV,.bool am,.slice aW ao.length aX,.slice aY ap.length aZ])),(45,.v (.slice bd ((qaE (qaK d aa v flex) ab false flex (Tree.mk ak al am ao ap)).length) bf)),(46,.v (.slice av ((qam flex (Fld.nul (Fld.mk ac af ag ae ah ai ab aa) v (Tree.mk n1 s2 b3 l4 u5)) ((qas l4).length) 4 ++ ((qas l4).take k).flatMap (qaE (qaK d aa v flex) ab false flex) ++ (qaE (qaK d aa v flex) ab false flex (Tree.mk ak al am ao ap))).length) aw))]) (by simp only [List.length_append,List.length_cons,List.length_nil,Nat.zero_add])
   have cU:=TT.ofW ((bg.trans bG).trans bH) aH
   refine ⟨fun _=>cU,?_⟩
   refine qa2 (i:=13) kz (qco [1,2,4,10,11,30,31] aH.cells cT (env':=[(1,.v (.int .i64 v)),(2,.v (.bool flex)),(4,.p 0 0),(10,.v (.slice A8 ((qas l4).length) c9)),(11,.v (.slice av ((qam flex (Fld.nul (Fld.mk ac af ag ae ah ai ab aa) v (Tree.mk n1 s2 b3 l4 u5)) ((qas l4).length) 4 ++ ((qas l4).take k).flatMap (qaE (qaK d aa v flex) ab false flex) ++ (qaE (qaK d aa v flex) ab false flex (Tree.mk ak al am ao ap))).length) aw)),(30,.v (.int .i64 (((qas l4).length:Nat):Int))),(31,.v (.int .i64 ((k:Nat):Int)))]) kz fun fM cV=>?_)
   refine ⟨fun h=>absurd rfl h,?_⟩
   refine qa3 kz ?_ _
   refine qaz ?_
   refine qaa ?_
   refine qap [0,1] kz ?_
   refine qaj [0,1] [] [(1,.v (.int .i64 v)),(2,.v (.bool flex)),(4,.p 0 0),(10,.v (.slice A8 ((qas l4).length) c9)),(11,.v (.slice av ((qam flex (Fld.nul (Fld.mk ac af ag ae ah ai ab aa) v (Tree.mk n1 s2 b3 l4 u5)) ((qas l4).length) 4 ++ ((qas l4).take k).flatMap (qaE (qaK d aa v flex) ab false flex) ++ (qaE (qaK d aa v flex) ab false flex (Tree.mk ak al am ao ap))).length) aw)),(30,.v (.int .i64 (((qas l4).length:Nat):Int))),(31,.v (.int .i64 (IntKind.i64.wrap (((k:Nat):Int) + 1))))] aH cV fun fN bh=>?_
   refine qad (qaa ?_)
   obtain ⟨cW,cX⟩:=aH.cutR 1 [brow av aw 5 (qam flex (Fld.nul (Fld.mk ac af ag ae ah ai ab aa) v (Tree.mk n1 s2 b3 l4 u5)) ((qas l4).length) 4 ++ ((qas l4).take k).flatMap (qaE (qaK d aa v flex) ab false flex) ++ (qaE (qaK d aa v flex) ab false flex (Tree.mk ak al am ao ap)))]
   have bI:(qam flex (Fld.nul (Fld.mk ac af ag ae ah ai ab aa) v (Tree.mk n1 s2 b3 l4 u5)) ((qas l4).length) 4 ++ ((qas l4).take k).flatMap (qaE (qaK d aa v flex) ab false flex) ++ (qaE (qaK d aa v flex) ab false flex (Tree.mk ak al am ao ap))) = (qam flex (Fld.nul (Fld.mk ac af ag ae ah ai ab aa) v (Tree.mk n1 s2 b3 l4 u5)) ((qas l4).length) 4 ++ ((qas l4).take (k + 1)).flatMap (qaE (qaK d aa v flex) ab false flex)):=by rw [qcj aF,List.append_assoc]
   have cY:=congrArg (brow av aw 5) bI
   obtain ⟨cZ,da⟩:=cW.rowEq 0 [brow av aw 5 (qam flex (Fld.nul (Fld.mk ac af ag ae ah ai ab aa) v (Tree.mk n1 s2 b3 l4 u5)) ((qas l4).length) 4 ++ ((qas l4).take (k + 1)).flatMap (qaE (qaK d aa v flex) ab false flex))] cY
   rw [bI] at bh
   have db:IntKind.i64.wrap (((k:Nat):Int) + 1) = ((k + 1:Nat):Int):=qaV (by omega)
   rw [db] at bh
   exact ⟨(qas l4).length - (k + 1),by omega,k + 1,av,aw,rfl,by omega,bh.pk,cZ,((((((cD.trans cG).trans bg).trans bG).trans bH).trans cX).trans da)⟩
  have eN:=of_decide_eq_false aQ
  refine wp_exit ?_
  refine qay ?_
  refine qay ?_
  refine qaM ?_
  refine qaa ?_
  refine qar [(8,.v (.slice A_ ((qam flex (Fld.nul (Fld.mk ac af ag ae ah ai ab aa) v (Tree.mk n1 s2 b3 l4 u5)) ((qas l4).length) 4 ++ ((qas l4).take k).flatMap (qaE (qaK d aa v flex) ab false flex)).length) c_))] ax aP fun fO dc=>?_
  refine wp_ret ?_
  refine qax ?_
  refine qaG dc ax.cells (v:=.slice A_ ((qam flex (Fld.nul (Fld.mk ac af ag ae ah ai ab aa) v (Tree.mk n1 s2 b3 l4 u5)) ((qas l4).length) 4 ++ ((qas l4).take k).flatMap (qaE (qaK d aa v flex) ab false flex)).length) c_) kz ?_
  have hkk:(qas l4).take k = qas l4:=List.take_of_length_le (by omega)
  exact qaW ax (k:=0) rfl (by rw [hkk,qgf ‹_› ‹_›]; rfl)
 have eO:ac ≠ 11:=by simpa using bN
 refine wp_skip ?_
 refine qaa ?_
 refine wp_seq ?_
 refine qac [0,1,2,3,4,5,6,7] kz ?_
 refine qaj [0,1,2,3] [4,5,6,7] [(1,.v (.int .i64 v)),(2,.v (.bool flex)),(4,.p 0 0),(7,.p 1 0),(9,.v (.bool (Fld.nul (Fld.mk ac af ag ae ah ai ab aa) v (Tree.mk n1 s2 b3 l4 u5)))),(52,.v (.bool (ac == 10)))] aj bM fun fP bJ=>?_
 refine (Bool.eq_false_or_eq_true (ac == 10)).elim (fun aA=>?_) (fun aA=>?_)
 ·
  have eP:ac = 10:=by simpa using aA
  have de:=bJ.cast (env':=[(1,.v (.int .i64 v)),(2,.v (.bool flex)),(4,.p 0 0),(7,.p 1 0),(9,.v (.bool (Fld.nul (Fld.mk ac af ag ae ah ai ab aa) v (Tree.mk n1 s2 b3 l4 u5)))),(52,.v (.bool true))]) (by rw [aA])
  refine qaj [4,5,6,7] [] [(1,.v (.int .i64 v)),(2,.v (.bool flex)),(4,.p 0 0),(7,.p 1 0),(9,.v (.bool (Fld.nul (Fld.mk ac af ag ae ah ai ab aa) v (Tree.mk n1 s2 b3 l4 u5)))),(56,.v (.bool (decide (ae ≥ 0))))] aj de fun fQ bi=>?_
  refine qad (qaa ?_)
  refine qau bi (b:=decide (ae ≥ 0)) kz (fun bj=>?_) (fun bj=>?_)
  ·
   have eQ:=of_decide_eq_true bj
   refine wp_seq ?_
   refine qar [(1,.v (.int .i64 v)),(2,.v (.bool flex)),(4,.p 0 0),(7,.p 1 0),(57,.v (.bool (Fld.nul (Fld.mk ac af ag ae ah ai ab aa) v (Tree.mk n1 s2 b3 l4 u5))))] aj bi fun fR bk=>?_
   refine qau bk (b:=Fld.nul (Fld.mk ac af ag ae ah ai ab aa) v (Tree.mk n1 s2 b3 l4 u5)) kz (fun df=>?_) (fun df=>?_)
   ·
    refine qac [0,1] kz ?_
    refine qak (qal bk (f:=69) (vs:=[.int .i64 (-1),.int .i64 1]) (d:=58) kz Tryz.call69 (qfj (-1) 1 (by first | decide | exact qbB _ | omega) _) ?_)
    rintro e_ fS ⟨bS,bT,rfl,dg,dh⟩
    refine ⟨_,rfl,fun fT di=>?_⟩
    obtain ⟨bn,eR⟩:=aj.frFresh dh (brow bS bT 5 (be 1 (-1))) (Nat.le_refl _) dg
    refine qaj [1] [] [(8,.v (.slice bS ((be 1 (-1)).length) bT))] bn di fun fU dj=>?_
    refine qad (qaa ?_)
    refine wp_ret ?_
    refine qax ?_
    refine qax ?_
    refine qaG dj bn.cells (v:=.slice bS ((be 1 (-1)).length) bT) kz ?_
    exact qaW bn (k:=0) rfl (by first | rw [qdt ‹_› ‹_›] | rw [qds ‹_› ‹_› ‹_›] | rw [qcR ‹_› ‹_› ‹_› ‹_›] | rw [qdr ‹_› ‹_› ‹_› ‹_›])
   refine wp_skip ?_
   refine qaa ?_
   refine qbF 8 kz aj fun fV eS dl dp=>?_
   refine qa4 [1,2,3,4,5] [(61,.v (.slice ay aa.length az)),(62,.v (.int .i64 v)),(63,.v (.bool flex)),(64,.v (.agg #[.int .i64 n1,.slice A6 s2.length c7,.bool b3,.slice A8 l4.length c9,.slice aK u5.length aL]))] 4 (qab (qab qah)) (fun _ h=>h.cells) dp bk fun fW dq=>?_
   refine qa2 (i:=0) kz (qal dq (f:=69) (vs:=[.int .i64 1,.int .i64 1]) (d:=59) kz Tryz.call69 (qfj 1 1 (by first | decide | exact qbB _ | omega) _) ?_)
   rintro e_ fX ⟨bz,bA,rfl,dr,dt⟩
   refine ⟨_,rfl,fun fY du=>?_⟩
   obtain ⟨au,bo⟩:=dl.frFresh dt (brow bz bA 5 (be 1 1)) (Nat.le_refl _) dr
   have dv:=TT.ofW bo au
   refine ⟨fun _=>dv,?_⟩
   refine qa2 (i:=6) kz (qal du (f:=20) (vs:=[.slice ay aa.length az,.int .i64 v,.bool flex,.agg #[.int .i64 n1,.slice A6 s2.length c7,.bool b3,.slice A8 l4.length c9,.slice aK u5.length aL]]) (d:=65) kz Tryz.call20 (hp _ _ aa v flex _ (Tree.mk n1 s2 b3 l4 u5) _ _ ⟨bw,(b8.move au.step nilM au.imm),(fun i_ x_ h_=>((dV i_ x_ h_).move au.step nilM au.imm))⟩ hd (ht.move au.step nilM au.imm) (by have h9_:=hroom; rw [qcR ‹_› ‹_› ‹_› ‹_›,List.length_append] at h9_; omega)) ?_)
   rintro e_ fZ ⟨bp,bq,rfl,dw,dx⟩
   refine ⟨_,rfl,fun f5 dy=>?_⟩
   obtain ⟨aI,bK⟩:=au.frFresh dx (brow bp bq 5 (qaK d aa v flex (Tree.mk n1 s2 b3 l4 u5))) (Nat.le_refl _) dw
   have dA:=TT.ofW (bo.trans bK) aI
   refine ⟨fun _=>dA,?_⟩
   refine qa2 (i:=7) kz (qaP aI dy (k:=0) (d:=66) (t:=22) (e:=5) (size:=1) (bytes:=1) (A:=bz) (As:=bp) (m0:=((be 1 1).length)) (c:=bA) (m:=((qaK d aa v flex (Tree.mk n1 s2 b3 l4 u5)).length)) (cs:=bq) (xs:=(bc (be 1 1))) (news:=bc (qaK d aa v flex (Tree.mk n1 s2 b3 l4 u5))) kz kz rfl (qci (aI.own 1 _ rfl) (qcQ _)) (qcy (aI.own 1 _ rfl)) (by have h9_:=hroom; rw [qcR ‹_› ‹_› ‹_› ‹_›,List.length_append] at h9_; omega) fun aC aD f7 f8 dB dC dD=>?_)
   have dE:(⟨aC,aD,5,1,(be 1 1).length + (qaK d aa v flex (Tree.mk n1 s2 b3 l4 u5)).length,bc (be 1 1) ++ bc (qaK d aa v flex (Tree.mk n1 s2 b3 l4 u5))⟩:Rw) = brow aC aD 5 (be 1 1 ++ (qaK d aa v flex (Tree.mk n1 s2 b3 l4 u5))):=qa8 (rfl) rfl
   obtain ⟨aJ,dF⟩:=dC.rowEq 0 [brow aC aD 5 (be 1 1 ++ (qaK d aa v flex (Tree.mk n1 s2 b3 l4 u5))),brow bp bq 5 (qaK d aa v flex (Tree.mk n1 s2 b3 l4 u5))] dE
   have dG:=EnvOk.pick dD (ks:=[61,62,63,64,59,65,66]) (env':=[(61,.v (.slice ay aa.length az)),(62,.v (.int .i64 v)),(63,.v (.bool flex)),(64,.v (.agg #[.int .i64 n1,.slice A6 s2.length c7,.bool b3,.slice A8 l4.length c9,.slice aK u5.length aL])),(59,.v (.slice bz ((be 1 1).length) bA)),(65,.v (.slice bp ((qaK d aa v flex (Tree.mk n1 s2 b3 l4 u5)).length) bq)),(66,.v (.slice aC ((be 1 1).length + (qaK d aa v flex (Tree.mk n1 s2 b3 l4 u5)).length) aD))]) kz
   have dH:=dG.cast (env':=[(61,.v (.slice ay aa.length az)),(62,.v (.int .i64 v)),(63,.v (.bool flex)),(64,.v (.agg #[.int .i64 n1,.slice A6 s2.length c7,.bool b3,.slice A8 l4.length c9,.slice aK u5.length aL])),(59,.v (.slice bz ((be 1 1).length) bA)),(65,.v (.slice bp ((qaK d aa v flex (Tree.mk n1 s2 b3 l4 u5)).length) bq)),(66,.v (.slice aC ((be 1 1 ++ (qaK d aa v flex (Tree.mk n1 s2 b3 l4 u5))).length) aD))]) (by simp only [List.length_append,List.length_cons,List.length_nil,Nat.zero_add])
   have dI:=TT.ofW (((bo.trans bK).trans dB).trans dF) aJ
   refine ⟨fun _=>dI,?_⟩
   refine qa2 (i:=8) kz (qco [8] aJ.cells dH (env':=[(8,.v (.slice aC ((be 1 1 ++ (qaK d aa v flex (Tree.mk n1 s2 b3 l4 u5))).length) aD))]) kz fun f9 dJ=>?_)
   refine ⟨fun h=>absurd rfl h,?_⟩
   refine qa3 kz ?_ _
   refine qaa ?_
   refine wp_ret ?_
   refine qax ?_
   refine qaG dJ aJ.cells (v:=.slice aC ((be 1 1 ++ (qaK d aa v flex (Tree.mk n1 s2 b3 l4 u5))).length) aD) kz ?_
   exact qaW aJ (k:=0) rfl (by first | rw [qdt ‹_› ‹_›] | rw [qds ‹_› ‹_› ‹_›] | rw [qcR ‹_› ‹_› ‹_› ‹_›] | rw [qdr ‹_› ‹_› ‹_› ‹_›])
  have eT:=of_decide_eq_false bj
  refine wp_skip ?_
  refine qaa ?_
  refine qac [0,1,2,3,4,5,6,7,8,9] kz ?_
  refine qaj [0,1,2,3,4,5,6,7] [8,9] [(68,.v (.int .i64 ac)),(70,.v (.slice ay aa.length az)),(71,.v (.bool (Fld.nul (Fld.mk ac af ag ae ah ai ab aa) v (Tree.mk n1 s2 b3 l4 u5)))),(72,.v (.int .i64 v)),(73,.v (.bool flex)),(74,.v (.agg #[.int .i64 n1,.slice A6 s2.length c7,.bool b3,.slice A8 l4.length c9,.slice aK u5.length aL]))] aj bi fun ga dK=>?_
  refine qak (qal dK (f:=68) (vs:=[.int .i64 ac,.slice ay aa.length az,.bool (Fld.nul (Fld.mk ac af ag ae ah ai ab aa) v (Tree.mk n1 s2 b3 l4 u5)),.int .i64 v,.bool flex,.agg #[.int .i64 n1,.slice A6 s2.length c7,.bool b3,.slice A8 l4.length c9,.slice aK u5.length aL]]) (d:=75) kz Tryz.call68 (qjk hp ac _ _ aa (Fld.nul (Fld.mk ac af ag ae ah ai ab aa) v (Tree.mk n1 s2 b3 l4 u5)) v flex _ (Tree.mk n1 s2 b3 l4 u5) _ _ ⟨bw,(b8.move aj.step nilM aj.imm),(fun i_ x_ h_=>((dV i_ x_ h_).move aj.step nilM aj.imm))⟩ hd (ht.move aj.step nilM aj.imm) (by have h_:=hroom; (first | rw [qdt ‹_› ‹_›] at h_ | rw [qds ‹_› ‹_› ‹_›] at h_); exact h_)) ?_)
  rintro e_ gb ⟨bU,bV,rfl,dL,dM⟩
  refine ⟨_,rfl,fun gc dN=>?_⟩
  obtain ⟨bt,eU⟩:=aj.frFresh dM (brow bU bV 5 (qaE (qaK d aa v flex) ac (Fld.nul (Fld.mk ac af ag ae ah ai ab aa) v (Tree.mk n1 s2 b3 l4 u5)) flex (Tree.mk n1 s2 b3 l4 u5))) (Nat.le_refl _) dL
  refine qaj [9] [] [(8,.v (.slice bU ((qaE (qaK d aa v flex) ac (Fld.nul (Fld.mk ac af ag ae ah ai ab aa) v (Tree.mk n1 s2 b3 l4 u5)) flex (Tree.mk n1 s2 b3 l4 u5)).length) bV))] bt dN fun gd dO=>?_
  refine qad (qaa ?_)
  refine wp_ret ?_
  refine qaG dO bt.cells (v:=.slice bU ((qaE (qaK d aa v flex) ac (Fld.nul (Fld.mk ac af ag ae ah ai ab aa) v (Tree.mk n1 s2 b3 l4 u5)) flex (Tree.mk n1 s2 b3 l4 u5)).length) bV) kz ?_
  exact qaW bt (k:=0) rfl (by first | rw [qdt ‹_› ‹_›] | rw [qds ‹_› ‹_› ‹_›] | rw [qcR ‹_› ‹_› ‹_› ‹_›] | rw [qdr ‹_› ‹_› ‹_› ‹_›])
 have eV:ac ≠ 10:=by simpa using aA
 have dP:=bJ.cast (env':=[(1,.v (.int .i64 v)),(2,.v (.bool flex)),(4,.p 0 0),(7,.p 1 0),(9,.v (.bool (Fld.nul (Fld.mk ac af ag ae ah ai ab aa) v (Tree.mk n1 s2 b3 l4 u5)))),(52,.v (.bool false))]) (by rw [aA])
 refine qaj [4,5,6,7] [] [(1,.v (.int .i64 v)),(2,.v (.bool flex)),(4,.p 0 0),(7,.p 1 0),(9,.v (.bool (Fld.nul (Fld.mk ac af ag ae ah ai ab aa) v (Tree.mk n1 s2 b3 l4 u5)))),(56,.v (.bool false))] aj dP fun ge bL=>?_
 refine qad (qaa ?_)
 refine qaq bL (b:=false) kz rfl ?_
 refine wp_skip ?_
 refine qaa ?_
 refine qac [0,1,2,3,4,5,6,7,8,9] kz ?_
 refine qaj [0,1,2,3,4,5,6,7] [8,9] [(68,.v (.int .i64 ac)),(70,.v (.slice ay aa.length az)),(71,.v (.bool (Fld.nul (Fld.mk ac af ag ae ah ai ab aa) v (Tree.mk n1 s2 b3 l4 u5)))),(72,.v (.int .i64 v)),(73,.v (.bool flex)),(74,.v (.agg #[.int .i64 n1,.slice A6 s2.length c7,.bool b3,.slice A8 l4.length c9,.slice aK u5.length aL]))] aj bL fun gg dQ=>?_
 refine qak (qal dQ (f:=68) (vs:=[.int .i64 ac,.slice ay aa.length az,.bool (Fld.nul (Fld.mk ac af ag ae ah ai ab aa) v (Tree.mk n1 s2 b3 l4 u5)),.int .i64 v,.bool flex,.agg #[.int .i64 n1,.slice A6 s2.length c7,.bool b3,.slice A8 l4.length c9,.slice aK u5.length aL]]) (d:=75) kz Tryz.call68 (qjk hp ac _ _ aa (Fld.nul (Fld.mk ac af ag ae ah ai ab aa) v (Tree.mk n1 s2 b3 l4 u5)) v flex _ (Tree.mk n1 s2 b3 l4 u5) _ _ ⟨bw,(b8.move aj.step nilM aj.imm),(fun i_ x_ h_=>((dV i_ x_ h_).move aj.step nilM aj.imm))⟩ hd (ht.move aj.step nilM aj.imm) (by have h_:=hroom; (first | rw [qdt ‹_› ‹_›] at h_ | rw [qds ‹_› ‹_› ‹_›] at h_); exact h_)) ?_)
 rintro e_ gh ⟨bW,bX,rfl,dR,dS⟩
 refine ⟨_,rfl,fun gi dT=>?_⟩
 obtain ⟨bu,eW⟩:=aj.frFresh dS (brow bW bX 5 (qaE (qaK d aa v flex) ac (Fld.nul (Fld.mk ac af ag ae ah ai ab aa) v (Tree.mk n1 s2 b3 l4 u5)) flex (Tree.mk n1 s2 b3 l4 u5))) (Nat.le_refl _) dR
 refine qaj [9] [] [(8,.v (.slice bW ((qaE (qaK d aa v flex) ac (Fld.nul (Fld.mk ac af ag ae ah ai ab aa) v (Tree.mk n1 s2 b3 l4 u5)) flex (Tree.mk n1 s2 b3 l4 u5)).length) bX))] bu dT fun gj dU=>?_
 refine qad (qaa ?_)
 refine wp_ret ?_
 refine qaG dU bu.cells (v:=.slice bW ((qaE (qaK d aa v flex) ac (Fld.nul (Fld.mk ac af ag ae ah ai ab aa) v (Tree.mk n1 s2 b3 l4 u5)) flex (Tree.mk n1 s2 b3 l4 u5)).length) bX) kz ?_
 exact qaW bu (k:=0) rfl (by first | rw [qdt ‹_› ‹_›] | rw [qds ‹_› ‹_› ‹_›] | rw [qcR ‹_› ‹_› ‹_› ‹_›] | rw [qdr ‹_› ‹_› ‹_› ‹_›])
theorem qhE (Af:Option Addr) (cf:Nat) (l:List Fld) (A:Option Addr) (c:Nat) (u:List (Int × Bs)) (w:World) (F:Nat → Nat → Prop) (hl:FldsR w F Af cf l) (hu:TagsR w F A c u) :
  Calls Tryz.prog 39 #[.slice Af l.length cf,.slice A u.length c] w (qkl w F (qag l u)):=by
 obtain ⟨xf,hf1,hf2⟩:=hl.ex
 obtain ⟨xu,hu1,hu2⟩:=hu.ex
 have hsmu:=hu1.small
 have hule:(u.take 32767).length ≤ 32767:=by rw [List.length_take]; omega
 refine enter (n:=85) Tryz.func39 rfl Tryz.ntmps39 kz fun a hE=>?_
 have hW:=WOk.start w Nil
 refine qar [(0,.v (.slice Af l.length cf)),(1,.v (.slice A u.length c))] hW hE fun a1 hE2=>?_
 refine qac [0,1,2] kz ?_
 refine qaj [0] [1,2] [(1,.v (.slice A u.length c)),(11,.v (.slice Af l.length cf))] hW hE2 fun a3 hE4=>?_
 refine qak (qal hE4 (f:=36) (vs:=[.slice Af l.length cf]) (d:=12) kz Tryz.call36 (qkv _ _ l _ _ ⟨xf,(hf1.move hW.step nilM hW.imm),(fun i_ x_ h_=>((hf2 i_ x_ h_).move hW.step nilM hW.imm))⟩) ?_)
 rintro e_ w6 ⟨rfl,hs5⟩
 refine ⟨_,rfl,fun a7 hE8=>?_⟩
 have hW9:=hW.next_nil hs5
 have fz:=hW.frN hs5
 refine qaj [2] [] [(1,.v (.slice A u.length c)),(5,.v (.int .u32 (qao l)))] hW9 hE8 fun hY eF=>?_
 refine qad (qaa ?_)
 refine qar [(1,.v (.slice A u.length c)),(5,.v (.int .u32 (qao l))),(6,.v (.slice none 0 0))] hW9 eF fun hZ eG=>?_
 refine wp_seq ?_
 refine qac [0,1,2,3,4,5,6] kz ?_
 refine qaj [0,1,2,3] [4,5,6] [(5,.v (.int .u32 (qao l))),(6,.v (.slice none 0 0)),(13,.v (.slice A u.length c)),(16,.v (.int .i64 (if 32767 < ((u.length:Nat):Int) then 32767 else ((u.length:Nat):Int))))] hW9 eG fun ia eH=>?_
 refine qak (qcW eH (t:=24) (A:=A) (m:=u.length) (cp:=c) (q:=(if 32767 < ((u.length:Nat):Int) then 32767 else ((u.length:Nat):Int))) (d:=17) (j:=(u.take 32767).length) kz (e:=57) (size:=2) (bytes:=32) kz (by simpa using qgG u.length) (by rw [List.length_take]; have:=hu1.le; omega) fun ib eI=>?_)
 refine qaj [5,6] [] [(5,.v (.int .u32 (qao l))),(6,.v (.slice none 0 0)),(17,.v (.slice A ((u.take 32767).length) c)),(18,.v (.int .i64 (((u.take 32767).length:Nat):Int))),(19,.v (.int .i64 0))] hW9 eI fun ic eJ=>?_
 refine qad (qaa ?_)
 refine wp_block ?_
 have cH:=hW9.addNil 57 2
 have fA:=hW9.frNil 57 2
 refine wp_loop_ghost (fun n_ a_ w_=>∃ (k:Nat) (A_:Option Addr) (c_:Nat) (out:List (Int × Bs)) (css:List (List Value)),n_ = (u.take 32767).length - k ∧ k ≤ (u.take 32767).length ∧ (TagsE w_ (Imm F w w_ [] [⟨A_,c_,57,2,out.length,css.flatten⟩]) out css) ∧ (out = ((u.take 32767).take k).foldl (qbG (qao l)) []) ∧ (out.length ≤ k) ∧ LInv cH 85 [] [⟨A_,c_,57,2,out.length,css.flatten⟩] [(5,.v (.int .u32 (qao l))),(6,.v (.slice A_ out.length c_)),(17,.v (.slice A ((u.take 32767).length) c)),(18,.v (.int .i64 (((u.take 32767).length:Nat):Int))),(19,.v (.int .i64 ((k:Nat):Int)))] a_ w_) ((u.take 32767).length) ⟨0,none,0,[],[],by omega,by omega,TagsE.nil _ _,rfl,Nat.zero_le _,eJ.pk,cH,Fr.refl _ _ _⟩ ?_
 rintro ig ii ij ⟨k,A_,c_,out,css,fB,fC,hT,hout,hlen,eK,aO,aR⟩
 refine qar [(5,.v (.int .u32 (qao l))),(6,.v (.slice A_ out.length c_)),(17,.v (.slice A ((u.take 32767).length) c)),(18,.v (.int .i64 (((u.take 32767).length:Nat):Int))),(19,.v (.int .i64 ((k:Nat):Int))),(20,.v (.bool (decide (((k:Nat):Int) < (((u.take 32767).length:Nat):Int)))))] aO eK fun ik cz=>?_
 refine wp_seq ?_
 refine qau cz (b:=decide (((k:Nat):Int) < (((u.take 32767).length:Nat):Int))) kz (fun cA=>?_) (fun cA=>?_)
 ·
  have fD:=of_decide_eq_true cA
  refine wp_skip ?_
  refine qaa ?_
  refine wp_seq ?_
  refine wp_block ?_
  refine qac [0,1,2,3] kz ?_
  obtain ⟨fE,fF,eL,fG,bF⟩:=Slots.get (qfa hu1 32767) (i:=k) (by omega)
  obtain ⟨⟨al,ax⟩,aP⟩:∃ x,(u.take 32767)[k]? = some x:=⟨_,List.getElem?_eq_getElem (by omega)⟩
  obtain ⟨⟨aI,aJ,cI,cJ⟩,fa,fb⟩:=(qfn hu2 32767) k al ax aP
  rw [cI] at bF
  refine qak (qat cz (t:=24) (A:=A) (m:=((u.take 32767).length)) (q:=((k:Nat):Int)) (d:=21) kz (e:=57) (size:=2) (bytes:=32) kz eL rfl (by omega) fun il eM=>?_)
  refine qak (qaC eM (t:=57) (b:=fE) (o:=fF + k * 2) (d:=22) kz (cs:=[.int .u32 al,.slice aI ax.length aJ]) (v:=.agg #[.int .u32 al,.slice aI ax.length aJ]) kz (AtF.move bF aO.step nilM qa0).at_ fun im eN=>?_)
  refine qak (qaY aO eN (d:=8) (cs:=[.int .u32 0,.slice none 0 0]) kz fun eO io ip fH fI ac eP eQ=>?_)
  refine qak (qaH eP eQ (oi:=0) (cs:=[.int .u32 al,.slice aI ax.length aJ]) kz fun iq ae cB eR=>?_)
  refine qad (qaa ?_)
  refine qar [(5,.v (.int .u32 (qao l))),(6,.v (.slice A_ out.length c_)),(8,.p 0 0),(9,.v (.int .i64 0)),(17,.v (.slice A ((u.take 32767).length) c)),(18,.v (.int .i64 (((u.take 32767).length:Nat):Int))),(19,.v (.int .i64 ((k:Nat):Int)))] cB eR fun ir eS=>?_
  refine wp_seq ?_
  refine wp_block ?_
  refine wp_loop_ghost (fun n_ a_ w_=>∃ (i:Nat),n_ = out.length - i ∧ (i ≤ out.length) ∧ (∀ q,q < i → (out.getD q (0,[])).1 < al) ∧ LInv cB 85 [⟨eO,0,[.int .u32 al,.slice aI ax.length aJ],true⟩] [⟨A_,c_,57,2,out.length,css.flatten⟩] [(5,.v (.int .u32 (qao l))),(6,.v (.slice A_ out.length c_)),(8,.p 0 0),(9,.v (.int .i64 ((i:Nat):Int))),(17,.v (.slice A ((u.take 32767).length) c)),(18,.v (.int .i64 (((u.take 32767).length:Nat):Int))),(19,.v (.int .i64 ((k:Nat):Int)))] a_ w_) (out.length - 0) ⟨0,rfl,Nat.zero_le _,fun q h_=>absurd h_ (Nat.not_lt_zero q),eS.pk,cB,Fr.refl _ _ _⟩ ?_
  rintro iu iv iw ⟨i,fJ,hi,hlt,eT,eU,aa⟩
  refine wp_seq ?_
  refine qb8 kz eU fun ix ab aB=>?_
  refine qa4 [0,1,2,3,4] [(5,.v (.int .u32 (qao l))),(6,.v (.slice A_ out.length c_)),(8,.p 0 0),(9,.v (.int .i64 ((i:Nat):Int))),(17,.v (.slice A ((u.take 32767).length) c)),(18,.v (.int .i64 (((u.take 32767).length:Nat):Int))),(19,.v (.int .i64 ((k:Nat):Int))),(27,.v (.bool (decide (((i:Nat):Int) < ((out.length:Nat):Int)))))] 9 (qab (qab (qab (qae (qab (qae (qab (qab (qae (qab qah)))))))))) (fun _ h=>h ▸ aB.cells) rfl eT fun iy cK=>?_
  refine (Bool.eq_false_or_eq_true (decide (((i:Nat):Int) < ((out.length:Nat):Int)))).elim (fun aN=>?_) (fun aN=>?_)
  ·
   have fK:=of_decide_eq_true aN
   have eV:=cK.cast (env':=[(5,.v (.int .u32 (qao l))),(6,.v (.slice A_ out.length c_)),(8,.p 0 0),(9,.v (.int .i64 ((i:Nat):Int))),(17,.v (.slice A ((u.take 32767).length) c)),(18,.v (.int .i64 (((u.take 32767).length:Nat):Int))),(19,.v (.int .i64 ((k:Nat):Int))),(27,.v (.bool true))]) (by rw [aN])
   refine qa4 [5,6,10,11] [(5,.v (.int .u32 (qao l))),(6,.v (.slice A_ out.length c_)),(8,.p 0 0),(9,.v (.int .i64 ((i:Nat):Int))),(17,.v (.slice A ((u.take 32767).length) c)),(18,.v (.int .i64 (((u.take 32767).length:Nat):Int))),(19,.v (.int .i64 ((k:Nat):Int))),(27,.v (.bool true)),(28,.v (.slice A_ out.length c_)),(29,.v (.int .i64 ((i:Nat):Int))),(34,.v (.int .u32 al))] 5 (qab (qab (qab (qae (qab (qae (qab (qab (qae (qab qah)))))))))) (fun _ h=>h ▸ aB.cells) rfl eV fun iz eW=>?_
   obtain ⟨eX,cL⟩:=qcr (aB.own 0 _ rfl) (show 0 < out.length by omega)
   obtain ⟨⟨eE,iA⟩,bu⟩:∃ x,out[i]? = some x:=⟨_,List.getElem?_eq_getElem (by omega)⟩
   obtain ⟨iB,iC,eY,fL,iD,iE⟩:=TagsE.get2 (hT.move (((ac.trans ae).trans aa).trans ab).step immM (((ac.trans ae).trans aa).trans ab).to') bu
   have cM:=qhj (aB.own 0 _ rfl) cL (qdy (hT.move (((ac.trans ae).trans aa).trans ab).step immM (((ac.trans ae).trans aa).trans ab).to').two eY)
   refine qbq eW (i:=7) (t:=24) (A:=A_) (m:=out.length) (q:=((i:Nat):Int)) (d:=30) kz (e:=57) (size:=2) (bytes:=32) kz (b:=eX) (o:=0) (j:=i) cL (rfl) (by omega) kz kz (qab (qab (qab (qae (qab (qae (qab (qab (qae (qab qah)))))))))) rfl fun iF eZ=>?_
   refine qa4 [8] [(5,.v (.int .u32 (qao l))),(6,.v (.slice A_ out.length c_)),(8,.p 0 0),(9,.v (.int .i64 ((i:Nat):Int))),(17,.v (.slice A ((u.take 32767).length) c)),(18,.v (.int .i64 (((u.take 32767).length:Nat):Int))),(19,.v (.int .i64 ((k:Nat):Int))),(27,.v (.bool true)),(31,.v (.pointer (some ⟨eX,0 + i * 2,none⟩))),(34,.v (.int .u32 al))] 3 (qab (qab (qab (qae (qab (qae (qab (qab (qae (qab qah)))))))))) (fun _ h=>h ▸ aB.cells) rfl eZ fun iG e9=>?_
   refine qbp e9 (i:=9) (t:=55) (b:=eX) (o:=0 + i * 2) (d:=32) kz (cs:=[.int .u32 eE]) (v:=.int .u32 eE) kz (fun w' h'=>h' ▸ (At.drop cM 0 1)) kz kz (qab (qab (qab (qae (qab (qae (qab (qab (qae (qab qah)))))))))) rfl fun fM cN=>?_
   refine qa4 [12,13] [(5,.v (.int .u32 (qao l))),(6,.v (.slice A_ out.length c_)),(8,.p 0 0),(9,.v (.int .i64 ((i:Nat):Int))),(17,.v (.slice A ((u.take 32767).length) c)),(18,.v (.int .i64 (((u.take 32767).length:Nat):Int))),(19,.v (.int .i64 ((k:Nat):Int))),(36,.v (.bool (decide (eE < al))))] 0 (qab (qab (qab (qae (qab (qae (qab (qab (qae (qab qah)))))))))) (fun _ h=>h ▸ aB.cells) rfl cN fun fN aS=>?_
   refine qa3 kz ?_ _
   refine qaa ?_
   refine qau aS (b:=decide (eE < al)) kz (fun aT=>?_) (fun aT=>?_)
   ·
    have fc:=of_decide_eq_true aT
    refine wp_skip ?_
    refine qaa ?_
    refine wp_block ?_
    refine qap [0,1,2] kz ?_
    refine qaj [0,1,2] [] [(5,.v (.int .u32 (qao l))),(6,.v (.slice A_ out.length c_)),(8,.p 0 0),(9,.v (.int .i64 (IntKind.i64.wrap (((i:Nat):Int) + 1)))),(17,.v (.slice A ((u.take 32767).length) c)),(18,.v (.int .i64 (((u.take 32767).length:Nat):Int))),(19,.v (.int .i64 ((k:Nat):Int)))] aB aS fun fO bG=>?_
    refine qad ?_
    refine qaz ?_
    refine qaa ?_
    have cO:IntKind.i64.wrap (((i:Nat):Int) + 1) = ((i + 1:Nat):Int):=qaV (by omega)
    rw [cO] at bG
    exact ⟨out.length - (i + 1),by omega,(i + 1),rfl,by omega,fun q hq=>by rcases Nat.lt_succ_iff_lt_or_eq.1 hq with h_ | h_; exact hlt q h_; rw [h_,qiP bu]; assumption,bG.pk,aB,(aa.trans ab)⟩
   have fe:=of_decide_eq_false aT
   refine wp_exit ?_
   refine qay ?_
   refine qay ?_
   refine qaM ?_
   refine qaa ?_
   refine wp_seq ?_
   refine qb8 kz aB fun fP af ap=>?_
   refine qa4 [0,1,2,3,4] [(5,.v (.int .u32 (qao l))),(6,.v (.slice A_ out.length c_)),(8,.p 0 0),(9,.v (.int .i64 ((i:Nat):Int))),(17,.v (.slice A ((u.take 32767).length) c)),(18,.v (.int .i64 (((u.take 32767).length:Nat):Int))),(19,.v (.int .i64 ((k:Nat):Int))),(43,.v (.bool (decide (al < (qao l)))))] 15 (qab (qab (qae (qab (qab (qae (qab qah))))))) (fun _ h=>h ▸ ap.cells) rfl aS fun fQ bH=>?_
   refine (Bool.eq_false_or_eq_true (decide (al < (qao l)))).elim (fun aK=>?_) (fun aK=>?_)
   ·
    have ff:=of_decide_eq_true aK
    have cP:=bH.cast (env':=[(5,.v (.int .u32 (qao l))),(6,.v (.slice A_ out.length c_)),(8,.p 0 0),(9,.v (.int .i64 ((i:Nat):Int))),(17,.v (.slice A ((u.take 32767).length) c)),(18,.v (.int .i64 (((u.take 32767).length:Nat):Int))),(19,.v (.int .i64 ((k:Nat):Int))),(43,.v (.bool true))]) (by rw [aK])
    refine qa4 [5,6,7,8,9,10,11,12,13,14,15,16,17,18,19] [(5,.v (.int .u32 (qao l))),(6,.v (.slice A_ out.length c_)),(8,.p 0 0),(9,.v (.int .i64 ((i:Nat):Int))),(17,.v (.slice A ((u.take 32767).length) c)),(18,.v (.int .i64 (((u.take 32767).length:Nat):Int))),(19,.v (.int .i64 ((k:Nat):Int))),(58,.v (.bool true))] 0 (qab (qab (qae (qab (qab (qae (qab qah))))))) (fun _ h=>h ▸ ap.cells) rfl cP fun fR bI=>?_
    refine qa3 kz ?_ _
    refine qaa ?_
    refine qbz bI (b:=true) kz rfl ?_
    refine wp_exit ?_
    refine qay ?_
    refine qaM ?_
    refine qaa ?_
    refine qap [0,1] kz ?_
    refine qaj [0,1] [] [(5,.v (.int .u32 (qao l))),(6,.v (.slice A_ out.length c_)),(17,.v (.slice A ((u.take 32767).length) c)),(18,.v (.int .i64 (((u.take 32767).length:Nat):Int))),(19,.v (.int .i64 (IntKind.i64.wrap (((k:Nat):Int) + 1))))] ap bI fun fS cQ=>?_
    refine qad (qaa ?_)
    obtain ⟨bJ,cR,aU⟩:=ap.cutB cQ 0 [] [(5,.v (.int .u32 (qao l))),(6,.v (.slice A_ out.length c_)),(17,.v (.slice A ((u.take 32767).length) c)),(18,.v (.int .i64 (((u.take 32767).length:Nat):Int))),(19,.v (.int .i64 (IntKind.i64.wrap (((k:Nat):Int) + 1))))]
    have cS:IntKind.i64.wrap (((k:Nat):Int) + 1) = ((k + 1:Nat):Int):=qaV (by omega)
    rw [cS] at bJ
    exact ⟨(u.take 32767).length - (k + 1),by omega,k + 1,A_,c_,out,css,rfl,by omega,(hT.move (((((ac.trans ae).trans aa).trans ab).trans af).trans aU).step immM (((((ac.trans ae).trans aa).trans ab).trans af).trans aU).to'),by rw [qbQ aP,← hout]; exact (qiQ ‹_›).symm,by omega,bJ.pk,cR,((((((aR.trans ac).trans ae).trans aa).trans ab).trans af).trans aU)⟩
   have fg:=of_decide_eq_false aK
   have cT:=bH.cast (env':=[(5,.v (.int .u32 (qao l))),(6,.v (.slice A_ out.length c_)),(8,.p 0 0),(9,.v (.int .i64 ((i:Nat):Int))),(17,.v (.slice A ((u.take 32767).length) c)),(18,.v (.int .i64 (((u.take 32767).length:Nat):Int))),(19,.v (.int .i64 ((k:Nat):Int))),(43,.v (.bool false))]) (by rw [aK])
   refine qa4 [5,6,7,8,9] [(5,.v (.int .u32 (qao l))),(6,.v (.slice A_ out.length c_)),(8,.p 0 0),(9,.v (.int .i64 ((i:Nat):Int))),(17,.v (.slice A ((u.take 32767).length) c)),(18,.v (.int .i64 (((u.take 32767).length:Nat):Int))),(19,.v (.int .i64 ((k:Nat):Int))),(43,.v (.bool false)),(48,.v (.bool (decide (((i:Nat):Int) < ((out.length:Nat):Int)))))] 10 (qab (qab (qae (qab (qab (qae (qab qah))))))) (fun _ h=>h ▸ ap.cells) rfl cT fun fT cU=>?_
   have cV:(decide (((i:Nat):Int) < ((out.length:Nat):Int))) = true:=aN
   have cW:=cU.cast (env':=[(5,.v (.int .u32 (qao l))),(6,.v (.slice A_ out.length c_)),(8,.p 0 0),(9,.v (.int .i64 ((i:Nat):Int))),(17,.v (.slice A ((u.take 32767).length) c)),(18,.v (.int .i64 (((u.take 32767).length:Nat):Int))),(19,.v (.int .i64 ((k:Nat):Int))),(43,.v (.bool false)),(48,.v (.bool true))]) (by rw [cV])
   refine qa4 [10,11,15,16] [(5,.v (.int .u32 (qao l))),(6,.v (.slice A_ out.length c_)),(8,.p 0 0),(9,.v (.int .i64 ((i:Nat):Int))),(17,.v (.slice A ((u.take 32767).length) c)),(18,.v (.int .i64 (((u.take 32767).length:Nat):Int))),(19,.v (.int .i64 ((k:Nat):Int))),(43,.v (.bool false)),(48,.v (.bool true)),(49,.v (.slice A_ out.length c_)),(50,.v (.int .i64 ((i:Nat):Int))),(55,.v (.int .u32 al))] 6 (qab (qab (qae (qab (qab (qae (qab qah))))))) (fun _ h=>h ▸ ap.cells) rfl cW fun fU cX=>?_
   obtain ⟨cC,bK⟩:=qcr (ap.own 0 _ rfl) (show 0 < out.length by omega)
   obtain ⟨⟨aQ,fV⟩,aL⟩:∃ x,out[i]? = some x:=⟨_,List.getElem?_eq_getElem (by omega)⟩
   obtain ⟨fW,fX,cY,fh,fY,fZ⟩:=TagsE.get2 (hT.move ((((ac.trans ae).trans aa).trans ab).trans af).step immM ((((ac.trans ae).trans aa).trans ab).trans af).to') aL
   have cD:=qhj (ap.own 0 _ rfl) bK (qdy (hT.move ((((ac.trans ae).trans aa).trans ab).trans af).step immM ((((ac.trans ae).trans aa).trans ab).trans af).to').two cY)
   refine qbq cX (i:=12) (t:=24) (A:=A_) (m:=out.length) (q:=((i:Nat):Int)) (d:=51) kz (e:=57) (size:=2) (bytes:=32) kz (b:=cC) (o:=0) (j:=i) bK (rfl) (by omega) kz kz (qab (qab (qae (qab (qab (qae (qab qah))))))) rfl fun f5 cZ=>?_
   refine qa4 [13] [(5,.v (.int .u32 (qao l))),(6,.v (.slice A_ out.length c_)),(8,.p 0 0),(9,.v (.int .i64 ((i:Nat):Int))),(17,.v (.slice A ((u.take 32767).length) c)),(18,.v (.int .i64 (((u.take 32767).length:Nat):Int))),(19,.v (.int .i64 ((k:Nat):Int))),(43,.v (.bool false)),(48,.v (.bool true)),(52,.v (.pointer (some ⟨cC,0 + i * 2,none⟩))),(55,.v (.int .u32 al))] 4 (qab (qab (qae (qab (qab (qae (qab qah))))))) (fun _ h=>h ▸ ap.cells) rfl cZ fun f7 da=>?_
   refine qbp da (i:=14) (t:=55) (b:=cC) (o:=0 + i * 2) (d:=53) kz (cs:=[.int .u32 aQ]) (v:=.int .u32 aQ) kz (fun w' h'=>h' ▸ (At.drop cD 0 1)) kz kz (qab (qab (qae (qab (qab (qae (qab qah))))))) rfl fun f8 db=>?_
   refine qa4 [17,18,19] [(5,.v (.int .u32 (qao l))),(6,.v (.slice A_ out.length c_)),(8,.p 0 0),(9,.v (.int .i64 ((i:Nat):Int))),(17,.v (.slice A ((u.take 32767).length) c)),(18,.v (.int .i64 (((u.take 32767).length:Nat):Int))),(19,.v (.int .i64 ((k:Nat):Int))),(58,.v (.bool (aQ == al)))] 0 (qab (qab (qae (qab (qab (qae (qab qah))))))) (fun _ h=>h ▸ ap.cells) rfl db fun f9 aV=>?_
   refine qa3 kz ?_ _
   refine qaa ?_
   refine qau aV (b:=aQ == al) kz (fun aW=>?_) (fun aW=>?_)
   ·
    have fi:aQ = al:=by simpa using aW
    refine wp_exit ?_
    refine qay ?_
    refine qaM ?_
    refine qaa ?_
    refine qap [0,1] kz ?_
    refine qaj [0,1] [] [(5,.v (.int .u32 (qao l))),(6,.v (.slice A_ out.length c_)),(17,.v (.slice A ((u.take 32767).length) c)),(18,.v (.int .i64 (((u.take 32767).length:Nat):Int))),(19,.v (.int .i64 (IntKind.i64.wrap (((k:Nat):Int) + 1))))] ap aV fun ga dc=>?_
    refine qad (qaa ?_)
    obtain ⟨bL,de,aX⟩:=ap.cutB dc 0 [] [(5,.v (.int .u32 (qao l))),(6,.v (.slice A_ out.length c_)),(17,.v (.slice A ((u.take 32767).length) c)),(18,.v (.int .i64 (((u.take 32767).length:Nat):Int))),(19,.v (.int .i64 (IntKind.i64.wrap (((k:Nat):Int) + 1))))]
    have df:IntKind.i64.wrap (((k:Nat):Int) + 1) = ((k + 1:Nat):Int):=qaV (by omega)
    rw [df] at bL
    exact ⟨(u.take 32767).length - (k + 1),by omega,k + 1,A_,c_,out,css,rfl,by omega,(hT.move (((((ac.trans ae).trans aa).trans ab).trans af).trans aX).step immM (((((ac.trans ae).trans aa).trans ab).trans af).trans aX).to'),by rw [qbQ aP,← hout]; exact (qjX (qe9 hi hlt (fun _=>by rw [qdz aL]; omega)) (by omega) (by rw [qdz aL]; omega)).symm,by omega,bL.pk,de,((((((aR.trans ac).trans ae).trans aa).trans ab).trans af).trans aX)⟩
   have fj:aQ ≠ al:=by simpa using aW
   refine wp_skip ?_
   refine qaa ?_
   refine qac [0,1,2,3,4] kz ?_
   refine qaj [0,1] [2,3,4] [(5,.v (.int .u32 (qao l))),(8,.p 0 0),(9,.v (.int .i64 ((i:Nat):Int))),(17,.v (.slice A ((u.take 32767).length) c)),(18,.v (.int .i64 (((u.take 32767).length:Nat):Int))),(19,.v (.int .i64 ((k:Nat):Int))),(59,.v (.slice A_ out.length c_)),(60,.v (.agg #[.int .u32 0,.slice none 0 0]))] ap aV fun gb dg=>?_
   refine qbA ap dg (k:=0) (e:=57) (size:=2) (len:=1) (cs:=[.int .u32 0,.slice none 0 0]) (d1:=61) (d:=62) kz (t:=24) (bytes:=32) kz (fun _=>by kernel_rfl) rfl kz (by omega) fun ag ai gc gd am aY ⟨_,dh⟩=>?_
   refine qaj [4] [] [(5,.v (.int .u32 (qao l))),(6,.v (.slice ag (out.length + 1) ai)),(8,.p 0 0),(9,.v (.int .i64 ((i:Nat):Int))),(17,.v (.slice A ((u.take 32767).length) c)),(18,.v (.int .i64 (((u.take 32767).length:Nat):Int))),(19,.v (.int .i64 ((k:Nat):Int)))] aY dh fun ge di=>?_
   refine qad (qaa ?_)
   refine wp_seq ?_
   refine qar [(5,.v (.int .u32 (qao l))),(6,.v (.slice ag (out.length + 1) ai)),(8,.p 0 0),(9,.v (.int .i64 ((i:Nat):Int))),(10,.v (.int .i64 (IntKind.i64.wrap (((out.length + 1:Nat):Int) - 1)))),(17,.v (.slice A ((u.take 32767).length) c)),(18,.v (.int .i64 (((u.take 32767).length:Nat):Int))),(19,.v (.int .i64 ((k:Nat):Int)))] aY di fun gg bM=>?_
   refine wp_block ?_
   have hcl0:=(hT.move (((((ac.trans ae).trans aa).trans ab).trans af).trans am).step immM (((((ac.trans ae).trans aa).trans ab).trans af).trans am).to').len
   have dj:(⟨ag,ai,57,2,out.length + 1,css.flatten ++ [.int .u32 0,.slice none 0 0]⟩:Rw) = ⟨ag,ai,57,2,out.length + 1,(qbE css [.int .u32 0,.slice none 0 0] out.length).flatten⟩:=by rw [qhq hcl0]
   obtain ⟨bN,av⟩:=aY.rowEq 0 [⟨ag,ai,57,2,out.length + 1,(qbE css [.int .u32 0,.slice none 0 0] out.length).flatten⟩] dj
   have dl:IntKind.i64.wrap (((out.length + 1:Nat):Int) - 1) = ((out.length:Nat):Int):=by rw [wrap_i64 (by omega) (by omega)]; omega
   rw [dl] at bM
   refine wp_loop_ghost (fun n_ a_ w_=>∃ (j:Nat),n_ = j ∧ (i ≤ j) ∧ (j ≤ out.length) ∧ LInv bN 85 [⟨eO,0,[.int .u32 al,.slice aI ax.length aJ],true⟩] [⟨ag,ai,57,2,out.length + 1,(qbE css [.int .u32 0,.slice none 0 0] j).flatten⟩] [(5,.v (.int .u32 (qao l))),(6,.v (.slice ag (out.length + 1) ai)),(8,.p 0 0),(9,.v (.int .i64 ((i:Nat):Int))),(10,.v (.int .i64 ((j:Nat):Int))),(17,.v (.slice A ((u.take 32767).length) c)),(18,.v (.int .i64 (((u.take 32767).length:Nat):Int))),(19,.v (.int .i64 ((k:Nat):Int)))] a_ w_) (out.length) ⟨out.length,rfl,hi,Nat.le_refl _,bM.pk,bN,Fr.refl _ _ _⟩ ?_
   rintro gh gi gj ⟨j,fk,hij,hjl,dp,ay,ar⟩
   refine wp_seq ?_
   refine qar [(5,.v (.int .u32 (qao l))),(6,.v (.slice ag (out.length + 1) ai)),(8,.p 0 0),(9,.v (.int .i64 ((i:Nat):Int))),(10,.v (.int .i64 ((j:Nat):Int))),(17,.v (.slice A ((u.take 32767).length) c)),(18,.v (.int .i64 (((u.take 32767).length:Nat):Int))),(19,.v (.int .i64 ((k:Nat):Int))),(68,.v (.bool (decide (((j:Nat):Int) > ((i:Nat):Int)))))] ay dp fun gk aZ=>?_
   refine qau aZ (b:=decide (((j:Nat):Int) > ((i:Nat):Int))) kz (fun ba=>?_) (fun ba=>?_)
   ·
    have fl:=of_decide_eq_true ba
    refine wp_skip ?_
    refine qaa ?_
    refine wp_seq ?_
    refine wp_block ?_
    refine qap [0,1,2,3,4,5,6,7,8] kz ?_
    refine qaj [0,1,2,3,4] [5,6,7,8] [(5,.v (.int .u32 (qao l))),(6,.v (.slice ag (out.length + 1) ai)),(8,.p 0 0),(9,.v (.int .i64 ((i:Nat):Int))),(10,.v (.int .i64 ((j:Nat):Int))),(17,.v (.slice A ((u.take 32767).length) c)),(18,.v (.int .i64 (((u.take 32767).length:Nat):Int))),(19,.v (.int .i64 ((k:Nat):Int))),(71,.v (.slice ag (out.length + 1) ai)),(72,.v (.int .i64 ((j:Nat):Int))),(73,.v (.slice ag (out.length + 1) ai)),(75,.v (.int .i64 (IntKind.i64.wrap (((j:Nat):Int) - 1))))] ay aZ fun gl dq=>?_
    obtain ⟨dr,bO⟩:=qcr (ay.own 0 _ rfl) (show 0 < out.length + 1 by omega)
    obtain ⟨⟨bw,bx⟩,dt⟩:∃ x,out[j - 1]? = some x:=⟨_,List.getElem?_eq_getElem (by omega)⟩
    obtain ⟨bz,bA,bP,fm,gm,gn⟩:=TagsE.get2 (hT.move (((((((ac.trans ae).trans aa).trans ab).trans af).trans am).trans av).trans ar).step immM (((((((ac.trans ae).trans aa).trans ab).trans af).trans am).trans av).trans ar).to') dt
    have cE:=qhj (ay.own 0 _ rfl) bO (qdy (qei (hT.move (((((((ac.trans ae).trans aa).trans ab).trans af).trans am).trans av).trans ar).step immM (((((((ac.trans ae).trans aa).trans ab).trans af).trans am).trans av).trans ar).to').two rfl j) (qgl (show j - 1 < j by omega) bP))
    refine qak (qat dq (t:=24) (A:=ag) (m:=(out.length + 1)) (q:=(IntKind.i64.wrap (((j:Nat):Int) - 1))) (d:=76) kz (e:=57) (size:=2) (bytes:=32) kz (b:=dr) (o:=0) (j:=(j - 1)) bO (by rw [wrap_i64 (by omega) (by omega)]; omega) (by omega) fun gp du=>?_)
    refine qak (qaC du (t:=57) (b:=dr) (o:=0 + (j - 1) * 2) (d:=77) kz (cs:=[.int .u32 bw,.slice bz bx.length bA]) (v:=.agg #[.int .u32 bw,.slice bz bx.length bA]) kz cE fun gq dv=>?_)
    obtain ⟨dw,bQ⟩:=qcr (ay.own 0 _ rfl) (show 0 < out.length + 1 by omega)
    refine qak (qat dv (t:=24) (A:=ag) (m:=(out.length + 1)) (q:=((j:Nat):Int)) (d:=78) kz (e:=57) (size:=2) (bytes:=32) kz (b:=dw) (o:=0) (j:=j) bQ (rfl) (by omega) fun gt dx=>?_)
    refine qak (qcY ay dx (k:=0) (g:=dw) (o:=j * 2) (c:=ai) (m:=(out.length + 1)) (size:=2) (e:=57) (A:=ag) (xs:=((qbE css [.int .u32 0,.slice none 0 0] j).flatten)) (vs:=[.int .u32 bw,.slice bz bx.length bA]) kz rfl bQ (by simp only [List.length_cons,List.length_nil]; omega) fun gu bd bR dy=>?_)
    refine qad ?_
    refine qaz ?_
    refine qaa ?_
    refine qap [0,1,2] kz ?_
    refine qaj [0,1,2] [] [(5,.v (.int .u32 (qao l))),(6,.v (.slice ag (out.length + 1) ai)),(8,.p 0 0),(9,.v (.int .i64 ((i:Nat):Int))),(10,.v (.int .i64 (IntKind.i64.wrap (((j:Nat):Int) - 1)))),(17,.v (.slice A ((u.take 32767).length) c)),(18,.v (.int .i64 (((u.take 32767).length:Nat):Int))),(19,.v (.int .i64 ((k:Nat):Int)))] bR dy fun gv bS=>?_
    refine qad (qaa ?_)
    have dA:(⟨ag,ai,57,2,out.length + 1,qbi ((qbE css [.int .u32 0,.slice none 0 0] j).flatten) (j * 2) [.int .u32 bw,.slice bz bx.length bA]⟩:Rw) = ⟨ag,ai,57,2,out.length + 1,(qbE css [.int .u32 0,.slice none 0 0] (j - 1)).flatten⟩:=by rw [qgm (hT.move ((((((((ac.trans ae).trans aa).trans ab).trans af).trans am).trans av).trans ar).trans bd).step immM ((((((((ac.trans ae).trans aa).trans ab).trans af).trans am).trans av).trans ar).trans bd).to').two rfl (by omega) (by omega) bP]
    obtain ⟨dB,dC⟩:=bR.rowEq 0 [⟨ag,ai,57,2,out.length + 1,(qbE css [.int .u32 0,.slice none 0 0] (j - 1)).flatten⟩] dA
    have dD:IntKind.i64.wrap (((j:Nat):Int) - 1) = ((j - 1:Nat):Int):=by rw [wrap_i64 (by omega) (by omega)]; omega
    rw [dD] at bS
    exact ⟨(j - 1),by omega,(j - 1),rfl,by omega,by omega,bS.pk,dB,((ar.trans bd).trans dC)⟩
   have fo:=of_decide_eq_false ba
   refine wp_exit ?_
   refine qay ?_
   refine qay ?_
   refine qaM ?_
   refine qaa ?_
   refine qap [0,1,2,3,4] kz ?_
   refine qaj [0,1,2] [3,4] [(5,.v (.int .u32 (qao l))),(6,.v (.slice ag (out.length + 1) ai)),(17,.v (.slice A ((u.take 32767).length) c)),(18,.v (.int .i64 (((u.take 32767).length:Nat):Int))),(19,.v (.int .i64 ((k:Nat):Int))),(79,.v (.slice ag (out.length + 1) ai)),(80,.v (.int .i64 ((i:Nat):Int))),(81,.v (.agg #[.int .u32 al,.slice aI ax.length aJ]))] ay aZ fun gw dE=>?_
   have hji:j = i:=by omega
   have dF:(⟨ag,ai,57,2,out.length + 1,(qbE css [.int .u32 0,.slice none 0 0] j).flatten⟩:Rw) = ⟨ag,ai,57,2,out.length + 1,(qbE css [.int .u32 0,.slice none 0 0] i).flatten⟩:=by rw [hji]
   obtain ⟨bT,aC⟩:=ay.rowEq 0 [⟨ag,ai,57,2,out.length + 1,(qbE css [.int .u32 0,.slice none 0 0] i).flatten⟩] dF
   obtain ⟨dG,bU⟩:=qcr (bT.own 0 _ rfl) (show 0 < out.length + 1 by omega)
   refine qak (qat dE (t:=24) (A:=ag) (m:=(out.length + 1)) (q:=((i:Nat):Int)) (d:=82) kz (e:=57) (size:=2) (bytes:=32) kz (b:=dG) (o:=0) (j:=i) bU (rfl) (by omega) fun gx dH=>?_)
   refine qak (qcY bT dH (k:=0) (g:=dG) (o:=i * 2) (c:=ai) (m:=(out.length + 1)) (size:=2) (e:=57) (A:=ag) (xs:=((qbE css [.int .u32 0,.slice none 0 0] i).flatten)) (vs:=[.int .u32 al,.slice aI ax.length aJ]) kz rfl bU (by simp only [List.length_cons,List.length_nil]; omega) fun gy aD bV dI=>?_)
   refine qad ?_
   refine qaz ?_
   refine qaa ?_
   refine qap [0,1] kz ?_
   refine qaj [0,1] [] [(5,.v (.int .u32 (qao l))),(6,.v (.slice ag (out.length + 1) ai)),(17,.v (.slice A ((u.take 32767).length) c)),(18,.v (.int .i64 (((u.take 32767).length:Nat):Int))),(19,.v (.int .i64 (IntKind.i64.wrap (((k:Nat):Int) + 1))))] bV dI fun gz dJ=>?_
   refine qad (qaa ?_)
   obtain ⟨bf,dK,aE⟩:=bV.cutB dJ 0 [] [(5,.v (.int .u32 (qao l))),(6,.v (.slice ag (out.length + 1) ai)),(17,.v (.slice A ((u.take 32767).length) c)),(18,.v (.int .i64 (((u.take 32767).length:Nat):Int))),(19,.v (.int .i64 (IntKind.i64.wrap (((k:Nat):Int) + 1))))]
   have hcl:=(hT.move ((((((((((ac.trans ae).trans aa).trans ab).trans af).trans am).trans av).trans ar).trans aC).trans aD).trans aE).step immM ((((((((((ac.trans ae).trans aa).trans ab).trans af).trans am).trans av).trans ar).trans aC).trans aD).trans aE).to').len
   have dL:(⟨ag,ai,57,2,out.length + 1,qbi ((qbE css [.int .u32 0,.slice none 0 0] i).flatten) (i * 2) [.int .u32 al,.slice aI ax.length aJ]⟩:Rw) = ⟨ag,ai,57,2,(out.take i ++ (al,ax) :: out.drop i).length,(css.take i ++ [.int .u32 al,.slice aI ax.length aJ] :: css.drop i).flatten⟩:=by rw [qgn (hT.move ((((((((((ac.trans ae).trans aa).trans ab).trans af).trans am).trans av).trans ar).trans aC).trans aD).trans aE).step immM ((((((((((ac.trans ae).trans aa).trans ab).trans af).trans am).trans av).trans ar).trans aC).trans aD).trans aE).to').two rfl (by omega) rfl,qcu (al,ax) hi]
   obtain ⟨bg,bh⟩:=dK.rowEq 0 [⟨ag,ai,57,2,(out.take i ++ (al,ax) :: out.drop i).length,(css.take i ++ [.int .u32 al,.slice aI ax.length aJ] :: css.drop i).flatten⟩] dL
   have dM:IntKind.i64.wrap (((k:Nat):Int) + 1) = ((k + 1:Nat):Int):=qaV (by omega)
   rw [dM] at bf
   have dN:out.length + 1 = (out.take i ++ (al,ax) :: out.drop i).length:=qcu (al,ax) hi
   rw [dN] at bf
   exact ⟨(u.take 32767).length - (k + 1),by omega,k + 1,ag,ai,(out.take i ++ (al,ax) :: out.drop i),(css.take i ++ [.int .u32 al,.slice aI ax.length aJ] :: css.drop i),rfl,by omega,(hT.move (((((((((((ac.trans ae).trans aa).trans ab).trans af).trans am).trans av).trans ar).trans aC).trans aD).trans aE).trans bh).step immM (((((((((((ac.trans ae).trans aa).trans ab).trans af).trans am).trans av).trans ar).trans aC).trans aD).trans aE).trans bh).to').ins ⟨⟨aI,aJ,rfl,(cJ.move bg.step nilM bg.imm)⟩,fa,fb⟩ hi,by rw [qbQ aP,← hout]; exact (qiR (qe9 hi hlt (fun _=>by first | (rw [qdz bu]; omega) | (rw [qdz aL]; omega))) ‹_› (fun _=>by first | (rw [qdz bu]; omega) | (rw [qdz aL]; omega))).symm,by rw [← qcu (al,ax) hi]; omega,bf.pk,bg,((((((((((((aR.trans ac).trans ae).trans aa).trans ab).trans af).trans am).trans av).trans ar).trans aC).trans aD).trans aE).trans bh)⟩
  have fq:=of_decide_eq_false aN
  have dO:=cK.cast (env':=[(5,.v (.int .u32 (qao l))),(6,.v (.slice A_ out.length c_)),(8,.p 0 0),(9,.v (.int .i64 ((i:Nat):Int))),(17,.v (.slice A ((u.take 32767).length) c)),(18,.v (.int .i64 (((u.take 32767).length:Nat):Int))),(19,.v (.int .i64 ((k:Nat):Int))),(27,.v (.bool false))]) (by rw [aN])
  refine qa4 [5,6,7,8,9,10,11,12,13] [(5,.v (.int .u32 (qao l))),(6,.v (.slice A_ out.length c_)),(8,.p 0 0),(9,.v (.int .i64 ((i:Nat):Int))),(17,.v (.slice A ((u.take 32767).length) c)),(18,.v (.int .i64 (((u.take 32767).length:Nat):Int))),(19,.v (.int .i64 ((k:Nat):Int))),(36,.v (.bool false))] 0 (qab (qab (qab (qae (qab (qae (qab (qab (qae (qab qah)))))))))) (fun _ h=>h ▸ aB.cells) rfl dO fun gA bW=>?_
  refine qa3 kz ?_ _
  refine qaa ?_
  refine qaq bW (b:=false) kz rfl ?_
  refine wp_exit ?_
  refine qay ?_
  refine qay ?_
  refine qaM ?_
  refine qaa ?_
  refine wp_seq ?_
  refine qb8 kz aB fun gB ak az=>?_
  refine qa4 [0,1,2,3,4] [(5,.v (.int .u32 (qao l))),(6,.v (.slice A_ out.length c_)),(8,.p 0 0),(9,.v (.int .i64 ((i:Nat):Int))),(17,.v (.slice A ((u.take 32767).length) c)),(18,.v (.int .i64 (((u.take 32767).length:Nat):Int))),(19,.v (.int .i64 ((k:Nat):Int))),(43,.v (.bool (decide (al < (qao l)))))] 15 (qab (qab (qae (qab (qab (qae (qab qah))))))) (fun _ h=>h ▸ az.cells) rfl bW fun gC bX=>?_
  refine (Bool.eq_false_or_eq_true (decide (al < (qao l)))).elim (fun aM=>?_) (fun aM=>?_)
  ·
   have fr:=of_decide_eq_true aM
   have dP:=bX.cast (env':=[(5,.v (.int .u32 (qao l))),(6,.v (.slice A_ out.length c_)),(8,.p 0 0),(9,.v (.int .i64 ((i:Nat):Int))),(17,.v (.slice A ((u.take 32767).length) c)),(18,.v (.int .i64 (((u.take 32767).length:Nat):Int))),(19,.v (.int .i64 ((k:Nat):Int))),(43,.v (.bool true))]) (by rw [aM])
   refine qa4 [5,6,7,8,9,10,11,12,13,14,15,16,17,18,19] [(5,.v (.int .u32 (qao l))),(6,.v (.slice A_ out.length c_)),(8,.p 0 0),(9,.v (.int .i64 ((i:Nat):Int))),(17,.v (.slice A ((u.take 32767).length) c)),(18,.v (.int .i64 (((u.take 32767).length:Nat):Int))),(19,.v (.int .i64 ((k:Nat):Int))),(58,.v (.bool true))] 0 (qab (qab (qae (qab (qab (qae (qab qah))))))) (fun _ h=>h ▸ az.cells) rfl dP fun gD bY=>?_
   refine qa3 kz ?_ _
   refine qaa ?_
   refine qbz bY (b:=true) kz rfl ?_
   refine wp_exit ?_
   refine qay ?_
   refine qaM ?_
   refine qaa ?_
   refine qap [0,1] kz ?_
   refine qaj [0,1] [] [(5,.v (.int .u32 (qao l))),(6,.v (.slice A_ out.length c_)),(17,.v (.slice A ((u.take 32767).length) c)),(18,.v (.int .i64 (((u.take 32767).length:Nat):Int))),(19,.v (.int .i64 (IntKind.i64.wrap (((k:Nat):Int) + 1))))] az bY fun gE dQ=>?_
   refine qad (qaa ?_)
   obtain ⟨bZ,dR,bi⟩:=az.cutB dQ 0 [] [(5,.v (.int .u32 (qao l))),(6,.v (.slice A_ out.length c_)),(17,.v (.slice A ((u.take 32767).length) c)),(18,.v (.int .i64 (((u.take 32767).length:Nat):Int))),(19,.v (.int .i64 (IntKind.i64.wrap (((k:Nat):Int) + 1))))]
   have dS:IntKind.i64.wrap (((k:Nat):Int) + 1) = ((k + 1:Nat):Int):=qaV (by omega)
   rw [dS] at bZ
   exact ⟨(u.take 32767).length - (k + 1),by omega,k + 1,A_,c_,out,css,rfl,by omega,(hT.move (((((ac.trans ae).trans aa).trans ab).trans ak).trans bi).step immM (((((ac.trans ae).trans aa).trans ab).trans ak).trans bi).to'),by rw [qbQ aP,← hout]; exact (qiQ ‹_›).symm,by omega,bZ.pk,dR,((((((aR.trans ac).trans ae).trans aa).trans ab).trans ak).trans bi)⟩
  have ft:=of_decide_eq_false aM
  have dT:=bX.cast (env':=[(5,.v (.int .u32 (qao l))),(6,.v (.slice A_ out.length c_)),(8,.p 0 0),(9,.v (.int .i64 ((i:Nat):Int))),(17,.v (.slice A ((u.take 32767).length) c)),(18,.v (.int .i64 (((u.take 32767).length:Nat):Int))),(19,.v (.int .i64 ((k:Nat):Int))),(43,.v (.bool false))]) (by rw [aM])
  refine qa4 [5,6,7,8,9] [(5,.v (.int .u32 (qao l))),(6,.v (.slice A_ out.length c_)),(8,.p 0 0),(9,.v (.int .i64 ((i:Nat):Int))),(17,.v (.slice A ((u.take 32767).length) c)),(18,.v (.int .i64 (((u.take 32767).length:Nat):Int))),(19,.v (.int .i64 ((k:Nat):Int))),(43,.v (.bool false)),(48,.v (.bool (decide (((i:Nat):Int) < ((out.length:Nat):Int)))))] 10 (qab (qab (qae (qab (qab (qae (qab qah))))))) (fun _ h=>h ▸ az.cells) rfl dT fun gF dU=>?_
  have dV:(decide (((i:Nat):Int) < ((out.length:Nat):Int))) = false:=aN
  have dW:=dU.cast (env':=[(5,.v (.int .u32 (qao l))),(6,.v (.slice A_ out.length c_)),(8,.p 0 0),(9,.v (.int .i64 ((i:Nat):Int))),(17,.v (.slice A ((u.take 32767).length) c)),(18,.v (.int .i64 (((u.take 32767).length:Nat):Int))),(19,.v (.int .i64 ((k:Nat):Int))),(43,.v (.bool false)),(48,.v (.bool false))]) (by rw [dV])
  refine qa4 [10,11,12,13,14,15,16,17,18,19] [(5,.v (.int .u32 (qao l))),(6,.v (.slice A_ out.length c_)),(8,.p 0 0),(9,.v (.int .i64 ((i:Nat):Int))),(17,.v (.slice A ((u.take 32767).length) c)),(18,.v (.int .i64 (((u.take 32767).length:Nat):Int))),(19,.v (.int .i64 ((k:Nat):Int))),(58,.v (.bool false))] 0 (qab (qab (qae (qab (qab (qae (qab qah))))))) (fun _ h=>h ▸ az.cells) rfl dW fun gG b8=>?_
  refine qa3 kz ?_ _
  refine qaa ?_
  refine qaq b8 (b:=false) kz rfl ?_
  refine wp_skip ?_
  refine qaa ?_
  refine qac [0,1,2,3,4] kz ?_
  refine qaj [0,1] [2,3,4] [(5,.v (.int .u32 (qao l))),(8,.p 0 0),(9,.v (.int .i64 ((i:Nat):Int))),(17,.v (.slice A ((u.take 32767).length) c)),(18,.v (.int .i64 (((u.take 32767).length:Nat):Int))),(19,.v (.int .i64 ((k:Nat):Int))),(59,.v (.slice A_ out.length c_)),(60,.v (.agg #[.int .u32 0,.slice none 0 0]))] az b8 fun gH dX=>?_
  refine qbA az dX (k:=0) (e:=57) (size:=2) (len:=1) (cs:=[.int .u32 0,.slice none 0 0]) (d1:=61) (d:=62) kz (t:=24) (bytes:=32) kz (fun _=>by kernel_rfl) rfl kz (by omega) fun ah aj gI gJ ao bj ⟨_,dY⟩=>?_
  refine qaj [4] [] [(5,.v (.int .u32 (qao l))),(6,.v (.slice ah (out.length + 1) aj)),(8,.p 0 0),(9,.v (.int .i64 ((i:Nat):Int))),(17,.v (.slice A ((u.take 32767).length) c)),(18,.v (.int .i64 (((u.take 32767).length:Nat):Int))),(19,.v (.int .i64 ((k:Nat):Int)))] bj dY fun gK dZ=>?_
  refine qad (qaa ?_)
  refine wp_seq ?_
  refine qar [(5,.v (.int .u32 (qao l))),(6,.v (.slice ah (out.length + 1) aj)),(8,.p 0 0),(9,.v (.int .i64 ((i:Nat):Int))),(10,.v (.int .i64 (IntKind.i64.wrap (((out.length + 1:Nat):Int) - 1)))),(17,.v (.slice A ((u.take 32767).length) c)),(18,.v (.int .i64 (((u.take 32767).length:Nat):Int))),(19,.v (.int .i64 ((k:Nat):Int)))] bj dZ fun gL cd=>?_
  refine wp_block ?_
  have hcl0:=(hT.move (((((ac.trans ae).trans aa).trans ab).trans ak).trans ao).step immM (((((ac.trans ae).trans aa).trans ab).trans ak).trans ao).to').len
  have d5:(⟨ah,aj,57,2,out.length + 1,css.flatten ++ [.int .u32 0,.slice none 0 0]⟩:Rw) = ⟨ah,aj,57,2,out.length + 1,(qbE css [.int .u32 0,.slice none 0 0] out.length).flatten⟩:=by rw [qhq hcl0]
  obtain ⟨ce,aw⟩:=bj.rowEq 0 [⟨ah,aj,57,2,out.length + 1,(qbE css [.int .u32 0,.slice none 0 0] out.length).flatten⟩] d5
  have d6:IntKind.i64.wrap (((out.length + 1:Nat):Int) - 1) = ((out.length:Nat):Int):=by rw [wrap_i64 (by omega) (by omega)]; omega
  rw [d6] at cd
  refine wp_loop_ghost (fun n_ a_ w_=>∃ (j:Nat),n_ = j ∧ (i ≤ j) ∧ (j ≤ out.length) ∧ LInv ce 85 [⟨eO,0,[.int .u32 al,.slice aI ax.length aJ],true⟩] [⟨ah,aj,57,2,out.length + 1,(qbE css [.int .u32 0,.slice none 0 0] j).flatten⟩] [(5,.v (.int .u32 (qao l))),(6,.v (.slice ah (out.length + 1) aj)),(8,.p 0 0),(9,.v (.int .i64 ((i:Nat):Int))),(10,.v (.int .i64 ((j:Nat):Int))),(17,.v (.slice A ((u.take 32767).length) c)),(18,.v (.int .i64 (((u.take 32767).length:Nat):Int))),(19,.v (.int .i64 ((k:Nat):Int)))] a_ w_) (out.length) ⟨out.length,rfl,hi,Nat.le_refl _,cd.pk,ce,Fr.refl _ _ _⟩ ?_
  rintro gM gN gO ⟨j,fu,hij,hjl,d7,aA,au⟩
  refine wp_seq ?_
  refine qar [(5,.v (.int .u32 (qao l))),(6,.v (.slice ah (out.length + 1) aj)),(8,.p 0 0),(9,.v (.int .i64 ((i:Nat):Int))),(10,.v (.int .i64 ((j:Nat):Int))),(17,.v (.slice A ((u.take 32767).length) c)),(18,.v (.int .i64 (((u.take 32767).length:Nat):Int))),(19,.v (.int .i64 ((k:Nat):Int))),(68,.v (.bool (decide (((j:Nat):Int) > ((i:Nat):Int)))))] aA d7 fun gP bk=>?_
  refine qau bk (b:=decide (((j:Nat):Int) > ((i:Nat):Int))) kz (fun bn=>?_) (fun bn=>?_)
  ·
   have fv:=of_decide_eq_true bn
   refine wp_skip ?_
   refine qaa ?_
   refine wp_seq ?_
   refine wp_block ?_
   refine qap [0,1,2,3,4,5,6,7,8] kz ?_
   refine qaj [0,1,2,3,4] [5,6,7,8] [(5,.v (.int .u32 (qao l))),(6,.v (.slice ah (out.length + 1) aj)),(8,.p 0 0),(9,.v (.int .i64 ((i:Nat):Int))),(10,.v (.int .i64 ((j:Nat):Int))),(17,.v (.slice A ((u.take 32767).length) c)),(18,.v (.int .i64 (((u.take 32767).length:Nat):Int))),(19,.v (.int .i64 ((k:Nat):Int))),(71,.v (.slice ah (out.length + 1) aj)),(72,.v (.int .i64 ((j:Nat):Int))),(73,.v (.slice ah (out.length + 1) aj)),(75,.v (.int .i64 (IntKind.i64.wrap (((j:Nat):Int) - 1))))] aA bk fun gQ d8=>?_
   obtain ⟨d9,cg⟩:=qcr (aA.own 0 _ rfl) (show 0 < out.length + 1 by omega)
   obtain ⟨⟨bB,bC⟩,ea⟩:∃ x,out[j - 1]? = some x:=⟨_,List.getElem?_eq_getElem (by omega)⟩
   obtain ⟨bD,bE,cm,fw,gR,gS⟩:=TagsE.get2 (hT.move (((((((ac.trans ae).trans aa).trans ab).trans ak).trans ao).trans aw).trans au).step immM (((((((ac.trans ae).trans aa).trans ab).trans ak).trans ao).trans aw).trans au).to') ea
   have cG:=qhj (aA.own 0 _ rfl) cg (qdy (qei (hT.move (((((((ac.trans ae).trans aa).trans ab).trans ak).trans ao).trans aw).trans au).step immM (((((((ac.trans ae).trans aa).trans ab).trans ak).trans ao).trans aw).trans au).to').two rfl j) (qgl (show j - 1 < j by omega) cm))
   refine qak (qat d8 (t:=24) (A:=ah) (m:=(out.length + 1)) (q:=(IntKind.i64.wrap (((j:Nat):Int) - 1))) (d:=76) kz (e:=57) (size:=2) (bytes:=32) kz (b:=d9) (o:=0) (j:=(j - 1)) cg (by rw [wrap_i64 (by omega) (by omega)]; omega) (by omega) fun gT eb=>?_)
   refine qak (qaC eb (t:=57) (b:=d9) (o:=0 + (j - 1) * 2) (d:=77) kz (cs:=[.int .u32 bB,.slice bD bC.length bE]) (v:=.agg #[.int .u32 bB,.slice bD bC.length bE]) kz cG fun gU ec=>?_)
   obtain ⟨ee,cq⟩:=qcr (aA.own 0 _ rfl) (show 0 < out.length + 1 by omega)
   refine qak (qat ec (t:=24) (A:=ah) (m:=(out.length + 1)) (q:=((j:Nat):Int)) (d:=78) kz (e:=57) (size:=2) (bytes:=32) kz (b:=ee) (o:=0) (j:=j) cq (rfl) (by omega) fun gV ef=>?_)
   refine qak (qcY aA ef (k:=0) (g:=ee) (o:=j * 2) (c:=aj) (m:=(out.length + 1)) (size:=2) (e:=57) (A:=ah) (xs:=((qbE css [.int .u32 0,.slice none 0 0] j).flatten)) (vs:=[.int .u32 bB,.slice bD bC.length bE]) kz rfl cq (by simp only [List.length_cons,List.length_nil]; omega) fun gW bo cr eg=>?_)
   refine qad ?_
   refine qaz ?_
   refine qaa ?_
   refine qap [0,1,2] kz ?_
   refine qaj [0,1,2] [] [(5,.v (.int .u32 (qao l))),(6,.v (.slice ah (out.length + 1) aj)),(8,.p 0 0),(9,.v (.int .i64 ((i:Nat):Int))),(10,.v (.int .i64 (IntKind.i64.wrap (((j:Nat):Int) - 1)))),(17,.v (.slice A ((u.take 32767).length) c)),(18,.v (.int .i64 (((u.take 32767).length:Nat):Int))),(19,.v (.int .i64 ((k:Nat):Int)))] cr eg fun gX cu=>?_
   refine qad (qaa ?_)
   have eh:(⟨ah,aj,57,2,out.length + 1,qbi ((qbE css [.int .u32 0,.slice none 0 0] j).flatten) (j * 2) [.int .u32 bB,.slice bD bC.length bE]⟩:Rw) = ⟨ah,aj,57,2,out.length + 1,(qbE css [.int .u32 0,.slice none 0 0] (j - 1)).flatten⟩:=by rw [qgm (hT.move ((((((((ac.trans ae).trans aa).trans ab).trans ak).trans ao).trans aw).trans au).trans bo).step immM ((((((((ac.trans ae).trans aa).trans ab).trans ak).trans ao).trans aw).trans au).trans bo).to').two rfl (by omega) (by omega) cm]
   obtain ⟨ei,ej⟩:=cr.rowEq 0 [⟨ah,aj,57,2,out.length + 1,(qbE css [.int .u32 0,.slice none 0 0] (j - 1)).flatten⟩] eh
   have ek:IntKind.i64.wrap (((j:Nat):Int) - 1) = ((j - 1:Nat):Int):=by rw [wrap_i64 (by omega) (by omega)]; omega
   rw [ek] at cu
   exact ⟨(j - 1),by omega,(j - 1),rfl,by omega,by omega,cu.pk,ei,((au.trans bo).trans ej)⟩
  have fx:=of_decide_eq_false bn
  refine wp_exit ?_
  refine qay ?_
  refine qay ?_
  refine qaM ?_
  refine qaa ?_
  refine qap [0,1,2,3,4] kz ?_
  refine qaj [0,1,2] [3,4] [(5,.v (.int .u32 (qao l))),(6,.v (.slice ah (out.length + 1) aj)),(17,.v (.slice A ((u.take 32767).length) c)),(18,.v (.int .i64 (((u.take 32767).length:Nat):Int))),(19,.v (.int .i64 ((k:Nat):Int))),(79,.v (.slice ah (out.length + 1) aj)),(80,.v (.int .i64 ((i:Nat):Int))),(81,.v (.agg #[.int .u32 al,.slice aI ax.length aJ]))] aA bk fun gY em=>?_
  have hji:j = i:=by omega
  have eo:(⟨ah,aj,57,2,out.length + 1,(qbE css [.int .u32 0,.slice none 0 0] j).flatten⟩:Rw) = ⟨ah,aj,57,2,out.length + 1,(qbE css [.int .u32 0,.slice none 0 0] i).flatten⟩:=by rw [hji]
  obtain ⟨cv,aF⟩:=aA.rowEq 0 [⟨ah,aj,57,2,out.length + 1,(qbE css [.int .u32 0,.slice none 0 0] i).flatten⟩] eo
  obtain ⟨ep,cw⟩:=qcr (cv.own 0 _ rfl) (show 0 < out.length + 1 by omega)
  refine qak (qat em (t:=24) (A:=ah) (m:=(out.length + 1)) (q:=((i:Nat):Int)) (d:=82) kz (e:=57) (size:=2) (bytes:=32) kz (b:=ep) (o:=0) (j:=i) cw (rfl) (by omega) fun gZ eu=>?_)
  refine qak (qcY cv eu (k:=0) (g:=ep) (o:=i * 2) (c:=aj) (m:=(out.length + 1)) (size:=2) (e:=57) (A:=ah) (xs:=((qbE css [.int .u32 0,.slice none 0 0] i).flatten)) (vs:=[.int .u32 al,.slice aI ax.length aJ]) kz rfl cw (by simp only [List.length_cons,List.length_nil]; omega) fun hC aG cy ev=>?_)
  refine qad ?_
  refine qaz ?_
  refine qaa ?_
  refine qap [0,1] kz ?_
  refine qaj [0,1] [] [(5,.v (.int .u32 (qao l))),(6,.v (.slice ah (out.length + 1) aj)),(17,.v (.slice A ((u.take 32767).length) c)),(18,.v (.int .i64 (((u.take 32767).length:Nat):Int))),(19,.v (.int .i64 (IntKind.i64.wrap (((k:Nat):Int) + 1))))] cy ev fun hJ ew=>?_
  refine qad (qaa ?_)
  obtain ⟨bp,ey,aH⟩:=cy.cutB ew 0 [] [(5,.v (.int .u32 (qao l))),(6,.v (.slice ah (out.length + 1) aj)),(17,.v (.slice A ((u.take 32767).length) c)),(18,.v (.int .i64 (((u.take 32767).length:Nat):Int))),(19,.v (.int .i64 (IntKind.i64.wrap (((k:Nat):Int) + 1))))]
  have hcl:=(hT.move ((((((((((ac.trans ae).trans aa).trans ab).trans ak).trans ao).trans aw).trans au).trans aF).trans aG).trans aH).step immM ((((((((((ac.trans ae).trans aa).trans ab).trans ak).trans ao).trans aw).trans au).trans aF).trans aG).trans aH).to').len
  have ez:(⟨ah,aj,57,2,out.length + 1,qbi ((qbE css [.int .u32 0,.slice none 0 0] i).flatten) (i * 2) [.int .u32 al,.slice aI ax.length aJ]⟩:Rw) = ⟨ah,aj,57,2,(out.take i ++ (al,ax) :: out.drop i).length,(css.take i ++ [.int .u32 al,.slice aI ax.length aJ] :: css.drop i).flatten⟩:=by rw [qgn (hT.move ((((((((((ac.trans ae).trans aa).trans ab).trans ak).trans ao).trans aw).trans au).trans aF).trans aG).trans aH).step immM ((((((((((ac.trans ae).trans aa).trans ab).trans ak).trans ao).trans aw).trans au).trans aF).trans aG).trans aH).to').two rfl (by omega) rfl,qcu (al,ax) hi]
  obtain ⟨bq,bt⟩:=ey.rowEq 0 [⟨ah,aj,57,2,(out.take i ++ (al,ax) :: out.drop i).length,(css.take i ++ [.int .u32 al,.slice aI ax.length aJ] :: css.drop i).flatten⟩] ez
  have eB:IntKind.i64.wrap (((k:Nat):Int) + 1) = ((k + 1:Nat):Int):=qaV (by omega)
  rw [eB] at bp
  have eC:out.length + 1 = (out.take i ++ (al,ax) :: out.drop i).length:=qcu (al,ax) hi
  rw [eC] at bp
  exact ⟨(u.take 32767).length - (k + 1),by omega,k + 1,ah,aj,(out.take i ++ (al,ax) :: out.drop i),(css.take i ++ [.int .u32 al,.slice aI ax.length aJ] :: css.drop i),rfl,by omega,(hT.move (((((((((((ac.trans ae).trans aa).trans ab).trans ak).trans ao).trans aw).trans au).trans aF).trans aG).trans aH).trans bt).step immM (((((((((((ac.trans ae).trans aa).trans ab).trans ak).trans ao).trans aw).trans au).trans aF).trans aG).trans aH).trans bt).to').ins ⟨⟨aI,aJ,rfl,(cJ.move bq.step nilM bq.imm)⟩,fa,fb⟩ hi,by rw [qbQ aP,← hout]; exact (qiR (qe9 hi hlt (fun h_=>absurd h_ (by omega))) ‹_› (fun h_=>absurd h_ (by omega))).symm,by rw [← qcu (al,ax) hi]; omega,bp.pk,bq,((((((((((((aR.trans ac).trans ae).trans aa).trans ab).trans ak).trans ao).trans aw).trans au).trans aF).trans aG).trans aH).trans bt)⟩
 have fy:=of_decide_eq_false cA
 refine wp_exit ?_
 refine qay ?_
 refine qay ?_
 refine qaM ?_
 refine qaa ?_
 refine qar [(4,.v (.slice A_ out.length c_))] aO cz fun hK eD=>?_
 refine wp_ret ?_
 refine qaG eD aO.cells (v:=.slice A_ out.length c_) kz ?_
 exact qgX aO (k:=0) rfl rfl rfl hT (by omega) (by rw [hout,List.take_of_length_le (by omega)]; rfl)
def qjl (d:Nat):Prop:=∀ (cf:List Value) (f:Fld) (ct:List Value) (t:Tree) (w:World) (F:Nat → Nat → Prop),FldR w F cf f → f.depth ≤ d → TreeR w F ct t →
  Calls Tryz.prog 37 #[.agg cf.toArray,.agg ct.toArray] w (qcp w (.bool (f.usual t)))
theorem qg4 {d:Nat} (hu:qjl d) (cf:List Value) (f:Fld) (ct:List Value) (t:Tree) (w:World) (F:Nat → Nat → Prop) (hf:FldR w F cf f) (hd:f.depth ≤ d + 1) (ht:TreeR w F ct t) :
  Calls Tryz.prog 37 #[.agg cf.toArray,.agg ct.toArray] w (qcp w (.bool (f.usual t))):=by
 obtain ⟨k1,y2,y3,y4,y5,y6,y7,l8,A9,aA,dD,rfl,rfl,dE,em⟩:=hf.open_
 have eo:=dE.small
 obtain ⟨af,ab,aC,aK,aB,ah,ai,bS,bT,bt,bu,fc,rfl,rfl,ep,fe,gH,ff⟩:=ht.open_
 have eu:=ep.small
 have ev:=fe.small
 refine enter (n:=91) Tryz.func37 rfl Tryz.ntmps37 kz fun a hE=>?_
 have hW:=WOk.start w Nil
 refine qac [0,1,2] kz ?_
 refine qak (qbs hW hE (d:=2) (cs:=[.int .i64 k1,.int .i64 y2,.int .i64 y3,.int .i64 y4,.int .i64 y5,.int .i64 y6,.int .i64 y7,.slice A9 l8.length aA]) kz fun dF gI gJ fg fh fi dG dH=>?_)
 refine qak (qbs dG dH (d:=3) (cs:=[.int .i64 af,.slice ah ab.length ai,.bool aC,.slice bS aK.length bT,.slice bt aB.length bu]) kz fun dI gK gL fj fk fl aa dJ=>?_)
 refine qaj [2] [] [(2,.p 0 0),(3,.p 1 0)] aa dJ fun gM dK=>?_
 refine qad (qaa ?_)
 refine wp_seq ?_
 refine qar [(2,.p 0 0),(3,.p 1 0),(10,.v (.int .i64 k1))] aa dK fun gN dL=>?_
 refine wp_block ?_
 refine qar [(2,.p 0 0),(3,.p 1 0),(10,.v (.int .i64 k1)),(11,.v (.bool (k1 == 0)))] aa dL fun gO bM=>?_
 refine qau bM (b:=k1 == 0) kz (fun bN=>?_) (fun bN=>?_)
 ·
  have fm:k1 = 0:=by simpa using bN
  refine qar [(4,.v (.bool ((IntKind.i64.wrap (BitVec.ofInt 64 af &&& BitVec.ofInt 64 1).toNat) == y6)))] aa bM fun gP dM=>?_
  refine wp_ret ?_
  refine qaL ?_
  refine qax ?_
  refine qaG dM aa.cells (v:=.bool ((IntKind.i64.wrap (BitVec.ofInt 64 af &&& BitVec.ofInt 64 1).toNat) == y6)) kz ?_
  refine ⟨congrArg (fun b_=>Ending.returned (Value.bool b_)) ?_,aa.step⟩
  first
   | (rw [qcB ‹_›]; simp only [and1]; done)
   | (rw [qbu ‹_› ‹_›]; exact qbr hz (by omega); done)
   | (rw [qbu ‹_› ‹_›]; exact qbd (k:=k) (by omega) (by omega) ‹_›; done)
   | (rw [qbR ‹_› ‹_› (by omega) ‹_›]; done)
   | (rw [qcc ‹_› ‹_› (by omega) ‹_›]; done)
   | (rw [qcd ‹_› ‹_› ‹_› ‹_› ‹_›]; done)
   | (rw [qb3 ‹_› ‹_› ‹_› ‹_› ‹_› ‹_›,huu,qbD (by omega),Bool.true_and]; done)
   | (rw [qbC ‹_› ‹_› ‹_› ‹_› ‹_› ‹_›]; done)
 have fo:k1 ≠ 0:=by simpa using bN
 refine qar [(2,.p 0 0),(3,.p 1 0),(10,.v (.int .i64 k1)),(19,.v (.bool (k1 == 7)))] aa bM fun gQ bO=>?_
 refine qau bO (b:=k1 == 7) kz (fun bP=>?_) (fun bP=>?_)
 ·
  have fq:k1 = 7:=by simpa using bP
  refine wp_seq ?_
  refine qar [(22,.v (.slice ah ab.length ai)),(23,.v (.int .i64 ((ab.length:Nat):Int))),(24,.v (.int .i64 0))] aa bO fun gR dN=>?_
  refine wp_block ?_
  refine wp_loop_ghost (fun n_ a_ w_=>∃ (k:Nat),n_ = ab.length - k ∧ k ≤ ab.length ∧ (∀ q,q < k → q < 16 → (((ab.getD q 0).toNat:Nat):Int) = 0) ∧ LInv aa 91 [⟨dF,0,[.int .i64 k1,.int .i64 y2,.int .i64 y3,.int .i64 y4,.int .i64 y5,.int .i64 y6,.int .i64 y7,.slice A9 l8.length aA],true⟩,⟨dI,0,[.int .i64 af,.slice ah ab.length ai,.bool aC,.slice bS aK.length bT,.slice bt aB.length bu],true⟩] [] [(22,.v (.slice ah ab.length ai)),(23,.v (.int .i64 ((ab.length:Nat):Int))),(24,.v (.int .i64 ((k:Nat):Int)))] a_ w_) (ab.length) ⟨0,by omega,by omega,fun q h_=>absurd h_ (Nat.not_lt_zero q),dN.pk,aa,Fr.refl _ _ _⟩ ?_
  rintro gS gT gU ⟨k,fr,ft,hz,dO,ae,bU⟩
  refine qar [(22,.v (.slice ah ab.length ai)),(23,.v (.int .i64 ((ab.length:Nat):Int))),(24,.v (.int .i64 ((k:Nat):Int))),(25,.v (.bool (decide (((k:Nat):Int) < ((ab.length:Nat):Int)))))] ae dO fun gV bQ=>?_
  refine wp_seq ?_
  refine qau bQ (b:=decide (((k:Nat):Int) < ((ab.length:Nat):Int))) kz (fun bR=>?_) (fun bR=>?_)
  ·
   have fu:=of_decide_eq_true bR
   refine wp_skip ?_
   refine qaa ?_
   refine wp_seq ?_
   refine wp_block ?_
   refine qac [0,1,2,3,4] kz ?_
   refine qaj [0] [1,2,3,4] [(22,.v (.slice ah ab.length ai)),(23,.v (.int .i64 ((ab.length:Nat):Int))),(24,.v (.int .i64 ((k:Nat):Int))),(26,.v (.int .i64 ((k:Nat):Int)))] ae bQ fun gW dP=>?_
   obtain ⟨fv,fw,dQ,fx,bV⟩:=Slots.get ep (i:=k) (by omega)
   refine qak (qat dP (t:=22) (A:=ah) (m:=ab.length) (q:=((k:Nat):Int)) (d:=27) kz (e:=5) (size:=1) (bytes:=1) kz dQ rfl (by omega) fun gX dR=>?_)
   refine qak (qaC dR (t:=5) (b:=fv) (o:=fw + k * 1) (d:=28) kz (cs:=[.int .u8 ((ab.getD k 0).toNat:Int)]) (v:=.int .u8 ((ab.getD k 0).toNat:Int)) kz (AtF.move bV ae.step nilM qa0).at_ fun gY dS=>?_)
   refine qaj [3,4] [] [(5,.v (.int .i64 ((k:Nat):Int))),(6,.v (.int .u8 ((ab.getD k 0).toNat:Int))),(22,.v (.slice ah ab.length ai)),(23,.v (.int .i64 ((ab.length:Nat):Int))),(24,.v (.int .i64 ((k:Nat):Int)))] ae dS fun gZ dT=>?_
   refine qad (qaa ?_)
   refine qac [0,1,2,3,4,5] kz ?_
   refine qaj [0,1,2] [3,4,5] [(6,.v (.int .u8 ((ab.getD k 0).toNat:Int))),(22,.v (.slice ah ab.length ai)),(23,.v (.int .i64 ((ab.length:Nat):Int))),(24,.v (.int .i64 ((k:Nat):Int))),(31,.v (.bool (decide (((k:Nat):Int) < 16))))] ae dT fun hC bW=>?_
   refine (Bool.eq_false_or_eq_true (decide (((k:Nat):Int) < 16))).elim (fun aL=>?_) (fun aL=>?_)
   ·
    have fy:=of_decide_eq_true aL
    have dU:=bW.cast (env':=[(6,.v (.int .u8 ((ab.getD k 0).toNat:Int))),(22,.v (.slice ah ab.length ai)),(23,.v (.int .i64 ((ab.length:Nat):Int))),(24,.v (.int .i64 ((k:Nat):Int))),(31,.v (.bool true))]) (by rw [aL])
    refine qaj [3,4,5] [] [(22,.v (.slice ah ab.length ai)),(23,.v (.int .i64 ((ab.length:Nat):Int))),(24,.v (.int .i64 ((k:Nat):Int))),(34,.v (.bool (((ab.getD k 0).toNat:Int) != 0)))] ae dU fun hJ aM=>?_
    refine qad (qaa ?_)
    refine qau aM (b:=((ab.getD k 0).toNat:Int) != 0) kz (fun aN=>?_) (fun aN=>?_)
    ·
     have ew:((ab.getD k 0).toNat:Int) ≠ 0:=by simpa using aN
     refine qar [(4,.v (.bool false))] ae aM fun fz bX=>?_
     refine wp_ret ?_
     refine qaL ?_
     refine qax ?_
     refine qax ?_
     refine qaL ?_
     refine qax ?_
     refine qaL ?_
     refine qax ?_
     refine qaG bX ae.cells (v:=.bool false) kz ?_
     refine ⟨congrArg (fun b_=>Ending.returned (Value.bool b_)) ?_,ae.step⟩
     first
      | (rw [qcB ‹_›]; simp only [and1]; done)
      | (rw [qbu ‹_› ‹_›]; exact qbr hz (by omega); done)
      | (rw [qbu ‹_› ‹_›]; exact qbd (k:=k) (by omega) (by omega) ‹_›; done)
      | (rw [qbR ‹_› ‹_› (by omega) ‹_›]; done)
      | (rw [qcc ‹_› ‹_› (by omega) ‹_›]; done)
      | (rw [qcd ‹_› ‹_› ‹_› ‹_› ‹_›]; done)
      | (rw [qb3 ‹_› ‹_› ‹_› ‹_› ‹_› ‹_›,huu,qbD (by omega),Bool.true_and]; done)
      | (rw [qbC ‹_› ‹_› ‹_› ‹_› ‹_› ‹_›]; done)
    have ey:((ab.getD k 0).toNat:Int) = 0:=by simpa using aN
    refine wp_skip ?_
    refine qaz ?_
    refine qaa ?_
    refine qap [0,1] kz ?_
    refine qaj [0,1] [] [(22,.v (.slice ah ab.length ai)),(23,.v (.int .i64 ((ab.length:Nat):Int))),(24,.v (.int .i64 (IntKind.i64.wrap (((k:Nat):Int) + 1))))] ae aM fun fA bw=>?_
    refine qad (qaa ?_)
    have bY:IntKind.i64.wrap (((k:Nat):Int) + 1) = ((k + 1:Nat):Int):=qaV (by omega)
    rw [bY] at bw
    exact ⟨ab.length - (k + 1),by omega,k + 1,rfl,by omega,fun q hq bZ=>by rcases Nat.lt_succ_iff_lt_or_eq.1 hq with h_ | h_; exact hz q h_ bZ; rw [h_] at bZ ⊢; first | assumption | omega,bw.pk,ae,bU⟩
   have ez:=of_decide_eq_false aL
   have b8:=bW.cast (env':=[(6,.v (.int .u8 ((ab.getD k 0).toNat:Int))),(22,.v (.slice ah ab.length ai)),(23,.v (.int .i64 ((ab.length:Nat):Int))),(24,.v (.int .i64 ((k:Nat):Int))),(31,.v (.bool false))]) (by rw [aL])
   refine qaj [3,4,5] [] [(22,.v (.slice ah ab.length ai)),(23,.v (.int .i64 ((ab.length:Nat):Int))),(24,.v (.int .i64 ((k:Nat):Int))),(34,.v (.bool false))] ae b8 fun fB bx=>?_
   refine qad (qaa ?_)
   refine qaq bx (b:=false) kz rfl ?_
   refine wp_skip ?_
   refine qaz ?_
   refine qaa ?_
   refine qap [0,1] kz ?_
   refine qaj [0,1] [] [(22,.v (.slice ah ab.length ai)),(23,.v (.int .i64 ((ab.length:Nat):Int))),(24,.v (.int .i64 (IntKind.i64.wrap (((k:Nat):Int) + 1))))] ae bx fun fC bz=>?_
   refine qad (qaa ?_)
   have cd:IntKind.i64.wrap (((k:Nat):Int) + 1) = ((k + 1:Nat):Int):=qaV (by omega)
   rw [cd] at bz
   exact ⟨ab.length - (k + 1),by omega,k + 1,rfl,by omega,fun q hq bZ=>by rcases Nat.lt_succ_iff_lt_or_eq.1 hq with h_ | h_; exact hz q h_ bZ; rw [h_] at bZ ⊢; first | assumption | omega,bz.pk,ae,bU⟩
  have eB:=of_decide_eq_false bR
  refine wp_exit ?_
  refine qay ?_
  refine qay ?_
  refine qaM ?_
  refine qaa ?_
  refine qar [(4,.v (.bool true))] ae bQ fun fD ce=>?_
  refine wp_ret ?_
  refine qaL ?_
  refine qax ?_
  refine qaG ce ae.cells (v:=.bool true) kz ?_
  refine ⟨congrArg (fun b_=>Ending.returned (Value.bool b_)) ?_,ae.step⟩
  first
   | (rw [qcB ‹_›]; simp only [and1]; done)
   | (rw [qbu ‹_› ‹_›]; exact qbr hz (by omega); done)
   | (rw [qbu ‹_› ‹_›]; exact qbd (k:=k) (by omega) (by omega) ‹_›; done)
   | (rw [qbR ‹_› ‹_› (by omega) ‹_›]; done)
   | (rw [qcc ‹_› ‹_› (by omega) ‹_›]; done)
   | (rw [qcd ‹_› ‹_› ‹_› ‹_› ‹_›]; done)
   | (rw [qb3 ‹_› ‹_› ‹_› ‹_› ‹_› ‹_›,huu,qbD (by omega),Bool.true_and]; done)
   | (rw [qbC ‹_› ‹_› ‹_› ‹_› ‹_› ‹_›]; done)
 have eC:k1 ≠ 7:=by simpa using bP
 refine wp_seq ?_
 refine qar [(2,.p 0 0),(3,.p 1 0),(10,.v (.int .i64 k1)),(36,.v (.bool (k1 == 8)))] aa bO fun fE aD=>?_
 refine qau aD (b:=k1 == 8) kz (fun aE=>?_) (fun aE=>?_)
 ·
  have eD:k1 = 8:=by simpa using aE
  refine wp_skip ?_
  refine qaa ?_
  refine qbz aD (b:=k1 == 8) kz (aE) ?_
  refine wp_seq ?_
  refine qar [(3,.p 1 0),(41,.v (.bool (decide (y4 ≥ 0))))] aa aD fun fF aO=>?_
  refine qau aO (b:=decide (y4 ≥ 0)) kz (fun aP=>?_) (fun aP=>?_)
  ·
   have eE:=of_decide_eq_true aP
   refine qar [(4,.v (.bool aC))] aa aO fun fG cg=>?_
   refine wp_ret ?_
   refine qax ?_
   refine qaL ?_
   refine qax ?_
   refine qaG cg aa.cells (v:=.bool aC) kz ?_
   refine ⟨congrArg (fun b_=>Ending.returned (Value.bool b_)) ?_,aa.step⟩
   first
    | (rw [qcB ‹_›]; simp only [and1]; done)
    | (rw [qbu ‹_› ‹_›]; exact qbr hz (by omega); done)
    | (rw [qbu ‹_› ‹_›]; exact qbd (k:=k) (by omega) (by omega) ‹_›; done)
    | (rw [qbR ‹_› ‹_› (by omega) ‹_›]; done)
    | (rw [qcc ‹_› ‹_› (by omega) ‹_›]; done)
    | (rw [qcd ‹_› ‹_› ‹_› ‹_› ‹_›]; done)
    | (rw [qb3 ‹_› ‹_› ‹_› ‹_› ‹_› ‹_›,huu,qbD (by omega),Bool.true_and]; done)
    | (rw [qbC ‹_› ‹_› ‹_› ‹_› ‹_› ‹_›]; done)
  have eF:=of_decide_eq_false aP
  refine wp_skip ?_
  refine qaa ?_
  refine qar [(4,.v (.bool (((ab.length:Nat):Int) == 0)))] aa aO fun fH cm=>?_
  refine wp_ret ?_
  refine qaL ?_
  refine qax ?_
  refine qaG cm aa.cells (v:=.bool (((ab.length:Nat):Int) == 0)) kz ?_
  refine ⟨congrArg (fun b_=>Ending.returned (Value.bool b_)) ?_,aa.step⟩
  first
   | (rw [qcB ‹_›]; simp only [and1]; done)
   | (rw [qbu ‹_› ‹_›]; exact qbr hz (by omega); done)
   | (rw [qbu ‹_› ‹_›]; exact qbd (k:=k) (by omega) (by omega) ‹_›; done)
   | (rw [qbR ‹_› ‹_› (by omega) ‹_›]; done)
   | (rw [qcc ‹_› ‹_› (by omega) ‹_›]; done)
   | (rw [qcd ‹_› ‹_› ‹_› ‹_› ‹_›]; done)
   | (rw [qb3 ‹_› ‹_› ‹_› ‹_› ‹_› ‹_›,huu,qbD (by omega),Bool.true_and]; done)
   | (rw [qbC ‹_› ‹_› ‹_› ‹_› ‹_› ‹_›]; done)
 have eG:k1 ≠ 8:=by simpa using aE
 refine qap [0,1] kz ?_
 refine qaj [0,1] [] [(2,.p 0 0),(3,.p 1 0),(10,.v (.int .i64 k1)),(36,.v (.bool (k1 == 9)))] aa aD fun fI aQ=>?_
 refine qad (qaa ?_)
 refine qau aQ (b:=k1 == 9) kz (fun aR=>?_) (fun aR=>?_)
 ·
  have eH:k1 = 9:=by simpa using aR
  refine wp_seq ?_
  refine qar [(3,.p 1 0),(41,.v (.bool (decide (y4 ≥ 0))))] aa aQ fun fJ aS=>?_
  refine qau aS (b:=decide (y4 ≥ 0)) kz (fun aT=>?_) (fun aT=>?_)
  ·
   have eI:=of_decide_eq_true aT
   refine qar [(4,.v (.bool aC))] aa aS fun fK cq=>?_
   refine wp_ret ?_
   refine qax ?_
   refine qaL ?_
   refine qax ?_
   refine qaG cq aa.cells (v:=.bool aC) kz ?_
   refine ⟨congrArg (fun b_=>Ending.returned (Value.bool b_)) ?_,aa.step⟩
   first
    | (rw [qcB ‹_›]; simp only [and1]; done)
    | (rw [qbu ‹_› ‹_›]; exact qbr hz (by omega); done)
    | (rw [qbu ‹_› ‹_›]; exact qbd (k:=k) (by omega) (by omega) ‹_›; done)
    | (rw [qbR ‹_› ‹_› (by omega) ‹_›]; done)
    | (rw [qcc ‹_› ‹_› (by omega) ‹_›]; done)
    | (rw [qcd ‹_› ‹_› ‹_› ‹_› ‹_›]; done)
    | (rw [qb3 ‹_› ‹_› ‹_› ‹_› ‹_› ‹_›,huu,qbD (by omega),Bool.true_and]; done)
    | (rw [qbC ‹_› ‹_› ‹_› ‹_› ‹_› ‹_›]; done)
  have eJ:=of_decide_eq_false aT
  refine wp_skip ?_
  refine qaa ?_
  refine qar [(4,.v (.bool (((ab.length:Nat):Int) == 0)))] aa aS fun fL cr=>?_
  refine wp_ret ?_
  refine qaL ?_
  refine qax ?_
  refine qaG cr aa.cells (v:=.bool (((ab.length:Nat):Int) == 0)) kz ?_
  refine ⟨congrArg (fun b_=>Ending.returned (Value.bool b_)) ?_,aa.step⟩
  first
   | (rw [qcB ‹_›]; simp only [and1]; done)
   | (rw [qbu ‹_› ‹_›]; exact qbr hz (by omega); done)
   | (rw [qbu ‹_› ‹_›]; exact qbd (k:=k) (by omega) (by omega) ‹_›; done)
   | (rw [qbR ‹_› ‹_› (by omega) ‹_›]; done)
   | (rw [qcc ‹_› ‹_› (by omega) ‹_›]; done)
   | (rw [qcd ‹_› ‹_› ‹_› ‹_› ‹_›]; done)
   | (rw [qb3 ‹_› ‹_› ‹_› ‹_› ‹_› ‹_›,huu,qbD (by omega),Bool.true_and]; done)
   | (rw [qbC ‹_› ‹_› ‹_› ‹_› ‹_› ‹_›]; done)
 have eK:k1 ≠ 9:=by simpa using aR
 refine qar [(2,.p 0 0),(3,.p 1 0),(10,.v (.int .i64 k1)),(48,.v (.bool (k1 == 11)))] aa aQ fun fM aU=>?_
 refine qau aU (b:=k1 == 11) kz (fun aV=>?_) (fun aV=>?_)
 ·
  have eL:k1 = 11:=by simpa using aV
  refine qar [(4,.v (.bool (((aK.length:Nat):Int) == 0)))] aa aU fun fN cu=>?_
  refine wp_ret ?_
  refine qaL ?_
  refine qax ?_
  refine qaG cu aa.cells (v:=.bool (((aK.length:Nat):Int) == 0)) kz ?_
  refine ⟨congrArg (fun b_=>Ending.returned (Value.bool b_)) ?_,aa.step⟩
  first
   | (rw [qcB ‹_›]; simp only [and1]; done)
   | (rw [qbu ‹_› ‹_›]; exact qbr hz (by omega); done)
   | (rw [qbu ‹_› ‹_›]; exact qbd (k:=k) (by omega) (by omega) ‹_›; done)
   | (rw [qbR ‹_› ‹_› (by omega) ‹_›]; done)
   | (rw [qcc ‹_› ‹_› (by omega) ‹_›]; done)
   | (rw [qcd ‹_› ‹_› ‹_› ‹_› ‹_›]; done)
   | (rw [qb3 ‹_› ‹_› ‹_› ‹_› ‹_› ‹_›,huu,qbD (by omega),Bool.true_and]; done)
   | (rw [qbC ‹_› ‹_› ‹_› ‹_› ‹_› ‹_›]; done)
 have eM:k1 ≠ 11:=by simpa using aV
 refine qar [(2,.p 0 0),(3,.p 1 0),(54,.v (.bool (k1 == 10)))] aa aU fun fO aW=>?_
 refine qau aW (b:=k1 == 10) kz (fun aX=>?_) (fun aX=>?_)
 ·
  have eN:k1 = 10:=by simpa using aX
  refine wp_seq ?_
  refine qar [(2,.p 0 0),(3,.p 1 0),(57,.v (.slice A9 l8.length aA)),(58,.v (.int .i64 ((l8.length:Nat):Int))),(59,.v (.int .i64 0))] aa aW fun fP cv=>?_
  refine wp_block ?_
  refine wp_loop_ghost (fun n_ a_ w_=>∃ (k:Nat),n_ = l8.length - k ∧ k ≤ l8.length ∧ (usuals l8 (Tree.mk af ab aC aK aB) 0 = usuals (l8.drop k) (Tree.mk af ab aC aK aB) k) ∧ LInv aa 91 [⟨dF,0,[.int .i64 k1,.int .i64 y2,.int .i64 y3,.int .i64 y4,.int .i64 y5,.int .i64 y6,.int .i64 y7,.slice A9 l8.length aA],true⟩,⟨dI,0,[.int .i64 af,.slice ah ab.length ai,.bool aC,.slice bS aK.length bT,.slice bt aB.length bu],true⟩] [] [(2,.p 0 0),(3,.p 1 0),(57,.v (.slice A9 l8.length aA)),(58,.v (.int .i64 ((l8.length:Nat):Int))),(59,.v (.int .i64 ((k:Nat):Int)))] a_ w_) (l8.length) ⟨0,by omega,by omega,rfl,cv.pk,aa,Fr.refl _ _ _⟩ ?_
  rintro fQ fR fS ⟨k,eO,eP,huu,cw,ac,cy⟩
  refine qar [(2,.p 0 0),(3,.p 1 0),(57,.v (.slice A9 l8.length aA)),(58,.v (.int .i64 ((l8.length:Nat):Int))),(59,.v (.int .i64 ((k:Nat):Int))),(60,.v (.bool (decide (((k:Nat):Int) < ((l8.length:Nat):Int)))))] ac cw fun fT aY=>?_
  refine wp_seq ?_
  refine qau aY (b:=decide (((k:Nat):Int) < ((l8.length:Nat):Int))) kz (fun aZ=>?_) (fun aZ=>?_)
  ·
   have eQ:=of_decide_eq_true aZ
   refine wp_skip ?_
   refine qaa ?_
   refine wp_seq ?_
   refine wp_block ?_
   refine qac [0,1,2,3,4,5] kz ?_
   refine qaj [0] [1,2,3,4,5] [(2,.p 0 0),(3,.p 1 0),(57,.v (.slice A9 l8.length aA)),(58,.v (.int .i64 ((l8.length:Nat):Int))),(59,.v (.int .i64 ((k:Nat):Int))),(61,.v (.int .i64 ((k:Nat):Int)))] ac aY fun fU cz=>?_
   obtain ⟨dV,dW,cA,eR,ba⟩:=Slots.get dE (i:=k) (by omega)
   obtain ⟨dX,aF⟩:∃ x,l8[k]? = some x:=⟨_,List.getElem?_eq_getElem (by omega)⟩
   have bd:=em k dX aF
   obtain ⟨aj,ak,al,am,ao,ap,ar,au,aI,aJ,eS,rfl,bf,dY,fV⟩:=bd.open_
   rw [bf] at bd
   have dZ:=dY.small
   rw [bf] at ba
   refine qak (qat cz (t:=29) (A:=A9) (m:=l8.length) (q:=((k:Nat):Int)) (d:=62) kz (e:=46) (size:=8) (bytes:=80) kz cA rfl (by omega) fun fW cB=>?_)
   refine qak (qaC cB (t:=46) (b:=dV) (o:=dW + k * 8) (d:=63) kz (cs:=[.int .i64 aj,.int .i64 ak,.int .i64 al,.int .i64 am,.int .i64 ao,.int .i64 ap,.int .i64 ar,.slice aI au.length aJ]) (v:=.agg #[.int .i64 aj,.int .i64 ak,.int .i64 al,.int .i64 am,.int .i64 ao,.int .i64 ap,.int .i64 ar,.slice aI au.length aJ]) kz (AtF.move ba ac.step nilM qa0).at_ fun fX cC=>?_)
   refine qak (qaY ac cC (d:=8) (cs:=[.int .i64 0,.int .i64 0,.int .i64 0,.int .i64 0,.int .i64 0,.int .i64 0,.int .i64 0,.slice none 0 0]) kz fun fY fZ f5 eT eU cD bA cE=>?_)
   refine qaj [4] [5] [(2,.p 0 0),(3,.p 1 0),(7,.v (.int .i64 ((k:Nat):Int))),(8,.p 2 0),(57,.v (.slice A9 l8.length aA)),(58,.v (.int .i64 ((l8.length:Nat):Int))),(59,.v (.int .i64 ((k:Nat):Int))),(63,.v (.agg #[.int .i64 aj,.int .i64 ak,.int .i64 al,.int .i64 am,.int .i64 ao,.int .i64 ap,.int .i64 ar,.slice aI au.length aJ]))] bA cE fun f7 cG=>?_
   refine qak (qaH bA cG (oi:=2) (cs:=[.int .i64 aj,.int .i64 ak,.int .i64 al,.int .i64 am,.int .i64 ao,.int .i64 ap,.int .i64 ar,.slice aI au.length aJ]) kz fun f8 cH cI cJ=>?_)
   refine qad (qaa ?_)
   refine qbF 6 kz cI fun f9 cK av cL=>?_
   refine qa4 [0,1,2] [(2,.p 0 0),(3,.p 1 0),(57,.v (.slice A9 l8.length aA)),(58,.v (.int .i64 ((l8.length:Nat):Int))),(59,.v (.int .i64 ((k:Nat):Int))),(64,.v (.agg #[.int .i64 aj,.int .i64 ak,.int .i64 al,.int .i64 am,.int .i64 ao,.int .i64 ap,.int .i64 ar,.slice aI au.length aJ])),(65,.v (.agg #[.int .i64 af,.slice ah ab.length ai,.bool aC,.slice bS aK.length bT,.slice bt aB.length bu])),(66,.v (.int .i64 ((k:Nat):Int)))] 3 (qab (qae (qab (qab (qae (qab (qae (qab qah)))))))) (fun _ h=>h.cells) cL cJ fun ga cM=>?_
   refine qa2 (i:=3) kz (qal cM (f:=35) (vs:=[.agg #[.int .i64 af,.slice ah ab.length ai,.bool aC,.slice bS aK.length bT,.slice bt aB.length bu],.int .i64 ((k:Nat):Int)]) (d:=67) kz Tryz.call35 (sAt _ _ k _ _ (ht.move av.step nilM av.imm)) ?_)
   rintro e_ gb ⟨eV,rfl,cN,aw⟩
   have bg:=cN.move aw nilM (fun b o h_ hb_=>av.laid (G:=F) aw b o (.inl h_) (Nat.lt_of_lt_of_le hb_ aw.size))
   obtain ⟨d5,d6,d7,d8,d9,ea,eb,ec,ee,ef,eg,eW,eX,bh,eh,ei,gc,gd⟩:=bg.open_
   rw [bh] at bg
   have ej:=eh.small
   have ek:=ei.small
   rw [bh]
   refine ⟨_,rfl,fun ge cO=>?_⟩
   have ax:=av.next_nil aw
   have bi:=av.frN aw
   have cP:=TT.ofW bi ax
   refine ⟨fun _=>cP,?_⟩
   refine qa2 (i:=4) kz (qal cO (f:=37) (vs:=[.agg #[.int .i64 aj,.int .i64 ak,.int .i64 al,.int .i64 am,.int .i64 ao,.int .i64 ap,.int .i64 ar,.slice aI au.length aJ],.agg #[.int .i64 d5,.slice ea d6.length eb,.bool d7,.slice ec d8.length ee,.slice ef d9.length eg]]) (d:=68) kz Tryz.call37 ( hu _ _ _ _ _ _ (bd.move ax.step nilM ax.imm) (by have h_:=qdA aF; rw [qeQ] at hd; omega) bg) ?_)
   rintro e_ gg ⟨rfl,bB⟩
   refine ⟨_,rfl,fun gh cQ=>?_⟩
   have ag:=ax.next_nil bB
   have bC:=ax.frN bB
   have bD:=TT.ofW (bi.trans bC) ag
   refine ⟨fun _=>bD,?_⟩
   refine qa4 [5] [(2,.p 0 0),(3,.p 1 0),(57,.v (.slice A9 l8.length aA)),(58,.v (.int .i64 ((l8.length:Nat):Int))),(59,.v (.int .i64 ((k:Nat):Int))),(69,.v (.bool (!(Fld.usual (Fld.mk aj ak al am ao ap ar au) (Tree.at_ (Tree.mk af ab aC aK aB) k)))))] 0 (qab (qae (qab (qab (qae (qab (qae (qab qah)))))))) (fun _ h=>h.cells) bD cQ fun gi bj=>?_
   refine qa3 kz ?_ _
   refine qaa ?_
   refine qau bj (b:=!(Fld.usual (Fld.mk aj ak al am ao ap ar au) (Tree.at_ (Tree.mk af ab aC aK aB) k))) kz (fun bk=>?_) (fun bk=>?_)
   ·
    refine qar [(4,.v (.bool false))] ag bj fun gj cR=>?_
    refine wp_ret ?_
    refine qaL ?_
    refine qax ?_
    refine qax ?_
    refine qaL ?_
    refine qax ?_
    refine qaL ?_
    refine qax ?_
    refine qaG cR ag.cells (v:=.bool false) kz ?_
    refine ⟨congrArg (fun b_=>Ending.returned (Value.bool b_)) ?_,ag.step⟩
    first
     | (rw [qcB ‹_›]; simp only [and1]; done)
     | (rw [qbu ‹_› ‹_›]; exact qbr hz (by omega); done)
     | (rw [qbu ‹_› ‹_›]; exact qbd (k:=k) (by omega) (by omega) ‹_›; done)
     | (rw [qbR ‹_› ‹_› (by omega) ‹_›]; done)
     | (rw [qcc ‹_› ‹_› (by omega) ‹_›]; done)
     | (rw [qcd ‹_› ‹_› ‹_› ‹_› ‹_›]; done)
     | (rw [qb3 ‹_› ‹_› ‹_› ‹_› ‹_› ‹_›,huu,qbD (by omega),Bool.true_and]; done)
     | (rw [qbC ‹_› ‹_› ‹_› ‹_› ‹_› ‹_›]; done)
     | (rw [qb3 ‹_› ‹_› ‹_› ‹_› ‹_› ‹_›,huu,qgZ aF (by simpa using bk),Bool.false_and]; done)
   refine wp_skip ?_
   refine qaz ?_
   refine qaa ?_
   refine qap [0,1] kz ?_
   refine qaj [0,1] [] [(2,.p 0 0),(3,.p 1 0),(57,.v (.slice A9 l8.length aA)),(58,.v (.int .i64 ((l8.length:Nat):Int))),(59,.v (.int .i64 (IntKind.i64.wrap (((k:Nat):Int) + 1))))] ag bj fun gk cS=>?_
   refine qad (qaa ?_)
   obtain ⟨bE,cT,cU⟩:=ag.cutB cS 2 [⟨dF,0,[.int .i64 k1,.int .i64 y2,.int .i64 y3,.int .i64 y4,.int .i64 y5,.int .i64 y6,.int .i64 y7,.slice A9 l8.length aA],true⟩,⟨dI,0,[.int .i64 af,.slice ah ab.length ai,.bool aC,.slice bS aK.length bT,.slice bt aB.length bu],true⟩] [(2,.p 0 0),(3,.p 1 0),(57,.v (.slice A9 l8.length aA)),(58,.v (.int .i64 ((l8.length:Nat):Int))),(59,.v (.int .i64 (IntKind.i64.wrap (((k:Nat):Int) + 1))))]
   have cV:IntKind.i64.wrap (((k:Nat):Int) + 1) = ((k + 1:Nat):Int):=qaV (by omega)
   rw [cV] at bE
   exact ⟨l8.length - (k + 1),by omega,k + 1,rfl,by omega,by rw [huu]; exact qgY aF (by simpa using bk),bE.pk,cT,((((((cy.trans cD).trans cH).trans cK).trans bi).trans bC).trans cU)⟩
  have eY:=of_decide_eq_false aZ
  refine wp_exit ?_
  refine qay ?_
  refine qay ?_
  refine qaM ?_
  refine qaa ?_
  refine qac [0,1,2,3,4,5,6,7] kz ?_
  refine qaj [0,1,2,3] [4,5,6,7] [(72,.v (.slice A9 l8.length aA)),(74,.v (.slice bt aB.length bu))] ac aY fun gl cW=>?_
  refine qak (qal cW (f:=39) (vs:=[.slice A9 l8.length aA,.slice bt aB.length bu]) (d:=75) kz Tryz.call39 (qhE _ _ l8 _ _ aB _ _ ⟨dD,(dE.move ac.step nilM ac.imm),(fun i_ x_ h_=>((em i_ x_ h_).move ac.step nilM ac.imm))⟩ (ff.move ac.step nilM ac.imm)) ?_)
  rintro e_ gm ⟨gn,gp,rfl,cX,bn⟩
  have eZ:=cX.move (Step.refl _ Nil) nilM (ac.laid (G:=F) bn)
  refine ⟨_,rfl,fun gq cY=>?_⟩
  have bo:=ac.next_nil bn
  have e9:=ac.frN bn
  refine qaj [5,6,7] [] [(4,.v (.bool ((((qag l8 aB).length:Nat):Int) == 0)))] bo cY fun gt cZ=>?_
  refine qad (qaa ?_)
  refine wp_ret ?_
  refine qaL ?_
  refine qax ?_
  refine qaG cZ bo.cells (v:=.bool ((((qag l8 aB).length:Nat):Int) == 0)) kz ?_
  refine ⟨congrArg (fun b_=>Ending.returned (Value.bool b_)) ?_,bo.step⟩
  first
   | (rw [qcB ‹_›]; simp only [and1]; done)
   | (rw [qbu ‹_› ‹_›]; exact qbr hz (by omega); done)
   | (rw [qbu ‹_› ‹_›]; exact qbd (k:=k) (by omega) (by omega) ‹_›; done)
   | (rw [qbR ‹_› ‹_› (by omega) ‹_›]; done)
   | (rw [qcc ‹_› ‹_› (by omega) ‹_›]; done)
   | (rw [qcd ‹_› ‹_› ‹_› ‹_› ‹_›]; done)
   | (rw [qb3 ‹_› ‹_› ‹_› ‹_› ‹_› ‹_›,huu,qbD (by omega),Bool.true_and]; done)
   | (rw [qbC ‹_› ‹_› ‹_› ‹_› ‹_› ‹_›]; done)
 have fa:k1 ≠ 10:=by simpa using aX
 refine wp_skip ?_
 refine qaz ?_
 refine qaa ?_
 refine qbF 13 kz aa fun gu fb bF da=>?_
 refine qa4 [0,1,2,3,6,7,8,9] [(79,.v (.int .i64 af)),(81,.v (.int .i64 k1)),(85,.v (.int .i64 y6)),(87,.v (.int .i64 k1))] 6 (qab qah) (fun _ h=>h.cells) da aW fun gv db=>?_
 refine qa2 (i:=4) kz (qal db (f:=70) (vs:=[.int .i64 k1]) (d:=82) kz Tryz.call70 (qjh k1 _) ?_)
 rintro e_ gw ⟨rfl,bG⟩
 refine ⟨_,rfl,fun gx dc=>?_⟩
 have bH:=bF.next_nil bG
 have ay:=bF.frN bG
 have de:=TT.ofW ay bH
 refine ⟨fun _=>de,?_⟩
 refine qa2 (i:=5) kz (qal dc (f:=69) (vs:=[.int .i64 af,.int .i64 ((qbf k1:Nat):Int)]) (d:=83) kz Tryz.call69 (qfj af (qbf k1) (by first | decide | exact qbB _ | omega) _) ?_)
 rintro e_ gy ⟨df,dg,rfl,dh,di⟩
 refine ⟨_,rfl,fun gz dj=>?_⟩
 obtain ⟨bp,aG⟩:=bH.frFresh di (brow df dg 5 (be (qbf k1) af)) (Nat.le_refl _) dh
 have dl:=TT.ofW (ay.trans aG) bp
 refine ⟨fun _=>dl,?_⟩
 refine qa2 (i:=10) kz (qal dj (f:=70) (vs:=[.int .i64 k1]) (d:=88) kz Tryz.call70 (qjh k1 _) ?_)
 rintro e_ gA ⟨rfl,bI⟩
 refine ⟨_,rfl,fun gB dp=>?_⟩
 have bJ:=bp.next_nil bI
 have bq:=bp.frN bI
 have dq:=TT.ofW ((ay.trans aG).trans bq) bJ
 refine ⟨fun _=>dq,?_⟩
 refine qa2 (i:=11) kz (qal dp (f:=69) (vs:=[.int .i64 y6,.int .i64 ((qbf k1:Nat):Int)]) (d:=89) kz Tryz.call69 (qfj y6 (qbf k1) (by first | decide | exact qbB _ | omega) _) ?_)
 rintro e_ gC ⟨dr,dt,rfl,du,dv⟩
 refine ⟨_,rfl,fun gD dw=>?_⟩
 obtain ⟨az,bK⟩:=bJ.frFresh dv (brow dr dt 5 (be (qbf k1) y6)) (Nat.le_refl _) du
 have dx:=TT.ofW (((ay.trans aG).trans bq).trans bK) az
 refine ⟨fun _=>dx,?_⟩
 refine qa2 (i:=12) kz (qal dw (f:=11) (vs:=[.slice df ((be (qbf k1) af).length) dg,.slice dr ((be (qbf k1) y6).length) dt]) (d:=90) kz Tryz.call11 (qlv _ _ _ _ (be (qbf k1) af) (be (qbf k1) y6) _ _ (qdq (az.own 0 _ rfl) (by first | omega | (rw [qbH]; decide) | (simp only [be_length]; exact Nat.le_trans (qbB _) (by decide)) | (have:=hroom; omega) | (have:=hmade; omega) | (simp only [List.length_append,List.length_nil]; omega)) (F:=fun _ _=>True) (fun _ _ _=>trivial)) (qdq (az.own 1 _ rfl) (by first | omega | (rw [qbH]; decide) | (simp only [be_length]; exact Nat.le_trans (qbB _) (by decide)) | (have:=hroom; omega) | (have:=hmade; omega) | (simp only [List.length_append,List.length_nil]; omega)) (F:=fun _ _=>True) (fun _ _ _=>trivial))) ?_)
 rintro e_ gE ⟨rfl,bL⟩
 refine ⟨_,rfl,fun gF dy=>?_⟩
 have aH:=az.next_nil bL
 have dA:=az.frN bL
 have dB:=TT.ofW ((((ay.trans aG).trans bq).trans bK).trans dA) aH
 refine ⟨fun _=>dB,?_⟩
 refine qa2 (i:=13) kz (qco [4] aH.cells dy (env':=[(4,.v (.bool (decide (be (qbf k1) af = be (qbf k1) y6))))]) kz fun gG dC=>?_)
 refine ⟨fun h=>absurd rfl h,?_⟩
 refine qa3 kz ?_ _
 refine qaa ?_
 refine wp_ret ?_
 refine qaG dC aH.cells (v:=.bool (decide (be (qbf k1) af = be (qbf k1) y6))) kz ?_
 refine ⟨congrArg (fun b_=>Ending.returned (Value.bool b_)) ?_,aH.step⟩
 first
  | (rw [qcB ‹_›]; simp only [and1]; done)
  | (rw [qbu ‹_› ‹_›]; exact qbr hz (by omega); done)
  | (rw [qbu ‹_› ‹_›]; exact qbd (k:=k) (by omega) (by omega) ‹_›; done)
  | (rw [qbR ‹_› ‹_› (by omega) ‹_›]; done)
  | (rw [qcc ‹_› ‹_› (by omega) ‹_›]; done)
  | (rw [qcd ‹_› ‹_› ‹_› ‹_› ‹_›]; done)
  | (rw [qb3 ‹_› ‹_› ‹_› ‹_› ‹_› ‹_›,huu,qbD (by omega),Bool.true_and]; done)
  | (rw [qbC ‹_› ‹_› ‹_› ‹_› ‹_› ‹_›]; done)
theorem qkw:∀ d,qjl d
 | 0=>fun cf f ct t w F hf hd ht=>by
  obtain ⟨k,x1,x2,x3,x4,x5,x6,l,A,c,xs,rfl,_⟩:=hf.open_
  rw [qeQ] at hd; omega
 | d + 1=>qg4 (qkw d)
end Go.Proofs.YtdlaobdadlmcdabGreatDoor.ME